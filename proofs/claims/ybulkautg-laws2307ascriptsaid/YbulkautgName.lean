import Derived.Test.YbulkautgProg
import Derived.WalkKit
import Derived.WalkSpells
import Derived.WalkLawsBesides
namespace Go.Proofs.Ybulkautg
open Go.RowKit

/-- The table of names. -/
def tab : Nat → ByteArray
  | 0 => ⟨#[85, 110, 105, 116]⟩
  | 1 => ⟨#[83, 101, 114, 118, 105, 99, 101]⟩
  | 2 => ⟨#[73, 110, 115, 116, 97, 108, 108]⟩
  | _ => ⟨#[83, 111, 99, 107, 101, 116]⟩
theorem tab_size (i : Nat) : (tab i).size ≤ 7 := by
  match i with
  | 0 => decide
  | 1 => decide
  | 2 => decide
  | _ + 3 => show ByteArray.size ⟨#[83, 111, 99, 107, 101, 116]⟩ ≤ 7; decide

set_option maxHeartbeats 400000 in
theorem name3 (z : Int) (h0 : 0 ≤ z) (h1 : z ≤ 255) (w : World) : Calls Yba.prog 4 #[.int .u8 z, .int .i64 3] w fun e w' => e = .returned (.string (tab (z % 3).toNat)) ∧ w' = w := by
  have h : z % 3 = 0 ∨ z % 3 = 1 ∨ z % 3 = 2 := by omega
  rcases h with h | h | h
  · have e : tab (z % 3).toNat = ⟨#[85, 110, 105, 116]⟩ := by rw [h]; rfl
    rw [e]
    go_enter Yba.func4, Yba.ntmps4
    go_wp2
    go_ret
    exact ⟨rfl, rfl⟩
  · have e : tab (z % 3).toNat = ⟨#[83, 101, 114, 118, 105, 99, 101]⟩ := by rw [h]; rfl
    rw [e]
    go_enter Yba.func4, Yba.ntmps4
    go_wp2
    go_ret
    exact ⟨rfl, rfl⟩
  · have e : tab (z % 3).toNat = ⟨#[73, 110, 115, 116, 97, 108, 108]⟩ := by rw [h]; rfl
    rw [e]
    go_enter Yba.func4, Yba.ntmps4
    go_wp2
    go_ret
    exact ⟨rfl, rfl⟩

set_option maxHeartbeats 400000 in
theorem name4 (z : Int) (h0 : 0 ≤ z) (h1 : z ≤ 255) (w : World) : Calls Yba.prog 4 #[.int .u8 z, .int .i64 4] w fun e w' => e = .returned (.string (tab (z % 4).toNat)) ∧ w' = w := by
  have h : z % 4 = 0 ∨ z % 4 = 1 ∨ z % 4 = 2 ∨ z % 4 = 3 := by omega
  rcases h with h | h | h | h
  · have e : tab (z % 4).toNat = ⟨#[85, 110, 105, 116]⟩ := by rw [h]; rfl
    rw [e]
    go_enter Yba.func4, Yba.ntmps4
    go_wp2
    go_ret
    exact ⟨rfl, rfl⟩
  · have e : tab (z % 4).toNat = ⟨#[83, 101, 114, 118, 105, 99, 101]⟩ := by rw [h]; rfl
    rw [e]
    go_enter Yba.func4, Yba.ntmps4
    go_wp2
    go_ret
    exact ⟨rfl, rfl⟩
  · have e : tab (z % 4).toNat = ⟨#[73, 110, 115, 116, 97, 108, 108]⟩ := by rw [h]; rfl
    rw [e]
    go_enter Yba.func4, Yba.ntmps4
    go_wp2
    go_ret
    exact ⟨rfl, rfl⟩
  · have e : tab (z % 4).toNat = ⟨#[83, 111, 99, 107, 101, 116]⟩ := by rw [h]; rfl
    rw [e]
    go_enter Yba.func4, Yba.ntmps4
    go_wp2
    go_ret
    exact ⟨rfl, rfl⟩
end Go.Proofs.Ybulkautg
