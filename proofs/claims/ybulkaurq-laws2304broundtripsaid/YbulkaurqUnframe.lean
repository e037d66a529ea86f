import Derived.Test.YbulkaurqNatt
namespace Go.Proofs.Ybulkaurq
open Go.RowKit

/-- A datagram. -/
abbrev dgram (p rp : Int) (v : Value) : Value := .agg #[.int .u64 0, .int .u64 0, .pointer none, .int .u16 p, .int .u64 0, .int .u64 0, .pointer none, .int .u16 rp, v]

/-- What CarriesIKE answers of v, in every world beyond w. -/
def Carries (w : World) (v : Value) (z : Bool) : Prop := ∀ W, Below w.heap.size w W → Calls Yba.prog 16 #[v] W fun e w' => e = .returned (.bool z) ∧ Below W.heap.size W w'

set_option maxHeartbeats 400000 in
theorem unf_other (p rp : Int) (ao : Option Addr) (n c : Nat) (w : World) (hp : (p != 4500) = true) :
    Calls Yba.prog 7 #[dgram p rp (.slice ao n c)] w fun e w' => e = .returned (.tuple #[.slice ao n c, .bool true]) ∧ Below w.heap.size w w' := by
  go_enter Yba.func7, Yba.ntmps7
  go_wp2_with (go_at_call 15; refine (port_any p _).mono ?_; rintro e w' ⟨rfl, o, rfl⟩)
  go_ret2
  exact ⟨rfl, below_new (below_new (Below.refl _ _))⟩

set_option maxHeartbeats 400000 in
theorem unf_no (rp : Int) (ao : Option Addr) (n c : Nat) (w : World) (hC : Hid (Carries w (.slice ao n c) false)) :
    Calls Yba.prog 7 #[dgram 4500 rp (.slice ao n c)] w fun e w' => e = .returned (.tuple #[.slice none 0 0, .bool false]) ∧ Below w.heap.size w w' := by
  go_enter Yba.func7, Yba.ntmps7
  go_wp2_with (go_at_call 15; refine (port_any 4500 _).mono ?_; rintro e w' ⟨rfl, o, rfl⟩)
  refine (hC.out _ (below_new (below_new (Below.refl _ _)))).mono ?_
  rintro e w' ⟨rfl, hb⟩
  have HB : Hid (Below w.heap.size w w') := below_then (below_new (below_new (Below.refl _ _))) hb
  clear hb
  go_wp2
  go_ret2
  exact ⟨rfl, HB.out⟩

/-- Four bytes cut off. -/
def Cut4 (g o n c : Nat) (w : World) (e : Ending) (w' : World) : Prop :=
  ∃ o' c', e = .returned (.tuple #[.slice (some ⟨g, o', none⟩) (n - 4) c', .bool true]) ∧ c' = c - 4 ∧ (4 < c → o' = o + 4) ∧ (c = 4 → o' = o) ∧ Below w.heap.size w w'

set_option maxHeartbeats 400000 in
theorem unf_yes (rp : Int) (g o n c : Nat) (w : World) (hn : 4 ≤ n) (hC : Hid (Carries w (.slice (some ⟨g, o, none⟩) n c) true)) :
    Calls Yba.prog 7 #[dgram 4500 rp (.slice (some ⟨g, o, none⟩) n c)] w (Cut4 g o n c w) := by
  go_enter Yba.func7, Yba.ntmps7
  go_wp2_with (go_at_call 15; refine (port_any 4500 _).mono ?_; rintro e w' ⟨rfl, ob, rfl⟩)
  refine (hC.out _ (below_new (below_new (Below.refl _ _)))).mono ?_
  rintro e w' ⟨rfl, hb⟩
  have hcell : w'.cell? ⟨w.heap.size, 8, none⟩ = some (.slice (some ⟨g, o, none⟩) n c) := by
    rw [hb.cell (p := ⟨w.heap.size, 8, none⟩) (by simp; omega)]
    simp
  have HB : Hid (Below w.heap.size w w') := below_then (below_new (below_new (Below.refl _ _))) hb
  clear hb
  go_wp2
  all_goals
    go_ret2
    exact ⟨_, _, rfl, by omega, fun _ => by first | rfl | omega, fun _ => by first | rfl | omega, HB.out⟩
end Go.Proofs.Ybulkaurq
