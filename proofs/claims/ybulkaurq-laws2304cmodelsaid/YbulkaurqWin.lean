import Derived.Test.YbulkaurqProg
import Derived.Test.YbulkaurqWinPlain
import Derived.WalkKit
import Derived.WalkSpells
import Derived.WalkLawsBesides
namespace Go.Proofs.Ybulkaurq
open Go.RowKit

theorem fits64 (n : Int) (h0 : 0 ≤ n) (h1 : n < 2 ^ 64) : IntKind.u64.wrap n = n := by rw [IntKind.wrap_u64]; omega

def ix (q : Nat) : Nat := q / 64 % 5
def msk (q : Nat) : Nat := 2 ^ (q % 64)
theorem ix_lt (q : Nat) : ix q < 5 := by unfold ix; omega
theorem msk_lt (q : Nat) : msk q < 18446744073709551616 := by unfold msk; exact Nat.pow_lt_pow_right (n := 64) (by decide) (by omega)
theorem wrap_msk (q : Nat) : IntKind.u64.wrap (2 ^ (q % 64)) = (msk q : Int) := by
  have h := msk_lt q
  have e : ((2 : Int) ^ (q % 64)) = (msk q : Int) := by simp [msk]
  rw [e]
  exact fits64 _ (by omega) (by omega)

set_option maxHeartbeats 400000 in
theorem bit_any (q : Nat) (hq : q < 4294967296) (w : World) : Calls Yba.prog 18 #[.int .u32 (q : Int)] w fun e w' => e = .returned (.tuple #[.int .i64 (ix q : Int), .int .u64 (msk q : Int)]) ∧ w' = w := by
  have e1 : Hid ((ix q : Int) = (q : Int) / 64 % 5) := by unfold ix Hid; omega
  have e2 : Hid (IntKind.u64.wrap (2 ^ (q % 64)) = (msk q : Int)) := wrap_msk q
  go_enter Yba.func18, Yba.ntmps18
  go_wp2
  go_ret2
  exact ⟨by rw [e1.out, ← e2.out]; rfl, rfl⟩

set_option maxHeartbeats 400000 in
theorem seq_any (s : Int) (f : Bool) (w : World) : Calls Yba.prog 11 #[.agg #[.int .u32 s, .bool f]] w fun e w' => e = .returned (.int .u32 (if f then (s * 29) % 4294967296 else s)) ∧ w' = w.alloc (.cells #[.int .u32 s, .bool f] 51) := by
  cases f
  · go_enter Yba.func11, Yba.ntmps11
    go_wp2
    go_ret
    exact ⟨rfl, rfl⟩
  · go_enter Yba.func11, Yba.ntmps11
    go_wp2
    go_ret
    exact ⟨rfl, rfl⟩

/-- The window's six cells. -/
def winArr (top : Nat) (bm : Nat → Nat) : Array Value := #[.int .u32 (top : Int), .int .u64 (bm 0 : Int), .int .u64 (bm 1 : Int), .int .u64 (bm 2 : Int), .int .u64 (bm 3 : Int), .int .u64 (bm 4 : Int)]
/-- The window lies in block b. -/
def Win (w : World) (b top : Nat) (bm : Nat → Nat) : Prop := w.heap[b]? = some (.cells (winArr top bm) 48 (0, 0))

theorem Win.top {w : World} {b top : Nat} {bm : Nat → Nat} (h : Win w b top bm) : w.cell? ⟨b, 0, none⟩ = some (.int .u32 (top : Int)) := by
  rw [cell_of_row w b 0 (winArr top bm) 48 (0, 0) h]; rfl
theorem Win.word {w : World} {b top : Nat} {bm : Nat → Nat} (h : Win w b top bm) (i : Nat) (hi : i < 5) : w.cell? ⟨b, 1 + i, none⟩ = some (.int .u64 (bm i : Int)) := by
  rw [cell_of_row w b (1 + i) (winArr top bm) 48 (0, 0) h]
  match i, hi with
  | 0, _ => rfl
  | 1, _ => rfl
  | 2, _ => rfl
  | 3, _ => rfl
  | 4, _ => rfl
theorem Win.free {w : World} {b top : Nat} {bm : Nat → Nat} (h : Win w b top bm) (o : Nat) : w.frozen? ⟨b, o, none⟩ = false := by
  simp [World.frozen?, show w.heap[b]? = some (.cells (winArr top bm) 48 (0, 0)) from h]

theorem and_msk (x q : Nat) (hx : x < 18446744073709551616) : bits .and .u64 (x : Int) (msk q : Int) = ((x &&& msk q : Nat) : Int) :=
  (bits_nat .u64 64 (by decide) fits64 x (msk q) (by omega) (by have := msk_lt q; omega)).1
theorem or_msk (x q : Nat) (hx : x < 18446744073709551616) : bits .or .u64 (x : Int) (msk q : Int) = ((x ||| msk q : Nat) : Int) :=
  (bits_nat .u64 64 (by decide) fits64 x (msk q) (by omega) (by have := msk_lt q; omega)).2

theorem has_and (bm : Nat → Nat) (q : Nat) : (!(has bm q)) = (((bm (ix q) &&& msk q : Nat) : Int) == 0) := by
  have h : (bm (ix q) &&& msk q = 0) ↔ has bm q = false := by
    unfold has msk ix
    constructor
    · intro h
      have := congrArg (fun x => x.testBit (q % 64)) h
      simpa [Nat.testBit_and, Nat.testBit_two_pow] using this
    · intro h
      apply Nat.eq_of_testBit_eq
      intro j
      rw [Nat.testBit_and, Nat.testBit_two_pow, Nat.zero_testBit]
      by_cases hj : q % 64 = j
      · rw [← hj, h]; rfl
      · simp [hj]
  rw [Bool.eq_iff_iff]
  simp [h]

set_option maxHeartbeats 400000 in
theorem check_any (b top q : Nat) (bm : Nat → Nat) (w : World) (h : Win w b top bm) (ht : top < 4294967296) (hq : q < 4294967296) (hb : ∀ i, bm i < 18446744073709551616) :
    Calls Yba.prog 17 #[.pointer (some ⟨b, 0, none⟩), .int .u32 (q : Int)] w fun e w' => e = .returned (.bool (checkP top bm q)) ∧ w' = w := by
  have h0 := h.top
  have h1 := h.word (ix q) (ix_lt q)
  have h2 := and_msk (bm (ix q)) q (hb _)
  have h3 := ix_lt q
  clear h hb
  by_cases c1 : q = 0
  · have e : checkP top bm q = false := by simp [checkP, c1]
    rw [e]
    subst c1
    clear e h0 h1 h2 h3
    go_enter Yba.func17, Yba.ntmps17
    go_wp2_with fail
    go_ret
    exact ⟨rfl, rfl⟩
  by_cases c2 : top < q
  · have e : checkP top bm q = true := by simp [checkP, c1, c2]
    rw [e]
    have d1 : ((q : Int) == 0) = false := by simp; omega
    have d2 : (top : Int) < (q : Int) := by omega
    clear e h1 h2 h3
    go_enter Yba.func17, Yba.ntmps17
    go_wp2_with fail
    go_ret
    exact ⟨rfl, rfl⟩
  by_cases c3 : 256 ≤ top - q
  · have e : checkP top bm q = false := by simp [checkP, c1, c2, c3]
    rw [e]
    have d1 : ((q : Int) == 0) = false := by simp; omega
    have d2 : ¬ ((top : Int) < (q : Int)) := by omega
    have d3 : (256 : Int) ≤ (top : Int) - (q : Int) := by omega
    clear e h1 h2 h3
    go_enter Yba.func17, Yba.ntmps17
    go_wp2_with fail
    go_ret
    exact ⟨rfl, rfl⟩
  · have e : checkP top bm q = !(has bm q) := by simp [checkP, c1, c2, c3]
    have e' : Hid (checkP top bm q = (((bm (ix q) &&& msk q : Nat) : Int) == 0)) := by
      unfold Hid
      rw [e, has_and]
    have d1 : ((q : Int) == 0) = false := by simp; omega
    have d2 : ¬ ((top : Int) < (q : Int)) := by omega
    clear e
    go_enter Yba.func17, Yba.ntmps17
    go_wp2_with (go_at_call 18; refine (bit_any q hq _).mono ?_; rintro e w' ⟨rfl, rfl⟩)
    go_ret
    exact ⟨by rw [e'.out]; rfl, rfl⟩
end Go.Proofs.Ybulkaurq
