import Derived.Test.YbulkaurqWin
import Derived.RegionTactic
import Derived.ChangeAlike
namespace Go.Proofs.Ybulkaurq
open Go.RowKit

theorem setCell_heap {w : World} {b o : Nat} {cs : Array Value} {t : TypeId} {fz : Nat × Nat} (h : w.heap[b]? = some (.cells cs t fz)) (v : Value) : (w.setCell ⟨b, o, none⟩ v).heap[b]? = some (.cells (cs.setIfInBounds o v) t fz) := by
  have e : (w.setCell ⟨b, o, none⟩ v).heap[b]? = (w.heap[b]?).map fun
      | .cells c elem frozen => .cells (c.setIfInBounds o v) elem frozen
      | o => o := by
    simp [World.setCell, Array.getElem?_modify]
    cases w.heap[b]? with
    | none => rfl
    | some x => cases x <;> rfl
  rw [e, h]
  rfl

theorem Win.setTop {w : World} {b top : Nat} {bm : Nat → Nat} (h : Win w b top bm) (t : Nat) : Win (w.setCell ⟨b, 0, none⟩ (.int .u32 (t : Int))) b t bm := by
  unfold Win
  rw [setCell_heap h]
  rfl
theorem Win.setWord {w : World} {b top : Nat} {bm : Nat → Nat} (h : Win w b top bm) (i v : Nat) (hi : i < 5) : Win (w.setCell ⟨b, 1 + i, none⟩ (.int .u64 (v : Int))) b top (upd bm i v) := by
  unfold Win
  rw [setCell_heap h]
  match i, hi with
  | 0, _ => rfl
  | 1, _ => rfl
  | 2, _ => rfl
  | 3, _ => rfl
  | 4, _ => rfl
theorem only_setCell (w : World) (b o : Nat) (v : Value) : w.grownBy (w.setCell ⟨b, o, none⟩ v) (some b) :=
  ⟨rfl, rfl, rfl, by simp [World.setCell], fun k _ hk => Below.heap_setCell _ _ _ _ (by intro e; apply hk; rw [e])⟩
theorem only_draw {a b : World} {r : Option Nat} (h : a.grownBy b r) : a.grownBy b.drew r := ⟨h.os, h.tape, h.output, h.size, h.block⟩
theorem only_trans {a b c : World} {r : Option Nat} (h : a.grownBy b r) (k : b.grownBy c r) : a.grownBy c r :=
  ⟨k.os.trans h.os, k.tape.trans h.tape, k.output.trans h.output, Nat.le_trans h.size k.size, fun i hi hr => (k.block i (Nat.lt_of_lt_of_le hi h.size) hr).trans (h.block i hi hr)⟩

def Accepted (b top : Nat) (bm : Nat → Nat) (q : Nat) (w : World) (e : Ending) (w' : World) : Prop :=
  e = .returned (.bool true) ∧ Win w' b (topP top q) (mark (moved top bm q) q) ∧ w.grownBy w' (some b) ∧ w'.heap.size = w.heap.size

set_option maxHeartbeats 400000 in
theorem accept_no (b top q : Nat) (bm : Nat → Nat) (w : World) (h : Hid (Win w b top bm)) (ht : top < 4294967296) (hq : q < 4294967296) (hb : Hid (∀ i, bm i < 18446744073709551616)) (hc : checkP top bm q = false) :
    Calls Yba.prog 13 #[.pointer (some ⟨b, 0, none⟩), .int .u32 (q : Int)] w fun e w' => e = .returned (.bool false) ∧ w' = w := by
  go_enter Yba.func13, Yba.ntmps13
  go_wp2_with (go_at_call 17; refine (check_any b top q bm _ h.out ht hq hb.out).mono ?_; rintro e w' ⟨rfl, rfl⟩)
  go_ret
  exact ⟨rfl, rfl⟩

set_option maxHeartbeats 400000 in
theorem accept_in (b top q : Nat) (bm : Nat → Nat) (w : World) (h : Hid (Win w b top bm)) (ht : top < 4294967296) (hq : q < 4294967296) (hb : Hid (∀ i, bm i < 18446744073709551616)) (hc : checkP top bm q = true) (hle : ¬ (top : Int) < (q : Int)) :
    Calls Yba.prog 13 #[.pointer (some ⟨b, 0, none⟩), .int .u32 (q : Int)] w (Accepted b top bm q w) := by
  have h0 := h.out.top
  have h1 := h.out.word (ix q) (ix_lt q)
  have hf := h.out.free (1 + ix q)
  have h2 := or_msk (bm (ix q)) q (hb.out _)
  have h3 := ix_lt q
  go_enter Yba.func13, Yba.ntmps13
  go_wp2_with (first | (go_at_call 17; refine (check_any b top q bm _ h.out ht hq hb.out).mono ?_; rintro e w' ⟨rfl, rfl⟩) | (go_at_call 18; refine (bit_any q hq _).mono ?_; rintro e w' ⟨rfl, rfl⟩))
  go_region
  go_wp2
  go_ret
  have e1 : topP top q = top := by unfold topP; rw [if_neg (by omega)]
  have e2 : moved top bm q = bm := by unfold moved; rw [if_neg (by omega)]
  refine ⟨rfl, ?_, only_draw (only_setCell _ _ _ _), by simp [World.setCell]⟩
  rw [e1, e2]
  exact h.out.setWord (ix q) _ h3

theorem clear_zero (bm : Nat → Nat) (a : Nat) : clear bm a 0 = bm := rfl
theorem clear_succ (bm : Nat → Nat) (a n : Nat) : clear bm a (n + 1) = upd (clear bm a n) ((a + n) % 5) 0 := rfl
theorem Win.heap {w w' : World} {b top : Nat} {bm : Nat → Nat} (h : Win w b top bm) (e : w'.heap = w.heap) : Win w' b top bm := by unfold Win; rw [e]; exact h

set_option maxHeartbeats 800000 in
/-- Far beyond: the whole bitmap is cleared. -/
theorem accept_far (b top q : Nat) (bm : Nat → Nat) (w : World) (h : Hid (Win w b top bm)) (ht : top < 4294967296) (hq : q < 4294967296) (hb : Hid (∀ i, bm i < 18446744073709551616)) (hc : checkP top bm q = true) (hlt : (top : Int) < (q : Int)) (hfar : (5 : Int) ≤ (q : Int) / 64 - (top : Int) / 64) :
    Calls Yba.prog 13 #[.pointer (some ⟨b, 0, none⟩), .int .u32 (q : Int)] w (Accepted b top bm q w) := by
  have h0 := h.out.top
  have c0 := h.out.word 0 (by decide)
  have c1 := h.out.word 1 (by decide)
  have c2 := h.out.word 2 (by decide)
  have c3 := h.out.word 3 (by decide)
  have c4 := h.out.word 4 (by decide)
  have f0 := h.out.free 0
  have f1 := h.out.free 1
  have f2 := h.out.free 2
  have f3 := h.out.free 3
  have f4 := h.out.free 4
  have f5 := h.out.free 5
  go_enter Yba.func13, Yba.ntmps13
  go_wp2_with (first | (go_at_call 17; refine (check_any b top q bm _ h.out ht hq hb.out).mono ?_; rintro e w' ⟨rfl, rfl⟩))
  refine (bit_any q hq _).mono ?_
  rintro e w2 ⟨rfl, hw⟩
  have HW : Hid (Win w2 b q (fun _ => 0)) := by
    rw [hw]
    exact (((((h.out.setWord 0 0 (by decide)).setWord 1 0 (by decide)).setWord 2 0 (by decide)).setWord 3 0 (by decide)).setWord 4 0 (by decide)).setTop q
  have HG : Hid (w'.grownBy w2 (some b)) := by
    rw [hw]
    exact only_trans (only_trans (only_trans (only_trans (only_trans (only_setCell _ _ _ _) (only_setCell _ _ _ _)) (only_setCell _ _ _ _)) (only_setCell _ _ _ _)) (only_setCell _ _ _ _)) (only_setCell _ _ _ _)
  have HS : Hid (w2.heap.size = w'.heap.size) := by
    rw [hw]
    simp [Hid, World.setCell]
  clear hw h0 c0 c1 c2 c3 c4 f0 f1 f2 f3 f4 f5
  have h1 := HW.out.word (ix q) (ix_lt q)
  have hf := HW.out.free (1 + ix q)
  have h2 : bits .or .u64 0 (msk q : Int) = ((0 ||| msk q : Nat) : Int) := or_msk 0 q (by decide)
  have h3 := ix_lt q
  go_wp2
  go_region
  go_wp2
  go_ret
  have e1 : topP top q = q := by unfold topP; rw [if_pos (by omega)]
  have e2 : moved top bm q = fun _ => 0 := by unfold moved; rw [if_pos (by omega), if_pos (by omega)]
  refine ⟨rfl, ?_, only_draw (only_trans HG.out (only_setCell _ _ _ _)), by have := HS.out; simp [World.setCell]; omega⟩
  have e3 : mark (fun _ => 0) q = upd (fun _ => 0) (ix q) (msk q) := by simp [mark, ix, msk]
  rw [e1, e2, e3]
  exact HW.out.setWord (ix q) (msk q) h3

set_option maxHeartbeats 800000 in
/-- A little beyond: the words between are cleared. -/
theorem accept_near (b top q : Nat) (bm : Nat → Nat) (w : World) (h : Hid (Win w b top bm)) (ht : top < 4294967296) (hq : q < 4294967296) (hb : Hid (∀ i, bm i < 18446744073709551616)) (hc : checkP top bm q = true) (hlt : (top : Int) < (q : Int)) (hnear : (q : Int) / 64 - (top : Int) / 64 < 5) :
    Calls Yba.prog 13 #[.pointer (some ⟨b, 0, none⟩), .int .u32 (q : Int)] w (Accepted b top bm q w) := by
  have h0 := h.out.top
  go_enter Yba.func13, Yba.ntmps13
  go_wp2_with (first | (go_at_call 17; refine (check_any b top q bm _ h.out ht hq hb.out).mono ?_; rintro e w' ⟨rfl, rfl⟩))
  go_loopw [5] (fun u wr => ∃ n : Nat, n ≤ q / 64 - top / 64 ∧ u = .int .u32 ((top / 64 + 1 + n : Nat) : Int) ∧ Hid (Win wr b top (clear bm (top / 64 + 1) n)) ∧ Hid (w'.grownBy wr (some b)) ∧ Hid (wr.heap.size = w'.heap.size))
    (fun u _ => q / 64 + 1 - (intOf u).toNat)
  case atStart => exact ⟨0, Nat.zero_le _, by go_num, h, World.grownBy.refl _ _, rfl⟩
  case round =>
    obtain ⟨n, hn, rfl, hW, hG, hS⟩ := hrel
    clear h0
    by_cases hr : n < q / 64 - top / 64
    · have hi : (top / 64 + 1 + n) % 5 < 5 := by omega
      have hcell := hW.out.word ((top / 64 + 1 + n) % 5) hi
      have hfree := hW.out.free (1 + (top / 64 + 1 + n) % 5)
      have R1 : Hid (Win (wr.setCell ⟨b, 1 + (top / 64 + 1 + n) % 5, none⟩ (.int .u64 0)) b top (clear bm (top / 64 + 1) (n + 1))) := hW.out.setWord _ 0 hi
      have R2 : Hid (w'.grownBy (wr.setCell ⟨b, 1 + (top / 64 + 1 + n) % 5, none⟩ (.int .u64 0)) (some b)) := only_trans hG.out (only_setCell _ _ _ _)
      have R3 : Hid ((wr.setCell ⟨b, 1 + (top / 64 + 1 + n) % 5, none⟩ (.int .u64 0)).heap.size = w'.heap.size) := by have := hS.out; simp [Hid, World.setCell]; omega
      go_wp2
      go_roundw
      case rel => exact ⟨n + 1, by omega, by go_num, R1, R2, R3⟩
      case measure => simp [intOf]; omega
    · obtain rfl : n = q / 64 - top / 64 := by omega
      have e1 : Hid (topP top q = q) := by unfold topP Hid; rw [if_pos (by omega)]
      have e2 : Hid (moved top bm q = clear bm (top / 64 + 1) (q / 64 - top / 64)) := by unfold moved Hid; rw [if_pos (by omega), if_neg (by omega)]
      have hbm : Hid (∀ i, clear bm (top / 64 + 1) (q / 64 - top / 64) i < 18446744073709551616) := clear_lt bm _ hb.out _
      generalize clear bm (top / 64 + 1) (q / 64 - top / 64) = bm' at hW e2 hbm
      have h0 := hW.out.top
      have hf0 := hW.out.free 0
      go_wp2_with fail
      refine (bit_any q hq _).mono ?_
      rintro e w2 ⟨rfl, hw⟩
      have HW : Hid (Win w2 b q bm') := by
        rw [hw]
        exact hW.out.setTop q
      have HG : Hid (w'.grownBy w2 (some b)) := by
        rw [hw]
        exact only_trans hG.out (only_setCell _ _ _ _)
      have HS : Hid (w2.heap.size = w'.heap.size) := by
        rw [hw]
        have := hS.out
        simp [Hid, World.setCell]
        omega
      clear hw h0 hf0 hW hG hS
      have h1 := HW.out.word (ix q) (ix_lt q)
      have hf := HW.out.free (1 + ix q)
      have h2 := or_msk (bm' (ix q)) q (hbm.out _)
      have h3 := ix_lt q
      go_wp2
      go_region
      go_wp2
      go_ret
      refine ⟨rfl, ?_, only_draw (only_trans HG.out (only_setCell _ _ _ _)), by have := HS.out; simp [World.setCell]; omega⟩
      rw [e1.out, e2.out]
      exact HW.out.setWord (ix q) _ h3

/-- (*replayWindow).accept. -/
theorem accept_any (b top q : Nat) (bm : Nat → Nat) (w : World) (h : Win w b top bm) (ht : top < 4294967296) (hq : q < 4294967296) (hb : ∀ i, bm i < 18446744073709551616) (hc : checkP top bm q = true) :
    Calls Yba.prog 13 #[.pointer (some ⟨b, 0, none⟩), .int .u32 (q : Int)] w (Accepted b top bm q w) := by
  by_cases hlt : top < q
  · by_cases hfar : 5 ≤ q / 64 - top / 64
    · exact accept_far b top q bm w h ht hq hb hc (by omega) (by omega)
    · exact accept_near b top q bm w h ht hq hb hc (by omega) (by omega)
  · exact accept_in b top q bm w h ht hq hb hc (by omega)
end Go.Proofs.Ybulkaurq
