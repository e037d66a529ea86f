import Derived.Test.YbulkautuClo
namespace Go.Proofs.Ybulkautu
open Go.RowKit

structure Al (w0 w : World) (n kh : Nat) (O Nn : Nat → Int) (sec f : Nat → Nat) (bS bH bT bC : Nat) (z : Int) (sv : Value) (en : Int) : Prop where
  st : St w0 w n n kh O Nn sec f bS bH
  tal : TalAt w bT z sv en
  box : BoxAt w bC bT
  lT : w0.heap.size ≤ bT

variable {w0 w w' : World} {n k kh : Nat} {O Nn : Nat → Int} {sec f : Nat → Nat} {bS bH bT bC : Nat} {z en : Int} {sv : Value}

theorem Al.ext (h : Al w0 w n kh O Nn sec f bS bH bT bC z sv en) (hg : w.grownBy w' none) : Al w0 w' n kh O Nn sec f bS bH bT bC z sv en := ⟨h.st.ext hg, h.tal.ext hg, h.box.ext hg, h.lT⟩
theorem Al.setNeed (h : Al w0 w n kh O Nn sec f bS bH bT bC z sv en) (z' : Int) : Al w0 (w.setCell ⟨bT, 0, none⟩ (.int .u32 z')) n kh O Nn sec f bS bH bT bC z' sv en := by
  have K : Kp 38 w (w.setCell ⟨bT, 0, none⟩ (.int .u32 z')) := Kp.set h.tal 0 _
  refine ⟨h.st.keep K ((Below.refl _ _).setCell (p := ⟨bT, 0, none⟩) h.lT _) (by decide) (by decide) (by decide), ?_, K _ _ _ _ h.box (by decide), h.lT⟩
  unfold TalAt
  rw [setCell_heap h.tal]
  rfl

/-- What IndexFunc answers. -/
def IdxPost (w0 : World) (n : Nat) (O Nn : Nat → Int) (sec : Nat → Nat) (bS bH bT bC : Nat) (z : Int) (sv : Value) (en : Int) (e : Ending) (w' : World) : Prop :=
  (e = .returned (.int .i64 (-1)) ∧ (∀ q, q < n → 0 < O q) ∧ Al w0 w' n n O Nn sec id bS bH bT bC z sv en) ∨
  ∃ i, i < n ∧ e = .returned (.int .i64 (i : Int)) ∧ (∀ q, q < i → 0 < O q) ∧ ¬ 0 < O i ∧ Al w0 w' n n O Nn sec id bS bH bT bC ((z - Nn i) % 4294967296) sv en

set_option maxHeartbeats 400000 in
theorem idx_walk (w : World) (a : Option Addr) (c : Nat) (hn : n ≤ 1024) (ha : 0 < n → a = some ⟨bH, 0, none⟩) (h : Hid (Al w0 w n n O Nn sec id bS bH bT bC z sv en)) :
    Calls Yba.prog 7 #[.slice a n c, .func (.func 6) #[] #[.pointer (some ⟨bC, 0, none⟩)]] w (IdxPost w0 n O Nn sec bS bH bT bC z sv en) := by
  go_enter Yba.func7, Yba.ntmps7
  go_wp2_with fail
  go_loopw [8] (fun i wr => ∃ j : Nat, j ≤ n ∧ i = .int .i64 (j : Int) ∧ Hid (∀ q, q < j → 0 < O q) ∧ Hid (Al w0 wr n n O Nn sec id bS bH bT bC z sv en)) (fun i _ => n - (intOf i).toNat)
  case atStart => exact ⟨0, Nat.zero_le _, rfl, fun q hq => absurd hq (Nat.not_lt_zero _), h⟩
  case round =>
    clear h
    obtain ⟨j, hj, rfl, hall, h⟩ := hrel
    by_cases hlt : j < n
    · obtain rfl := ha (by omega)
      obtain ⟨c0, c1⟩ := (h.out.st.hr (by omega)).cell hlt
      simp only [id] at c0 c1
      have hs : Hid (SnapAt wr (sec j) (O j)) := h.out.st.sn j hlt
      go_wp2_with fail
      clear c0 c1
      by_cases ho : 0 < O j
      · refine (clo_keep wr hs ho).mono ?_
        rintro e w2 ⟨rfl, hg⟩
        have h2 : Hid (Al w0 w2 n n O Nn sec id bS bH bT bC z sv en) := h.out.ext hg
        have hall2 : Hid (∀ q, q < j + 1 → 0 < O q) := fun q hq => by
          by_cases e : q = j
          · rw [e]; exact ho
          · exact hall.out q (by omega)
        clear hg h hs hall
        go_wp2
        go_roundw
        case rel => exact ⟨j + 1, by omega, by go_num, hall2, h2⟩
        case measure => simp [intOf]; omega
      · have hoo : Hid (¬ 0 < O j) := ho
        refine (clo_drop wr hs h.out.box h.out.tal ho).mono ?_
        rintro e w2 ⟨rfl, hg⟩
        have h2 : Hid (Al w0 w2 n n O Nn sec id bS bH bT bC ((z - Nn j) % 4294967296) sv en) := (h.out.setNeed _).ext hg
        clear hg h hs
        go_wp2
        go_ret
        exact .inr ⟨j, hlt, rfl, hall.out, Int.not_lt.2 hoo.out, h2.out⟩
    · obtain rfl : j = n := by omega
      go_wp2
      go_ret
      exact .inl ⟨rfl, hall.out, h.out⟩
end Go.Proofs.Ybulkautu
