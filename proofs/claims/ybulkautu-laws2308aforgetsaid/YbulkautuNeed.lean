import Derived.Test.YbulkautuDel2
import Derived.Deep.RegionWith
namespace Go.Proofs.Ybulkautu
open Go.RowKit

variable {w0 w w' : World} {n k kh : Nat} {O Nn : Nat → Int} {sec f : Nat → Nat} {bS bH bT bC : Nat} {z en : Int} {sv : Value}

theorem Al.setTal (h : Al w0 w n kh O Nn sec f bS bH bT bC z sv en) (o : Nat) (v : Value) {z' en' : Int} {sv' : Value} (e : (#[.int .u32 z, sv, .int .u64 en] : Array Value).setIfInBounds o v = #[.int .u32 z', sv', .int .u64 en']) :
    Al w0 (w.setCell ⟨bT, o, none⟩ v) n kh O Nn sec f bS bH bT bC z' sv' en' := by
  have K : Kp 38 w (w.setCell ⟨bT, o, none⟩ v) := Kp.set h.tal o v
  refine ⟨h.st.keep K ((Below.refl _ _).setCell (p := ⟨bT, o, none⟩) h.lT _) (by decide) (by decide) (by decide), ?_, K _ _ _ _ h.box (by decide), h.lT⟩
  unfold TalAt
  rw [setCell_heap h.tal, e]

theorem need_same (w : World) (hT : Hid (TalAt w bT z sv en)) :
    Calls Yba.prog 4 #[.pointer (some ⟨bT, 0, none⟩), .int .u64 en] w fun e w' => e = .returned (.int .u32 z) ∧ w.grownBy w' none := by
  have h0 := hT.out.cells.1.1
  have h2 := hT.out.cells.1.2.2
  have hl : bT < w.heap.size := World.block_lt_of_cell? w _ h0
  go_enter Yba.func4, Yba.ntmps4
  go_wp2_with fail
  go_ret
  exact ⟨rfl, World.grownBy_alloc _ _ _⟩

def NeedPost (w0 : World) (a : Option Addr) (n c : Nat) (O Nn : Nat → Int) (sec : Nat → Nat) (bS bH bT bC : Nat) (z : Int) (ends : Int) (e : Ending) (w' : World) : Prop :=
  e = .returned (.int .u32 (nd O Nn z n)) ∧ ∃ f : Nat → Nat, (∀ q, q < n → 0 < O q → f (cnt O q) = q) ∧ Al w0 w' n (cnt O n) O Nn sec f bS bH bT bC (nd O Nn z n) (if cnt O n = 0 then .slice none 0 0 else .slice a (cnt O n) c) ends

set_option maxHeartbeats 1000000 in
theorem need_walk (w : World) (a : Option Addr) (c : Nat) (ends : Int) (hn : n ≤ 1024) (hc : n ≤ c) (ha : Hid (0 < n → a = some ⟨bH, 0, none⟩)) (hne : (en == ends) = false) (hS : Hid (St w0 w n n n O Nn sec id bS bH)) (hT : Hid (TalAt w bT z (.slice a n c) en)) (lT : w0.heap.size ≤ bT) :
    Calls Yba.prog 4 #[.pointer (some ⟨bT, 0, none⟩), .int .u64 ends] w (NeedPost w0 a n c O Nn sec bS bH bT w.heap.size z ends) := by
  have h0 := hT.out.cells.1.1
  have h1 := hT.out.cells.1.2.1
  have h2 := hT.out.cells.1.2.2
  have hl : bT < w.heap.size := World.block_lt_of_cell? w _ h0
  have HA : Hid (Al w0 (w.alloc (.cells #[.pointer (some ⟨bT, 0, none⟩)] 36)) n n O Nn sec id bS bH bT w.heap.size z (.slice a n c) en) := ⟨hS.out.ext (World.grownBy_alloc _ _ _), hT.out.ext (World.grownBy_alloc _ _ _), heap_alloc_new w _, lT⟩
  go_enter Yba.func4, Yba.ntmps4
  go_wp2_with fail
  go_region_with (go_at_call 5; refine (del_walk _ a c hn hc ha.out (HA.out.ext (grown_drew _ 1))).mono ?_; rintro e w2 ⟨rfl, f, hf, hA⟩; have HA2 : Hid (Al w0 w2 n (cnt O n) O Nn sec f bS bH bT w.heap.size (nd O Nn z n) (.slice a n c) en) := hA; have HF : Hid (∀ q, q < n → 0 < O q → f (cnt O q) = q) := hf; clear hA hf; have x1 := HA2.out.tal.cells.1.2.1; have y1 := HA2.out.tal.cells.2 1; have b1 := HA2.out.box.cell)
  all_goals
    have HA3 : Hid (Al w0 (w2.setCell ⟨bT, 1, none⟩ (.slice a (cnt O n) c)) n (cnt O n) O Nn sec f bS bH bT w.heap.size (nd O Nn z n) (.slice a (cnt O n) c) en) := HA2.out.setTal 1 _ rfl
    clear HA2 x1 y1 b1 h0 h1 h2 hS hT HA
    generalize w2.setCell ⟨bT, 1, none⟩ (.slice a (cnt O n) c) = w3 at HA3
    have HP : Hid (∀ e w', (e = .returned (.int .u32 (nd O Nn z n)) ∧ Al w0 w' n (cnt O n) O Nn sec f bS bH bT w.heap.size (nd O Nn z n) (if cnt O n = 0 then .slice none 0 0 else .slice a (cnt O n) c) ends) → NeedPost w0 a n c O Nn sec bS bH bT w.heap.size z ends e w') := fun e w' h => ⟨h.1, f, HF.out, h.2⟩
    have hcn := cnt_le O n
    have HN : Hid (0 < cnt O n → a = some ⟨bH, 0, none⟩) := fun h => ha.out (by omega)
    generalize nd O Nn z n = zz at HA3 HP
    generalize cnt O n = m at HA3 HP hcn HN
    have x0 := HA3.out.tal.cells.1.1
    have x1 := HA3.out.tal.cells.1.2.1
    have x2 := HA3.out.tal.cells.1.2.2
    have y1 := HA3.out.tal.cells.2 1
    have y2 := HA3.out.tal.cells.2 2
    have b1 := HA3.out.box.cell
    have hbt : bT ≠ w.heap.size := by omega
    by_cases hm : m = 0
    · subst hm
      have HA4 : Hid (Al w0 ((w3.setCell ⟨bT, 1, none⟩ (.slice none 0 0)).setCell ⟨bT, 2, none⟩ (.int .u64 ends)) n 0 O Nn sec f bS bH bT w.heap.size zz (.slice none 0 0) ends) := (HA3.out.setTal 1 (.slice none 0 0) (sv' := .slice none 0 0) rfl).setTal 2 _ rfl
      go_wp2
      go_ret
      exact HP.out _ _ ⟨rfl, HA4.out⟩
    · have hm' : ((m : Int) == 0) = false := by rw [beq_eq_false_iff_ne]; omega
      have HA4 : Hid (Al w0 (w3.setCell ⟨bT, 2, none⟩ (.int .u64 ends)) n m O Nn sec f bS bH bT w.heap.size zz (.slice a m c) ends) := HA3.out.setTal 2 _ rfl
      have HM : Hid ((if m = 0 then Value.slice none 0 0 else .slice a m c) = .slice a m c) := if_neg hm
      go_wp2
      go_ret
      exact HP.out _ _ ⟨rfl, by rw [HM.out]; exact HA4.out⟩
end Go.Proofs.Ybulkautu
