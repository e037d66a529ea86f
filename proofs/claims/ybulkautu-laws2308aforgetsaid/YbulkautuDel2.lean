import Derived.Test.YbulkautuDel
namespace Go.Proofs.Ybulkautu
open Go.RowKit

variable {w0 w w' : World} {n k kh : Nat} {O Nn : Nat → Int} {sec f : Nat → Nat} {bS bH bT bC : Nat} {z en : Int} {sv : Value}

/-- What DeleteFunc answers. -/
def DelPost (w0 : World) (a : Option Addr) (n c : Nat) (O Nn : Nat → Int) (sec : Nat → Nat) (bS bH bT bC : Nat) (z : Int) (sv : Value) (en : Int) (e : Ending) (w' : World) : Prop :=
  e = .returned (.slice a (cnt O n) c) ∧ ∃ f : Nat → Nat, (∀ q, q < n → 0 < O q → f (cnt O q) = q) ∧ Al w0 w' n (cnt O n) O Nn sec f bS bH bT bC (nd O Nn z n) sv en

/-- The loop's state behind j shares. -/
structure Lp (w0 w : World) (n j : Nat) (O Nn : Nat → Int) (sec f : Nat → Nat) (bS bH bT bC : Nat) (z : Int) (sv : Value) (en : Int) : Prop where
  al : Al w0 w n n O Nn sec f bS bH bT bC (nd O Nn z j) sv en
  fq : ∀ q, q < j → 0 < O q → f (cnt O q) = q
  fp : ∀ p, j ≤ p → f p = p
  lt : cnt O j < j

theorem Lp.start {i : Nat} (h : Al w0 w n n O Nn sec id bS bH bT bC ((z - Nn i) % 4294967296) sv en) (hall : ∀ q, q < i → 0 < O q) (ho : ¬ 0 < O i) : Lp w0 w n (i + 1) O Nn sec id bS bH bT bC z sv en := by
  refine ⟨?_, fun q hq hp => ?_, fun p _ => rfl, ?_⟩
  · rw [nd_neg ho, nd_all hall]; exact h
  · have : q ≠ i := by rintro rfl; exact ho hp
    exact cnt_all fun r hr => hall r (by omega)
  · rw [cnt_neg ho, cnt_all hall]; omega
theorem Lp.keep {j : Nat} (h : Lp w0 w n j O Nn sec f bS bH bT bC z sv en) (hg : w.grownBy w' none) (hj : j < n) (ho : 0 < O j) :
    Lp w0 ((w'.setCell ⟨bH, cnt O j * 2, none⟩ (.pointer (some ⟨sec j, 0, none⟩))).setCell ⟨bH, cnt O j * 2 + 1, none⟩ (.int .u32 (Nn j))) n (j + 1) O Nn sec (upd f (cnt O j) j) bS bH bT bC z sv en := by
  have hlt := h.lt
  refine ⟨?_, fun q hq hp => ?_, fun p hp => ?_, ?_⟩
  · rw [nd_pos ho]; exact (h.al.ext hg).setRow (by omega) j
  · by_cases e : q = j
    · rw [e]; exact upd_same _ _ _
    · have := cnt_lt O (a := q) (b := j) (by omega) hp
      rw [upd_ne _ _ (by omega)]
      exact h.fq q (by omega) hp
  · rw [upd_ne _ _ (by omega)]
    exact h.fp p (by omega)
  · rw [cnt_pos ho]; omega
theorem Lp.drop {j : Nat} (h : Lp w0 w n j O Nn sec f bS bH bT bC z sv en) (hg : (w.setCell ⟨bT, 0, none⟩ (.int .u32 ((nd O Nn z j - Nn j) % 4294967296))).grownBy w' none) (ho : ¬ 0 < O j) : Lp w0 w' n (j + 1) O Nn sec f bS bH bT bC z sv en := by
  have hlt := h.lt
  refine ⟨?_, fun q hq hp => ?_, fun p hp => h.fp p (by omega), ?_⟩
  · rw [nd_neg ho]; exact (h.al.setNeed _).ext hg
  · have : q ≠ j := by rintro rfl; exact ho hp
    exact h.fq q (by omega) hp
  · rw [cnt_neg ho]; omega
theorem Lp.ext {j : Nat} (h : Lp w0 w n j O Nn sec f bS bH bT bC z sv en) (hg : w.grownBy w' none) : Lp w0 w' n j O Nn sec f bS bH bT bC z sv en := ⟨h.al.ext hg, h.fq, h.fp, h.lt⟩

theorem box_kept {s : Nat} {x : Int} {o : Obj} (ho : o = .cells #[.pointer (some ⟨s, 0, none⟩), .int .u32 x] 35) (hg : (w.alloc o).grownBy w' none) : w'.cell? ⟨w.heap.size, 0, none⟩ = some (.pointer (some ⟨s, 0, none⟩)) ∧ w'.cell? ⟨w.heap.size, 1, none⟩ = some (.int .u32 x) := by
  subst ho
  have h := grown_keep hg (heap_alloc_new w _)
  rw [cell_of_row w' w.heap.size 0 _ 35 (0, 0) h, cell_of_row w' w.heap.size 1 _ 35 (0, 0) h]
  exact ⟨rfl, rfl⟩

set_option maxHeartbeats 1000000 in
theorem del_walk (w : World) (a : Option Addr) (c : Nat) (hn : n ≤ 1024) (hc : n ≤ c) (ha : 0 < n → a = some ⟨bH, 0, none⟩) (h : Hid (Al w0 w n n O Nn sec id bS bH bT bC z sv en)) :
    Calls Yba.prog 5 #[.slice a n c, .func (.func 6) #[] #[.pointer (some ⟨bC, 0, none⟩)]] w (DelPost w0 a n c O Nn sec bS bH bT bC z sv en) := by
  go_enter Yba.func5, Yba.ntmps5
  go_wp2_with fail
  refine (idx_walk w a c hn ha h).mono ?_
  rintro e w1 hp
  clear h
  rcases hp with ⟨rfl, hall, hA⟩ | ⟨i, hi, rfl, hall, hoi, hA⟩
  · have e1 : cnt O n = n := cnt_all hall
    have HA : Hid (Al w0 w1 n n O Nn sec id bS bH bT bC z sv en) := hA
    have HALL : Hid (∀ q, q < n → 0 < O q) := hall
    clear hA hall
    go_wp2
    go_ret
    refine ⟨by rw [e1]; rfl, id, fun q hq hp => cnt_all fun r hr => HALL.out r (by omega), ?_⟩
    rw [e1, nd_all HALL.out]
    exact HA.out
  · obtain rfl := ha (by omega)
    have HL : Hid (Lp w0 w1 n (i + 1) O Nn sec id bS bH bT bC z sv en) := Lp.start hA hall hoi
    have e1 : Hid (cnt O (i + 1) = i) := by unfold Hid; rw [cnt_neg hoi, cnt_all hall]
    clear hA hall hoi
    go_wp2_with fail
    have hm : ((i : Int) == -1) = false := by rw [beq_eq_false_iff_ne]; omega
    rw [hm]
    clear hm
    go_loopw [5, 6] (fun x y wr => ∃ (j : Nat) (f : Nat → Nat), j ≤ n ∧ x = .int .i64 (cnt O j : Int) ∧ y = .int .i64 (j : Int) ∧ Hid (Lp w0 wr n j O Nn sec f bS bH bT bC z sv en)) (fun _ y _ => n - (intOf y).toNat)
    case atStart => exact ⟨i + 1, id, by omega, by rw [e1.out], by go_num, HL⟩
    case round =>
      clear HL e1
      obtain ⟨j, f, hj, rfl, rfl, HL⟩ := hrel
      have hlt := HL.out.lt
      have hr := HL.out.al.st.hr (by omega)
      generalize hcj : cnt O j = cj at hlt
      by_cases hjn : j < n
      · obtain ⟨c0, c1⟩ := hr.cell hjn
        rw [HL.out.fp j (Nat.le_refl _)] at c0 c1
        clear hr
        go_wp2_with fail
        clear c0 c1
        have hs : Hid (SnapAt (wr.alloc (.cells #[.pointer (some ⟨sec j, 0, none⟩), .int .u32 (Nn j)] 35)) (sec j) (O j)) := (HL.out.al.st.ext (World.grownBy_alloc _ _ _)).sn j hjn
        by_cases ho : 0 < O j
        · refine (clo_keep _ hs ho).mono ?_
          rintro e w2 ⟨rfl, hg⟩
          obtain ⟨k0, k1⟩ := box_kept rfl hg
          have hr := (HL.out.al.ext (grown_trans (World.grownBy_alloc _ _ _) hg)).st.hr (by omega)
          obtain ⟨⟨v0, t0⟩, f0⟩ := hr.there (o := cj * 2) (by omega)
          obtain ⟨⟨v1, t1⟩, f1⟩ := hr.there (o := cj * 2 + 1) (by omega)
          have HL2 := HL.out.keep (grown_trans (World.grownBy_alloc _ _ _) hg) hjn ho
          rw [hcj] at HL2
          have HL3 : Hid (Lp w0 ((w2.setCell ⟨bH, cj * 2, none⟩ (.pointer (some ⟨sec j, 0, none⟩))).setCell ⟨bH, cj * 2 + 1, none⟩ (.int .u32 (Nn j))) n (j + 1) O Nn sec (upd f cj j) bS bH bT bC z sv en) := HL2
          have e2 : Hid (cnt O (j + 1) = cj + 1) := by unfold Hid; rw [cnt_pos ho, hcj]
          clear HL2 hr hg HL hs hcj
          go_wp2
          go_roundw
          case rel => exact ⟨j + 1, _, by omega, by rw [e2.out]; go_num, by go_num, HL3⟩
          case measure => simp [intOf]; omega
        · have hT : Hid (TalAt (wr.alloc (.cells #[.pointer (some ⟨sec j, 0, none⟩), .int .u32 (Nn j)] 35)) bT (nd O Nn z j) sv en) := (HL.out.al.ext (World.grownBy_alloc _ _ _)).tal
          have hC : Hid (BoxAt (wr.alloc (.cells #[.pointer (some ⟨sec j, 0, none⟩), .int .u32 (Nn j)] 35)) bC bT) := (HL.out.al.ext (World.grownBy_alloc _ _ _)).box
          refine (clo_drop _ hs hC hT ho).mono ?_
          rintro e w2 ⟨rfl, hg⟩
          have HL2 : Hid (Lp w0 w2 n (j + 1) O Nn sec f bS bH bT bC z sv en) := (HL.out.ext (World.grownBy_alloc _ _ _)).drop hg ho
          have e2 : Hid (cnt O (j + 1) = cj) := by unfold Hid; rw [cnt_neg ho, hcj]
          clear hg HL hs hT hC hcj ho
          go_wp2
          go_roundw
          case rel => exact ⟨j + 1, _, by omega, by rw [e2.out], by go_num, HL2⟩
          case measure => simp [intOf]; omega
      · obtain rfl : j = n := by omega
        have hcl : ∀ ty, (Builtin.clear_ #[26] ty #[.slice (some ⟨bH, cj * 2, none⟩) (j - cj) (c - cj)]).run Yba.prog wr = .ok (.tuple #[]) (wr.setCells bH (cj * 2) (Builtin.zeroCells #[Value.pointer none, .int .u32 0] (j - cj)).toList) :=
          fun ty => run_clear2 wr ty bH (cj * 2) (j - cj) (c - cj) (by omega) (fun t ht => by obtain ⟨⟨v, hv⟩, _⟩ := hr.there (o := cj * 2 + t) (by omega); rw [hv]; rfl) (fun t ht => (hr.there (o := cj * 2 + t) (by omega)).2)
        have HF : Hid (Al w0 (wr.setCells bH (cj * 2) (Builtin.zeroCells #[Value.pointer none, .int .u32 0] (j - cj)).toList) j cj O Nn sec f bS bH bT bC (nd O Nn z j) sv en) := HL.out.al.clear (by omega) (by omega) _
        generalize (Builtin.zeroCells #[Value.pointer none, .int .u32 0] (j - cj)).toList = L at hcl HF
        have HQ : Hid (∀ q, q < j → 0 < O q → f (cnt O q) = q) := HL.out.fq
        have hc2 : Hid (cnt O j = cj) := hcj
        clear hr HL hcj
        go_wp2
        go_ret
        refine ⟨by rw [hc2.out]; rfl, f, HQ.out, ?_⟩
        rw [hc2.out]
        exact HF.out
end Go.Proofs.Ybulkautu
