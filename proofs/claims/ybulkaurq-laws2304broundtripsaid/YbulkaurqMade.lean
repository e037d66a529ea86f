import Derived.Test.YbulkaurqExact
namespace Go.Proofs.Ybulkaurq
open Go.RowKit

theorem info5 : (Yba.prog.info? 5).map (fun i => (i.zero, i.size, i.bytes)) = some (some (.int .u8 0), 1, 1) := by kernel_rfl

def bcells (l : List UInt8) : List Value := l.map fun b => .int .u8 b.toNat
theorem bcells_one (l : List UInt8) : ∀ u ∈ bcells l, u.oneCell' = true := by
  intro u hu
  simp only [bcells, List.mem_map] at hu
  obtain ⟨b, _, rfl⟩ := hu
  rfl

/-- 'make([]byte, 4, 4+n)'. -/
theorem make4 (n : Nat) (hn : n ≤ 1024) (w : World) : (Instr.makeSlice 23 (.int .i64 4) (.int .i64 (4 + (n : Int)))).run Yba.prog w = .ok (.slice (some ⟨w.heap.size, 0, none⟩) 4 (4 + n)) (w.alloc (.cells (madeCells #[.int .u8 0] (4 + n)) 5)) := by
  obtain ⟨i0, hi, hz0, hz1, hz2⟩ := info_parts info5
  have h := run_make (P := Yba.prog) w 23 5 i0 (.int .u8 0) Yba.underlying23 hi hz0 .i64 .i64 4 (4 + (n : Int)) (by omega) (by omega) (by rw [hz2]; omega) (by omega)
  rw [hz1] at h
  rw [h]
  have e1 : (4 + (n : Int)).toNat = 4 + n := by omega
  rw [e1, Nat.mul_one]
  rfl

theorem made_rep (z : Value) (k : Nat) : (madeCells #[z] k).toList = List.replicate k z := by
  apply List.ext_getElem
  · simp [madeCells]
  · intro i h1 h2
    simp [madeCells, Nat.mod_one]

theorem own4 (n : Nat) (w : World) (hn : n ≤ 1024) : (w.alloc (.cells (madeCells #[.int .u8 0] (4 + n)) 5)).ownsRow w.heap.size 5 1 (.slice (some ⟨w.heap.size, 0, none⟩) 4 (4 + n)) 4 (bcells [0, 0, 0, 0]) := by
  refine ⟨rfl, .inr ⟨w.heap.size, 4 + n, madeCells #[.int .u8 0] (4 + n), rfl, Nat.le_refl _, heap_alloc_new w _, by omega, by unfold maxLen; omega, ?_, ?_⟩⟩
  · simp [madeCells]
  · rw [made_rep, List.take_replicate, Nat.min_eq_left (by omega)]
    rfl

theorem Dat.news {w : World} {ao : Option Addr} {n c : Nat} {l : List UInt8} (h : Dat w ao n c l) : ∀ ad, ao = some ad → ∀ j u, (bcells l)[j]? = some u → w.cell? (ad.add j) = some u := by
  intro ad e j u hu
  have hj : j < l.length := by
    have := (List.getElem?_eq_some_iff.1 hu).1
    simpa [bcells] using this
  obtain ⟨g, o, e', hc⟩ := h.cells (by have := h.len; omega)
  rw [e'] at e
  obtain rfl := Option.some.inj e
  rw [Addr.add_lit, hc j hj]
  simp [bcells, hj] at hu
  rw [hu]

/-- The payload with its marker. -/
theorem dat_made {w' : World} {B g n : Nat} {l : List UInt8} (hl : l.length = n) (h : w'.ownsRow B 5 1 (.slice (some ⟨g, 0, none⟩) (4 + n) (4 + n)) (4 + n) (bcells [0, 0, 0, 0] ++ bcells l)) : Dat w' (some ⟨g, 0, none⟩) (4 + n) (4 + n) (0 :: 0 :: 0 :: 0 :: l) := by
  refine { len := by simp; omega, room := Nat.le_refl _, nil := fun e => absurd e (by simp), cells := fun _ => ⟨g, 0, rfl, fun i hi => ?_⟩ }
  have := h.cells (g := g) rfl i (.int .u8 ((0 :: 0 :: 0 :: 0 :: l)[i]).toNat) (by
    have e : bcells [0, 0, 0, 0] ++ bcells l = bcells (0 :: 0 :: 0 :: 0 :: l) := rfl
    rw [e]
    simp only [bcells, List.getElem?_map, List.getElem?_eq_getElem hi, Option.map_some])
  rw [Addr.add_lit] at this
  exact this

theorem Dat.marked {w : World} {g n c : Nat} {l : List UInt8} (h : Dat w (some ⟨g, 0, none⟩) (4 + n) c (0 :: 0 :: 0 :: 0 :: l)) : Carries w (.slice (some ⟨g, 0, none⟩) (4 + n) c) true ∧ Zeros w (.slice (some ⟨g, 0, none⟩) (4 + n) c) true := by
  obtain ⟨g', o', e, hc⟩ := h.cells (by omega)
  simp only [Option.some.injEq, Addr.mk.injEq, and_true] at e
  obtain ⟨rfl, rfl⟩ := e
  have c0 := hc 0 (by simp)
  have c1 := hc 1 (by simp)
  have c2 := hc 2 (by simp)
  have c3 := hc 3 (by simp)
  exact ⟨carries_of (b0 := 0) (b1 := 0) (b2 := 0) (b3 := 0) (by omega) c0 c1 c2 c3, zeros_of (b0 := 0) (b1 := 0) (b2 := 0) (b3 := 0) (by omega) c0 c1 c2 c3⟩

set_option maxHeartbeats 800000 in
theorem made_other (port : Int) (ao : Option Addr) (n c : Nat) (l : List UInt8) (w : World) (hn : n ≤ 1024) (hd : Hid (Dat w ao n c l)) (hp : (port != 4500) = true) :
    Calls Yba.prog 3 #[.int .u16 port, .bool false, .bool true, .slice ao n c] w (Post w) := by
  obtain ⟨i0, hi, hz0, hz1, hz2⟩ := info_parts info5
  have hmk := make4 n hn
  have hen := eql_nil
  have hnn := neq_nil
  have HO : Hid ((w.alloc (.cells (madeCells #[.int .u8 0] (4 + n)) 5)).ownsRow w.heap.size 5 1 (.slice (some ⟨w.heap.size, 0, none⟩) 4 (4 + n)) 4 (bcells [0, 0, 0, 0])) := own4 n w hn
  have HD : Hid (Dat (w.alloc (.cells (madeCells #[.int .u8 0] (4 + n)) 5)) ao n c l) := hd.out.below (below_new (Below.refl _ _))
  have HL : Hid ((bcells l).length = n * 1) := by unfold Hid; rw [Nat.mul_one, bcells, List.length_map]; exact hd.out.len
  go_enter Yba.func3, Yba.ntmps3
  go_wp2_with (at_builtin; refine wpList_append_fits_any _ rfl _ _ 23 rfl w.heap.size 5 i0 1 Yba.underlying23 hi hz1 w.heap.size 4 (4 + n) _ rfl HO.out ao n c (bcells l) rfl HL.out HD.out.nil HD.out.news (bcells_one l) (Nat.le_refl _) ?_)
  intro w0 hown hgrow
  have HB0 : Hid (Below w.heap.size w w0) := (below_new (Below.refl _ _)).grown hgrow (by simp) (fun k e => by cases e; exact Nat.le_refl _)
  have HP : Hid (Dat w0 (some ⟨w.heap.size, 0, none⟩) (4 + n) (4 + n) (0 :: 0 :: 0 :: 0 :: l)) := dat_made hd.out.len hown
  clear hown hgrow HO HD HL hmk
  go_wp2_with fail
  refine (apf_any port _).mono ?_
  rintro e w1 ⟨rfl, hb1⟩
  have HB1 : Hid (Below w0.heap.size w0 w1) := hb1
  clear hb1
  go_wp2_with fail
  refine (unf_other port 0 _ _ _ _ hp).mono ?_
  rintro e w2 ⟨rfl, hb2⟩
  have HB2 : Hid (Below w0.heap.size w0 w2) := below_then (below_new HB1.out) hb2
  clear hb2
  have HQ := HP.out.below HB2.out
  have HQ' : Hid (Dat w2 (some ⟨w.heap.size, 0, none⟩) (4 + n) (4 + n) (0 :: 0 :: 0 :: 0 :: l)) := HQ
  clear HQ
  go_wp2_with fail
  refine (HQ'.out.same HQ'.out).mono ?_
  rintro e w3 ⟨rfl, rfl⟩
  go_wp2
  go_ret
  exact ⟨rfl, below_then HB0.out HB2.out⟩

set_option maxHeartbeats 800000 in
theorem made_yes_natt (port : Int) (ao : Option Addr) (n c : Nat) (l : List UInt8) (w : World) (hn : n ≤ 1024) (hd : Hid (Dat w ao n c l)) :
    Calls Yba.prog 3 #[.int .u16 port, .bool true, .bool true, .slice ao n c] w (Post w) := by
  obtain ⟨i0, hi, hz0, hz1, hz2⟩ := info_parts info5
  have hmk := make4 n hn
  have hen := eql_nil
  have hnn := neq_nil
  have HO : Hid ((w.alloc (.cells (madeCells #[.int .u8 0] (4 + n)) 5)).ownsRow w.heap.size 5 1 (.slice (some ⟨w.heap.size, 0, none⟩) 4 (4 + n)) 4 (bcells [0, 0, 0, 0])) := own4 n w hn
  have HD : Hid (Dat (w.alloc (.cells (madeCells #[.int .u8 0] (4 + n)) 5)) ao n c l) := hd.out.below (below_new (Below.refl _ _))
  have HL : Hid ((bcells l).length = n * 1) := by unfold Hid; rw [Nat.mul_one, bcells, List.length_map]; exact hd.out.len
  go_enter Yba.func3, Yba.ntmps3
  go_wp2_with (at_builtin; refine wpList_append_fits_any _ rfl _ _ 23 rfl w.heap.size 5 i0 1 Yba.underlying23 hi hz1 w.heap.size 4 (4 + n) _ rfl HO.out ao n c (bcells l) rfl HL.out HD.out.nil HD.out.news (bcells_one l) (Nat.le_refl _) ?_)
  intro w0 hown hgrow
  have HB0 : Hid (Below w.heap.size w w0) := (below_new (Below.refl _ _)).grown hgrow (by simp) (fun k e => by cases e; exact Nat.le_refl _)
  have HP : Hid (Dat w0 (some ⟨w.heap.size, 0, none⟩) (4 + n) (4 + n) (0 :: 0 :: 0 :: 0 :: l)) := dat_made hd.out.len hown
  clear hown hgrow HO HD HL hmk
  go_wp2_with fail
  refine (apf_any 4500 _).mono ?_
  rintro e w1 ⟨rfl, hb1⟩
  have HB1 : Hid (Below w0.heap.size w0 w1) := hb1
  clear hb1
  go_wp2_with fail
  refine (unf_yes 0 w.heap.size 0 (4 + n) (4 + n) _ (by omega) (HP.out.marked.1.below (below_new HB1.out))).mono ?_
  rintro e w2 ⟨o', c', rfl, hc', ho', ho2, hb2⟩
  have HB2 : Hid (Below w0.heap.size w0 w2) := below_then (below_new HB1.out) hb2
  have HD2 : Hid (Dat w2 (some ⟨w.heap.size, 0, none⟩) (4 + n) (4 + n) (0 :: 0 :: 0 :: 0 :: l)) := HP.out.below HB2.out
  have HT : Hid (Dat w2 (some ⟨w.heap.size, o', none⟩) (4 + n - 4) c' l) := by
    rw [hc']
    exact HD2.out.tail (by omega) o' ho'
  clear hb2 hc' ho' ho2
  go_wp2_with fail
  refine (HP.out.marked.2 w2 HB2.out).mono ?_
  rintro e w3 ⟨rfl, rfl⟩
  by_cases hn0 : n = 0
  · subst hn0
    have HX : Hid (Dat w3 (some ⟨w.heap.size, 0, none⟩) 0 0 l) := HD2.out.tail (by omega) 0 (fun h => by omega)
    have HY : Hid (Dat w3 (some ⟨w.heap.size, o', none⟩) 0 c' l) := HT
    go_wp2_with fail
    refine (HY.out.same HX.out).mono ?_
    rintro e w4 ⟨rfl, rfl⟩
    go_wp2
    go_ret
    exact ⟨rfl, below_then HB0.out HB2.out⟩
  · have HX : Hid (Dat w3 (some ⟨w.heap.size, 4, none⟩) n n l) := by
      have := HD2.out.tail (by omega) 4 (fun _ => by omega)
      rw [Nat.add_sub_cancel_left] at this
      exact this
    have HY : Hid (Dat w3 (some ⟨w.heap.size, o', none⟩) n c' l) := by
      have := HT.out
      rw [Nat.add_sub_cancel_left] at this
      exact this
    go_wp2_with fail
    refine (HY.out.same HX.out).mono ?_
    rintro e w4 ⟨rfl, rfl⟩
    go_wp2
    go_ret
    exact ⟨rfl, below_then HB0.out HB2.out⟩

set_option maxHeartbeats 800000 in
theorem made_yes_port (ao : Option Addr) (n c : Nat) (l : List UInt8) (w : World) (hn : n ≤ 1024) (hd : Hid (Dat w ao n c l)) :
    Calls Yba.prog 3 #[.int .u16 4500, .bool false, .bool true, .slice ao n c] w (Post w) := by
  obtain ⟨i0, hi, hz0, hz1, hz2⟩ := info_parts info5
  have hmk := make4 n hn
  have hen := eql_nil
  have hnn := neq_nil
  have HO : Hid ((w.alloc (.cells (madeCells #[.int .u8 0] (4 + n)) 5)).ownsRow w.heap.size 5 1 (.slice (some ⟨w.heap.size, 0, none⟩) 4 (4 + n)) 4 (bcells [0, 0, 0, 0])) := own4 n w hn
  have HD : Hid (Dat (w.alloc (.cells (madeCells #[.int .u8 0] (4 + n)) 5)) ao n c l) := hd.out.below (below_new (Below.refl _ _))
  have HL : Hid ((bcells l).length = n * 1) := by unfold Hid; rw [Nat.mul_one, bcells, List.length_map]; exact hd.out.len
  go_enter Yba.func3, Yba.ntmps3
  go_wp2_with (at_builtin; refine wpList_append_fits_any _ rfl _ _ 23 rfl w.heap.size 5 i0 1 Yba.underlying23 hi hz1 w.heap.size 4 (4 + n) _ rfl HO.out ao n c (bcells l) rfl HL.out HD.out.nil HD.out.news (bcells_one l) (Nat.le_refl _) ?_)
  intro w0 hown hgrow
  have HB0 : Hid (Below w.heap.size w w0) := (below_new (Below.refl _ _)).grown hgrow (by simp) (fun k e => by cases e; exact Nat.le_refl _)
  have HP : Hid (Dat w0 (some ⟨w.heap.size, 0, none⟩) (4 + n) (4 + n) (0 :: 0 :: 0 :: 0 :: l)) := dat_made hd.out.len hown
  clear hown hgrow HO HD HL hmk
  go_wp2_with fail
  refine (apf_any 4500 _).mono ?_
  rintro e w1 ⟨rfl, hb1⟩
  have HB1 : Hid (Below w0.heap.size w0 w1) := hb1
  clear hb1
  go_wp2_with fail
  refine (unf_yes 0 w.heap.size 0 (4 + n) (4 + n) _ (by omega) (HP.out.marked.1.below (below_new HB1.out))).mono ?_
  rintro e w2 ⟨o', c', rfl, hc', ho', ho2, hb2⟩
  have HB2 : Hid (Below w0.heap.size w0 w2) := below_then (below_new HB1.out) hb2
  have HD2 : Hid (Dat w2 (some ⟨w.heap.size, 0, none⟩) (4 + n) (4 + n) (0 :: 0 :: 0 :: 0 :: l)) := HP.out.below HB2.out
  have HT : Hid (Dat w2 (some ⟨w.heap.size, o', none⟩) (4 + n - 4) c' l) := by
    rw [hc']
    exact HD2.out.tail (by omega) o' ho'
  clear hb2 hc' ho' ho2
  go_wp2_with fail
  refine (HP.out.marked.2 w2 HB2.out).mono ?_
  rintro e w3 ⟨rfl, rfl⟩
  by_cases hn0 : n = 0
  · subst hn0
    have HX : Hid (Dat w3 (some ⟨w.heap.size, 0, none⟩) 0 0 l) := HD2.out.tail (by omega) 0 (fun h => by omega)
    have HY : Hid (Dat w3 (some ⟨w.heap.size, o', none⟩) 0 c' l) := HT
    go_wp2_with fail
    refine (HY.out.same HX.out).mono ?_
    rintro e w4 ⟨rfl, rfl⟩
    go_wp2
    go_ret
    exact ⟨rfl, below_then HB0.out HB2.out⟩
  · have HX : Hid (Dat w3 (some ⟨w.heap.size, 4, none⟩) n n l) := by
      have := HD2.out.tail (by omega) 4 (fun _ => by omega)
      rw [Nat.add_sub_cancel_left] at this
      exact this
    have HY : Hid (Dat w3 (some ⟨w.heap.size, o', none⟩) n c' l) := by
      have := HT.out
      rw [Nat.add_sub_cancel_left] at this
      exact this
    go_wp2_with fail
    refine (HY.out.same HX.out).mono ?_
    rintro e w4 ⟨rfl, rfl⟩
    go_wp2
    go_ret
    exact ⟨rfl, below_then HB0.out HB2.out⟩

end Go.Proofs.Ybulkaurq
