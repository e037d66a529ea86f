import Derived.Test.YbulkaurqFrame
namespace Go.Proofs.Ybulkaurq
open Go.RowKit

theorem size5 : (Yba.prog.info? 5).map (·.size) = some 1 := by kernel_rfl

theorem made_heap {w' : World} {B g n : Nat} {xs : List Value} (h : w'.ownsRow B 5 1 (.slice (some ⟨g, 0, none⟩) n n) n xs) : w'.heap[g]? = some (.cells xs.toArray 5 (0, 0)) := by
  rcases h.2 with ⟨hv, _⟩ | ⟨g', cap, cur, hv, _, hh, _, _, hs, ht⟩
  · cases hv
  · simp only [Value.slice.injEq, Option.some.injEq, Addr.mk.injEq, and_true] at hv
    obtain ⟨rfl, _, rfl⟩ := hv
    rw [hh, ← ht]
    have e : cur.toList.take (n * 1) = cur.toList := List.take_of_length_le (by simp; omega)
    rw [e]

theorem made_zero {w' : World} {B g n : Nat} {xs : List Value} (h : w'.ownsRow B 5 1 (.slice (some ⟨g, 0, none⟩) n n) n xs) : ∃ Z : List Value, Z.length = n ∧ w'.heap[g]? = some (.cells Z.toArray 5 (0, 0)) :=
  ⟨xs, by simpa using h.1, made_heap h⟩

theorem copy_src {w w1 : World} {ao : Option Addr} {n c : Nat} {l : List UInt8} (h : Dat w ao n c l) (hb : Below w.heap.size w w1) (g : Nat) : 0 < (bcells l).length → (some (⟨g, 0, none⟩ : Addr)) = some ⟨g, 0, none⟩ ∧ ∃ ad, ao = some ad ∧ ∀ j v, (bcells l)[j]? = some v → w1.cell? (ad.add j) = some v := fun h0 => by
  refine ⟨rfl, ?_⟩
  have hd1 := h.below hb
  obtain ⟨g, o, e, _⟩ := hd1.cells (by have := hd1.len; simp [bcells] at h0; omega)
  exact ⟨_, e, hd1.news _ e⟩

theorem splice_all {α : Type} (L cs : List α) (h : cs.length = L.length) : splice L 0 cs = cs := by
  simp [splice, h]

theorem dat_copied {w' : World} {g n : Nat} {l : List UInt8} (hl : l.length = n) (h : w'.heap[g]? = some (.cells (bcells l).toArray 5 (0, 0))) : Dat w' (some ⟨g, 0, none⟩) n n l := by
  refine { len := hl, room := Nat.le_refl _, nil := fun e => absurd e (by simp), cells := fun _ => ⟨g, 0, rfl, fun i hi => ?_⟩ }
  rw [cell_of_row w' g (0 + i) _ 5 (0, 0) h]
  simp [bcells, hi]

set_option maxHeartbeats 1000000 in
theorem rt_other (port rport : Int) (ao : Option Addr) (n c : Nat) (l : List UInt8) (w : World) (hn : n ≤ 1024) (hd : Hid (Dat w ao n c l)) (hp : (port == 4500) = false) (hp' : (port != 4500) = true) :
    Calls Yba.prog 4 #[.int .u16 port, .int .u16 rport, .bool false, .slice ao n c] w (Post w) := by
  obtain ⟨i0, hi, hz0, hz1, hz2⟩ := info_parts info5
  go_enter Yba.func4, Yba.ntmps4
  go_wp2_with (at_make; refine wpList_make_full _ rfl _ _ 23 rfl w.heap.size 5 i0 (.int .u8 0) 1 Yba.underlying23 hi hz0 hz1 _ _ _ _ n rfl rfl rfl rfl ?m1 ?m2 ?m3 ?_)
  case m1 => rw [hz2]; omega
  case m2 => unfold maxLen; omega
  case m3 => exact Nat.le_refl _
  intro w1 hown hgrow
  have HB1 : Hid (Below w.heap.size w w1) := (Below.refl _ _).grown hgrow (Nat.le_refl _) (fun k e => by cases e)
  obtain ⟨Z, hZ, hG⟩ := made_zero hown
  have HG : Hid (w1.heap[w.heap.size]? = some (.cells Z.toArray 5 (0, 0))) := hG
  have HN : Hid ((bcells l).length = n) := by unfold Hid; rw [bcells, List.length_map, hd.out.len]
  have HC : Hid ((bcells l).length = Nat.min n n) := HN.out.trans (Nat.min_self n).symm
  have HF : Hid (0 + (bcells l).length ≤ Z.length) := by unfold Hid; rw [HN.out, hZ, Nat.zero_add]; exact Nat.le_refl _
  have HS : Hid (0 < (bcells l).length → (some (⟨w.heap.size, 0, none⟩ : Addr)) = some ⟨w.heap.size, 0, none⟩ ∧ ∃ ad, ao = some ad ∧ ∀ j v, (bcells l)[j]? = some v → w1.cell? (ad.add j) = some v) := copy_src hd.out HB1.out _
  have HQ : Hid ((bcells l).length = Z.length) := HN.out.trans hZ.symm
  clear hZ hG
  clear hown hgrow
  go_wp2_with (refine wpList_copy_splice rfl (.tmp 20) (.tmp 21) 23 23 rfl 5 Yba.underlying23 size5 _ _ _ _ _ _ rfl rfl w.heap.size 0 _ 5 HG.out (bcells l) HC.out HS.out HF.out (bcells_one l) w.heap.size w HB1.out (Nat.le_refl _) ?_)
  intro w2 hg2 hb2
  have HB2 : Hid (Below w.heap.size w w2) := hb2
  have HM : Hid (Dat w2 (some ⟨w.heap.size, 0, none⟩) n n l) := dat_copied hd.out.len (by
    have h := hg2.out
    rw [splice_all _ _ HQ.out] at h
    exact h)
  have HD2 : Hid (Dat w2 ao n c l) := hd.out.below HB2.out
  clear hg2 hb2 HG HC HF HS HB1
  go_wp2_with fail
  refine (apf_any port _).mono ?_
  rintro e w3 ⟨rfl, hb3⟩
  have HB3 : Hid (Below w2.heap.size w2 w3) := hb3
  clear hb3
  go_wp2_with fail
  refine (apf_any rport _).mono ?_
  rintro e w4 ⟨rfl, hb4⟩
  have HB4 : Hid (Below w2.heap.size w2 w4) := below_then HB3.out hb4
  clear hb4 HB3
  go_wp2_with fail
  refine (frame_other port rport _ _ _ _ hp).mono ?_
  rintro e w5 ⟨rfl, hb5⟩
  have HB5 : Hid (Below w2.heap.size w2 w5) := below_then HB4.out hb5
  clear hb5 HB4
  go_wp2_with fail
  refine (unf_other port rport _ _ _ _ hp').mono ?_
  rintro e w6 ⟨rfl, hb6⟩
  have HB6 : Hid (Below w2.heap.size w2 w6) := below_then (below_new HB5.out) hb6
  clear hb6 HB5
  have HX : Hid (Dat w6 (some ⟨w.heap.size, 0, none⟩) n n l) := HM.out.below HB6.out
  have HY : Hid (Dat w6 ao n c l) := HD2.out.below HB6.out
  go_wp2_with fail
  refine (HX.out.same HY.out).mono ?_
  rintro e w7 ⟨rfl, rfl⟩
  go_wp2
  go_ret
  exact ⟨rfl, below_then HB2.out HB6.out⟩

set_option maxHeartbeats 1000000 in
theorem rt_natt (port rport : Int) (ao : Option Addr) (n c : Nat) (l : List UInt8) (w : World) (hn : n ≤ 1024) (hd : Hid (Dat w ao n c l)) :
    Calls Yba.prog 4 #[.int .u16 port, .int .u16 rport, .bool true, .slice ao n c] w (Post w) := by
  obtain ⟨i0, hi, hz0, hz1, hz2⟩ := info_parts info5
  go_enter Yba.func4, Yba.ntmps4
  go_wp2_with (at_make; refine wpList_make_full _ rfl _ _ 23 rfl w.heap.size 5 i0 (.int .u8 0) 1 Yba.underlying23 hi hz0 hz1 _ _ _ _ n rfl rfl rfl rfl ?m1 ?m2 ?m3 ?_)
  case m1 => rw [hz2]; omega
  case m2 => unfold maxLen; omega
  case m3 => exact Nat.le_refl _
  intro w1 hown hgrow
  have HB1 : Hid (Below w.heap.size w w1) := (Below.refl _ _).grown hgrow (Nat.le_refl _) (fun k e => by cases e)
  obtain ⟨Z, hZ, hG⟩ := made_zero hown
  have HG : Hid (w1.heap[w.heap.size]? = some (.cells Z.toArray 5 (0, 0))) := hG
  have HN : Hid ((bcells l).length = n) := by unfold Hid; rw [bcells, List.length_map, hd.out.len]
  have HC : Hid ((bcells l).length = Nat.min n n) := HN.out.trans (Nat.min_self n).symm
  have HF : Hid (0 + (bcells l).length ≤ Z.length) := by unfold Hid; rw [HN.out, hZ, Nat.zero_add]; exact Nat.le_refl _
  have HS : Hid (0 < (bcells l).length → (some (⟨w.heap.size, 0, none⟩ : Addr)) = some ⟨w.heap.size, 0, none⟩ ∧ ∃ ad, ao = some ad ∧ ∀ j v, (bcells l)[j]? = some v → w1.cell? (ad.add j) = some v) := copy_src hd.out HB1.out _
  have HQ : Hid ((bcells l).length = Z.length) := HN.out.trans hZ.symm
  clear hZ hG
  clear hown hgrow
  go_wp2_with (refine wpList_copy_splice rfl (.tmp 20) (.tmp 21) 23 23 rfl 5 Yba.underlying23 size5 _ _ _ _ _ _ rfl rfl w.heap.size 0 _ 5 HG.out (bcells l) HC.out HS.out HF.out (bcells_one l) w.heap.size w HB1.out (Nat.le_refl _) ?_)
  intro w2 hg2 hb2
  have HB2 : Hid (Below w.heap.size w w2) := hb2
  have HM : Hid (Dat w2 (some ⟨w.heap.size, 0, none⟩) n n l) := dat_copied hd.out.len (by
    have h := hg2.out
    rw [splice_all _ _ HQ.out] at h
    exact h)
  have HD2 : Hid (Dat w2 ao n c l) := hd.out.below HB2.out
  clear hg2 hb2 HG HC HF HS HB1
  go_wp2_with fail
  refine (apf_any 4500 _).mono ?_
  rintro e w3 ⟨rfl, hb3⟩
  have HB3 : Hid (Below w2.heap.size w2 w3) := hb3
  clear hb3
  go_wp2_with fail
  refine (apf_any rport _).mono ?_
  rintro e w4 ⟨rfl, hb4⟩
  have HB4 : Hid (Below w2.heap.size w2 w4) := below_then HB3.out hb4
  clear hb4 HB3
  go_wp2_with fail
  refine (frame_marks rport _ _ _ l _ hn (HM.out.below HB4.out)).mono ?_
  rintro e w5 ⟨g, rfl, hm5, hb5⟩
  have HB5 : Hid (Below w2.heap.size w2 w5) := below_then HB4.out hb5
  have HP : Hid (Dat w5 (some ⟨g, 0, none⟩) (4 + n) (4 + n) (0 :: 0 :: 0 :: 0 :: l)) := hm5
  clear hb5 HB4 hm5
  go_wp2_with fail
  refine (unf_yes rport g 0 (4 + n) (4 + n) _ (by omega) (HP.out.marked.1.below (below_new (Below.refl _ _)))).mono ?_
  rintro e w6 ⟨o', c', rfl, hc', ho', ho2, hb6⟩
  have HB6 : Hid (Below w2.heap.size w2 w6) := below_then (below_new HB5.out) hb6
  have HX : Hid (Dat w6 (some ⟨g, o', none⟩) n c' l) := by
    have h := (HP.out.below (below_then (below_new (Below.refl _ _)) hb6)).tail (by omega) o' ho'
    rw [Nat.add_sub_cancel_left] at h
    rw [hc', Nat.add_sub_cancel_left]
    exact h
  have HY : Hid (Dat w6 ao n c l) := HD2.out.below HB6.out
  clear hb6 HB5 hc' ho' ho2 HP
  go_wp2_with fail
  refine (HX.out.same HY.out).mono ?_
  rintro e w7 ⟨rfl, rfl⟩
  go_wp2
  go_ret
  exact ⟨rfl, below_then HB2.out HB6.out⟩

set_option maxHeartbeats 1000000 in
theorem rt_port (rport : Int) (ao : Option Addr) (n c : Nat) (l : List UInt8) (w : World) (hn : n ≤ 1024) (hd : Hid (Dat w ao n c l)) :
    Calls Yba.prog 4 #[.int .u16 4500, .int .u16 rport, .bool false, .slice ao n c] w (Post w) := by
  obtain ⟨i0, hi, hz0, hz1, hz2⟩ := info_parts info5
  go_enter Yba.func4, Yba.ntmps4
  go_wp2_with (at_make; refine wpList_make_full _ rfl _ _ 23 rfl w.heap.size 5 i0 (.int .u8 0) 1 Yba.underlying23 hi hz0 hz1 _ _ _ _ n rfl rfl rfl rfl ?m1 ?m2 ?m3 ?_)
  case m1 => rw [hz2]; omega
  case m2 => unfold maxLen; omega
  case m3 => exact Nat.le_refl _
  intro w1 hown hgrow
  have HB1 : Hid (Below w.heap.size w w1) := (Below.refl _ _).grown hgrow (Nat.le_refl _) (fun k e => by cases e)
  obtain ⟨Z, hZ, hG⟩ := made_zero hown
  have HG : Hid (w1.heap[w.heap.size]? = some (.cells Z.toArray 5 (0, 0))) := hG
  have HN : Hid ((bcells l).length = n) := by unfold Hid; rw [bcells, List.length_map, hd.out.len]
  have HC : Hid ((bcells l).length = Nat.min n n) := HN.out.trans (Nat.min_self n).symm
  have HF : Hid (0 + (bcells l).length ≤ Z.length) := by unfold Hid; rw [HN.out, hZ, Nat.zero_add]; exact Nat.le_refl _
  have HS : Hid (0 < (bcells l).length → (some (⟨w.heap.size, 0, none⟩ : Addr)) = some ⟨w.heap.size, 0, none⟩ ∧ ∃ ad, ao = some ad ∧ ∀ j v, (bcells l)[j]? = some v → w1.cell? (ad.add j) = some v) := copy_src hd.out HB1.out _
  have HQ : Hid ((bcells l).length = Z.length) := HN.out.trans hZ.symm
  clear hZ hG
  clear hown hgrow
  go_wp2_with (refine wpList_copy_splice rfl (.tmp 20) (.tmp 21) 23 23 rfl 5 Yba.underlying23 size5 _ _ _ _ _ _ rfl rfl w.heap.size 0 _ 5 HG.out (bcells l) HC.out HS.out HF.out (bcells_one l) w.heap.size w HB1.out (Nat.le_refl _) ?_)
  intro w2 hg2 hb2
  have HB2 : Hid (Below w.heap.size w w2) := hb2
  have HM : Hid (Dat w2 (some ⟨w.heap.size, 0, none⟩) n n l) := dat_copied hd.out.len (by
    have h := hg2.out
    rw [splice_all _ _ HQ.out] at h
    exact h)
  have HD2 : Hid (Dat w2 ao n c l) := hd.out.below HB2.out
  clear hg2 hb2 HG HC HF HS HB1
  go_wp2_with fail
  refine (apf_any 4500 _).mono ?_
  rintro e w3 ⟨rfl, hb3⟩
  have HB3 : Hid (Below w2.heap.size w2 w3) := hb3
  clear hb3
  go_wp2_with fail
  refine (apf_any rport _).mono ?_
  rintro e w4 ⟨rfl, hb4⟩
  have HB4 : Hid (Below w2.heap.size w2 w4) := below_then HB3.out hb4
  clear hb4 HB3
  go_wp2_with fail
  refine (frame_marks rport _ _ _ l _ hn (HM.out.below HB4.out)).mono ?_
  rintro e w5 ⟨g, rfl, hm5, hb5⟩
  have HB5 : Hid (Below w2.heap.size w2 w5) := below_then HB4.out hb5
  have HP : Hid (Dat w5 (some ⟨g, 0, none⟩) (4 + n) (4 + n) (0 :: 0 :: 0 :: 0 :: l)) := hm5
  clear hb5 HB4 hm5
  go_wp2_with fail
  refine (unf_yes rport g 0 (4 + n) (4 + n) _ (by omega) (HP.out.marked.1.below (below_new (Below.refl _ _)))).mono ?_
  rintro e w6 ⟨o', c', rfl, hc', ho', ho2, hb6⟩
  have HB6 : Hid (Below w2.heap.size w2 w6) := below_then (below_new HB5.out) hb6
  have HX : Hid (Dat w6 (some ⟨g, o', none⟩) n c' l) := by
    have h := (HP.out.below (below_then (below_new (Below.refl _ _)) hb6)).tail (by omega) o' ho'
    rw [Nat.add_sub_cancel_left] at h
    rw [hc', Nat.add_sub_cancel_left]
    exact h
  have HY : Hid (Dat w6 ao n c l) := HD2.out.below HB6.out
  clear hb6 HB5 hc' ho' ho2 HP
  go_wp2_with fail
  refine (HX.out.same HY.out).mono ?_
  rintro e w7 ⟨rfl, rfl⟩
  go_wp2
  go_ret
  exact ⟨rfl, below_then HB2.out HB6.out⟩

end Go.Proofs.Ybulkaurq
