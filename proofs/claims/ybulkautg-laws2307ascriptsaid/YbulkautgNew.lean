import Derived.Test.YbulkautgAppend
namespace Go.Proofs.Ybulkautg
open Go.RowKit

theorem ptr_cells (w : World) (o : Obj) (a : Addr) : ∀ j u, [Value.pointer (some a)][j]? = some u → ((w.alloc o).alloc (.cells #[.pointer (some a)] 31)).cell? ((⟨w.heap.size + 1, 0, none⟩ : Addr).add j) = some u := by
  intro j u hu
  have e : w.heap.size + 1 = (w.alloc o).heap.size := by simp
  rw [e, Addr.add_lit, cell_of_row _ (w.alloc o).heap.size (0 + j) _ 31 (0, 0) (heap_alloc_new (w.alloc o) _)]
  simpa using hu
theorem ptr_one (a : Addr) : ∀ u ∈ [Value.pointer (some a)], u.oneCell' = true := by
  intro u hu
  simp only [List.mem_cons, List.not_mem_nil, or_false] at hu
  subst hu
  rfl

/-- The file's cell, once the list of sections has turned. -/
theorem Inv.keepFile {w0 : World} {n0 : Nat} {g : Gh} {w w3 : World} {o o' : Obj} (h : Inv w0 n0 g w) (hg : ((w.alloc o).alloc o').grownBy w3 g.S.ownBlock) : w3.cell? ⟨w0.heap.size, 2, none⟩ = some g.S ∧ w3.frozen? ⟨w0.heap.size, 2, none⟩ = false := by
  have h2 : Inv w0 n0 g ((w.alloc o).alloc o') := (h.ext (World.grownBy_alloc _ _ _)).ext (World.grownBy_alloc _ _ _)
  have F : Fr w0.heap.size 31 _ w3 := Fr.grown hg (by have := h2.size; omega) (h2.row_base h2.rowS)
  have hf := F.keep _ _ _ _ h2.file (by decide)
  refine ⟨?_, ?_⟩
  · rw [cell_of_row w3 w0.heap.size 2 _ 28 (0, 0) hf]; rfl
  · simp [World.frozen?, hf]

set_option maxHeartbeats 1000000 in
/-- To a new section. -/
theorem append_new {w0 : World} {n0 : Nat} {g : Gh} (w : World) (h : Hid (Inv w0 n0 g w)) (nm key val : ByteArray) (hl : Hid (lastM g.names nm g.mS = none)) (hm : g.mS ≤ 1000) (hnm : nm.size ≤ 1000) (hN : g.mN ≤ g.mS) (h0 : n0 ≤ g.mS) :
    Calls Yba.prog 5 #[.pointer (some ⟨w0.heap.size, 0, none⟩), .string nm, .string key, .string val] w fun e w' => e = .returned (.tuple #[]) ∧ ∃ s vS v', Inv w0 n0 ((g.addS s nm vS).setR false g.mS v' [(key, val)]) w' := by
  obtain ⟨i0, hi, hz0, hz1, hz2⟩ := info_parts info39
  obtain ⟨j0, ji, jz0, jz1, jz2⟩ := info_parts info31
  have hen := eql_nil32
  obtain ⟨ao, cap, hS, hnc, _, hao⟩ := own_form h.out.rowS
  have hfile := h.out.fileCell.1
  have hfz := h.out.fileCell.2
  rw [hS] at hfile
  have HR : Hid (w.ownsRow (w0.heap.size + 1) 31 1 (.slice ao g.mS cap) g.mS (tabl g.mS fun i => .pointer (some ⟨g.sec i, 0, none⟩))) := by
    unfold Hid
    rw [← hS]
    exact h.out.rowS
  have HSS : Hid (g.S = .slice ao g.mS cap) := hS
  have HA : Hid (0 < g.mS → ∃ gs, ao = some ⟨gs, 0, none⟩) := fun hp => by
    rcases hao with rfl | h1
    · rename_i hx; have := hx rfl; omega
    · exact h1
  clear hao hS
  go_enter Yba.func5, Yba.ntmps5
  go_wp2
  go_loop [8, 16] (fun s x => ∃ k : Nat, k ≤ g.mS ∧ x = .int .i64 (k : Int) ∧ s = ptrOf g.sec (lastM g.names nm k)) (fun _ x => g.mS - (intOf x).toNat)
  case atStart => exact ⟨0, Nat.zero_le _, rfl, rfl⟩
  case round =>
    obtain ⟨k, hk, rfl, rfl⟩ := hrel
    by_cases hlt : k < g.mS
    · obtain ⟨gs, rfl⟩ := HA.out (by omega)
      have hc1 := own_cell HR.out hlt
      have hc2 : w.cell? ⟨g.sec k, 0, none⟩ = some (.string (g.names k)) := (h.out.secCell hlt 0).1
      by_cases heq : ((g.names k).toList == nm.toList) = true
      · have HX : Hid (ptrOf g.sec (lastM g.names nm (k + 1)) = .pointer (some ⟨g.sec k, 0, none⟩)) := by unfold Hid lastM; rw [if_pos heq]; rfl
        go_wp2
        go_round
        case rel => exact ⟨k + 1, by omega, by go_num, HX.out.symm⟩
        case measure => simp [intOf]; omega
      · have heq' : ((g.names k).toList == nm.toList) = false := by simpa using heq
        have HX : Hid (ptrOf g.sec (lastM g.names nm (k + 1)) = ptrOf g.sec (lastM g.names nm k)) := by unfold Hid; conv => lhs; unfold lastM; rw [if_neg heq]
        clear heq
        go_wp2
        go_round
        case rel => exact ⟨k + 1, by omega, by go_num, HX.out.symm⟩
        case measure => simp [intOf]; omega
    · obtain rfl : k = g.mS := by omega
      rw [hl.out, show ptrOf g.sec none = .pointer none from rfl]
      clear HA
      have hlt0 : w0.heap.size < w.heap.size := h.out.size
      have hline : Hid (lineOf n0 g.mS = 0) := by unfold Hid lineOf; rw [if_neg (by omega)]
      go_wp2_with (at_builtin; refine wpList_append_loc _ rfl _ _ 26 rfl (w0.heap.size + 1) 31 j0 _ 1 8 Yba.underlying26 ji jz0 jz1 jz2 rfl (by decide) _ _ _ rfl ((HR.out.alloc _).alloc _) ⟨w.heap.size + 1, 0, none⟩ 1 1 [.pointer (some ⟨w.heap.size, 0, none⟩)] (by decide) rfl rfl (ptr_cells w _ _) (ptr_one _) (by unfold maxLen; omega) (by omega) (by simp only [World.size_alloc]; omega) ?_)
      intro v' w3 ho hg hloc
      rw [← HSS.out] at hg
      have HI1 : Hid (Inv w0 n0 (g.addS w.heap.size nm v') (w3.setCell ⟨w0.heap.size, 2, none⟩ v')) := by
        refine h.out.addS hN (nm := nm) ?_ ho hg
        rw [hline.out]
        exact World.grownBy_alloc _ _ _
      have hkeep := h.out.keepFile hg
      have x2 := hkeep.1
      have y2 := hkeep.2
      have HT : Hid (g.mS < (g.addS w.heap.size nm v').mS) := Nat.lt_succ_self _
      have HC : Hid ((g.addS w.heap.size nm v').sec g.mS = w.heap.size) := upd_same _ _ _
      have HRn : Hid ((g.addS w.heap.size nm v').R false g.mS = .slice none 0 0) := updR_same _ _ _ _
      have x6 := (HI1.out.secCell HT.out 6).1
      rw [HC.out, HRn.out] at x6
      have z6 : w3.cell? ⟨w.heap.size, 6, none⟩ = some (.slice none 0 0) := (World.cell?_of_block (w := w3) (Below.heap_setCell w3 ⟨w0.heap.size, 2, none⟩ v' w.heap.size (by dsimp only; omega))).symm.trans x6
      clear x6 ho hg hkeep
      obtain ⟨gv, cv, rfl, _⟩ := hloc
      rw [HSS.out] at x2
      clear HR
      go_wp2_with (at_make; refine wpList_make_own _ rfl _ _ 32 rfl (w0.heap.size + 1) 39 i0 _ 3 Yba.underlying32 hi hz0 hz1 _ _ _ 16 rfl rfl rfl (by rw [hz2]; decide) (by decide) (by have := HI1.out.size; exact this) ?_)
      intro w5 hown hgrow
      have hsz : (w3.setCell ⟨w0.heap.size, 2, none⟩ (.slice (some ⟨gv, 0, none⟩) (g.mS + 1) cv)).heap.size = w3.heap.size := by simp [World.setCell]
      generalize w3.setCell ⟨w0.heap.size, 2, none⟩ (.slice (some ⟨gv, 0, none⟩) (g.mS + 1) cv) = w4 at HI1 hgrow hsz
      obtain ⟨g1, E1⟩ : ∃ g1, Hid (g1 = g.addS w.heap.size nm (.slice (some ⟨gv, 0, none⟩) (g.mS + 1) cv)) := ⟨_, rfl⟩
      rw [← E1.out] at HI1 HT HC HRn
      have hh1 := HI1.out.holdA (i := g.mS) HT.out hgrow (fun r e => by cases e)
      have x5 : w5.cell? ⟨w.heap.size, 6, none⟩ = some (.slice none 0 0) := by have := hh1.1; rw [HC.out, HRn.out] at this; exact this
      have y5 : w5.frozen? ⟨w.heap.size, 6, none⟩ = false := by have := hh1.2; rw [HC.out] at this; exact this
      have HM : Hid (Inv w0 n0 (g1.setR false g.mS (.slice (some ⟨w3.heap.size, 0, none⟩) 0 16) []) (w5.setCell ⟨w.heap.size, 6, none⟩ (.slice (some ⟨w3.heap.size, 0, none⟩) 0 16))) := by
        have := HI1.out.setA HT.out (n := 0) (v' := (.slice (some ⟨w3.heap.size, 0, none⟩) 0 16)) (es := []) hown (grown_none hgrow _) ⟨_, _, rfl, .inr (by omega)⟩
        rw [HC.out] at this
        exact this
      have HC2 : Hid ((g1.setR false g.mS (.slice (some ⟨w3.heap.size, 0, none⟩) 0 16) []).sec g.mS = w.heap.size) := HC
      have HT2 : Hid (g.mS < (g1.setR false g.mS (.slice (some ⟨w3.heap.size, 0, none⟩) 0 16) []).mS) := HT
      clear hown hgrow hh1 x2 y2 z6 hsz HI1
      have hgR : (g1.setR false g.mS (.slice (some ⟨w3.heap.size, 0, none⟩) 0 16) []).R false g.mS = (.slice (some ⟨w3.heap.size, 0, none⟩) 0 16) := updR_same _ _ _ _
      have hgE : (g1.setR false g.mS (.slice (some ⟨w3.heap.size, 0, none⟩) 0 16) []).ents false g.mS = [] := updR_same _ _ _ _
      have HO : Hid ((w5.setCell ⟨w.heap.size, 6, none⟩ (.slice (some ⟨w3.heap.size, 0, none⟩) 0 16)).ownsRow (w0.heap.size + 1) 39 3 (.slice (some ⟨w3.heap.size, 0, none⟩) 0 16) 0 []) := by
        unfold Hid
        have := HM.out.rows false g.mS HT2.out
        rw [hgR, hgE] at this
        exact this
      have HgR : Hid ((g1.setR false g.mS (.slice (some ⟨w3.heap.size, 0, none⟩) 0 16) []).R false g.mS = (.slice (some ⟨w3.heap.size, 0, none⟩) 0 16)) := hgR
      clear hgR hgE
      go_wp2_with (at_builtin; refine wpList_append_loc _ rfl _ _ 32 rfl (w0.heap.size + 1) 39 i0 _ 3 40 Yba.underlying32 hi hz0 hz1 hz2 rfl (by decide) _ _ _ rfl (HO.out.alloc _) ⟨w5.heap.size, 0, none⟩ 1 1 [.string key, .string val, .int .i64 0] (by decide) rfl rfl (entry_cells' _ _ (size_set _ _ _) key val) (entry_one key val) (by decide) (by decide) (by have := HM.out.size; simp only [World.size_alloc]; omega) ?_)
      intro v' w6 ho hg hloc
      have HE : Hid (Inv w0 n0 (g1.setR false g.mS (.slice (some ⟨w3.heap.size, 0, none⟩) 0 16) []) ((w5.setCell ⟨w.heap.size, 6, none⟩ (.slice (some ⟨w3.heap.size, 0, none⟩) 0 16)).alloc (.cells #[.string key, .string val, .int .i64 0] 39))) := HM.out.ext (World.grownBy_alloc _ _ _)
      have hgg : ((w5.setCell ⟨w.heap.size, 6, none⟩ (.slice (some ⟨w3.heap.size, 0, none⟩) 0 16)).alloc (.cells #[.string key, .string val, .int .i64 0] 39)).grownBy w6 ((g1.setR false g.mS (.slice (some ⟨w3.heap.size, 0, none⟩) 0 16) []).R false g.mS).ownBlock := by
        rw [HgR.out]
        exact hg
      have hll : Loc ((w5.setCell ⟨w.heap.size, 6, none⟩ (.slice (some ⟨w3.heap.size, 0, none⟩) 0 16)).alloc (.cells #[.string key, .string val, .int .i64 0] 39)) ((g1.setR false g.mS (.slice (some ⟨w3.heap.size, 0, none⟩) 0 16) []).R false g.mS) v' 1 := by
        rw [HgR.out]
        exact hloc
      have hh := HE.out.holdA (i := g.mS) HT2.out hgg (HE.out.row_base (HE.out.rows false g.mS HT2.out))
      have x6 : w6.cell? ⟨w.heap.size, 6, none⟩ = some (.slice (some ⟨w3.heap.size, 0, none⟩) 0 16) := by have := hh.1; rw [HC2.out, HgR.out] at this; exact this
      have y6 : w6.frozen? ⟨w.heap.size, 6, none⟩ = false := by have := hh.2; rw [HC2.out] at this; exact this
      have HF := HE.out.setA (i := g.mS) HT2.out (es := [(key, val)]) (by simpa [ecells] using ho) hgg hll
      rw [setR_setR, HC2.out, E1.out] at HF
      have HF' : Hid (Inv w0 n0 ((g.addS w.heap.size nm (.slice (some ⟨gv, 0, none⟩) (g.mS + 1) cv)).setR false g.mS v' [(key, val)]) (w6.setCell ⟨w.heap.size, 6, none⟩ v')) := HF
      obtain ⟨gw, cw, rfl, _⟩ := hloc
      clear ho hg hgg hll hh HO HF HE HM x5 y5
      go_wp2
      go_end0
      exact ⟨rfl, _, _, _, HF'.out⟩
end Go.Proofs.Ybulkautg
