import Derived.Test.YbulkautgHalf
namespace Go.Proofs.Ybulkautg
open Go.RowKit

set_option maxRecDepth 100000 in
set_option maxHeartbeats 4000000 in
theorem law_walk (ao bo : Option Addr) (n nc p pc : Nat) (Z ZN : Nat → Int) (K V : Nat → ByteArray) (w : World) (hn : n ≤ 256) (hp : p ≤ 256) (hna : Hid (NamesAt w ao n Z)) (hop : Hid (OpsAt w bo p ZN K V)) (hZ : Hid (∀ i, 0 ≤ Z i ∧ Z i ≤ 255)) (hZN : Hid (∀ i, 0 ≤ ZN i ∧ ZN i ≤ 255)) :
    Calls Yba.prog 3 #[.slice ao n nc, .slice bo p pc] w fun e w' => e = .returned (.bool true) ∧ Below w.heap.size w w' := by
  obtain ⟨e0, ei, ez0, ez1, ez2⟩ := info_parts info39
  obtain ⟨j0, ji, jz0, jz1, jz2⟩ := info_parts info31
  obtain ⟨s0, si, sz0, sz1, sz2⟩ := info_parts info9
  obtain ⟨l0, li, lz0, lz1, lz2⟩ := info_parts info32
  have H0 : Hid (∃ g, g.N = .slice none 0 0 ∧ g.M = .slice none 0 0 ∧ Eqv g 0 0 ∧ Inv w n g (w.alloc (.cells #[.string ⟨#[]⟩, .slice none 0 0, .slice none 0 0] 28))) := ⟨_, rfl, rfl, ⟨rfl, rfl, rfl, fun _ _ => rfl, fun _ _ => Nat.le_refl _, fun _ h => absurd h (Nat.not_lt_zero _)⟩, inv_start w n⟩
  go_enter Yba.func3, Yba.ntmps3
  go_wp2
  go_loopw [6, 7, 34] (fun a b i wr => ∃ (k : Nat) (g : Gh), k ≤ n ∧ i = .int .i64 (k : Int) ∧ a = g.N ∧ b = g.M ∧ Hid (Eqv g k 0) ∧ Hid (Inv w n g wr)) (fun _ _ i _ => n - (intOf i).toNat)
  case atStart =>
    obtain ⟨g, h1, h2, h3, h4⟩ := H0.out
    exact ⟨0, g, Nat.zero_le _, rfl, h1.symm, h2.symm, h3, h4⟩
  case round =>
    obtain ⟨k, g, hk, rfl, rfl, rfl, hF, hI⟩ := hrel
    by_cases hlt : k < n
    · obtain ⟨nb, no, rfl, hcs⟩ := hna.out (by omega)
      have hlb : nb < w.heap.size := World.block_lt_of_cell? w _ (hcs k hlt)
      have hc1 : wr.cell? ⟨nb, no + k, none⟩ = some (.int .u8 (Z k)) := (hI.out.bel.cell (p := ⟨nb, no + k, none⟩) hlb).trans (hcs k hlt)
      have hfile := hI.out.fileCell.1
      have hfz := hI.out.fileCell.2
      have hlt0 : w.heap.size < wr.heap.size := hI.out.size
      clear hcs
      go_wp2_with fail
      refine (name3 (Z k) (hZ.out k).1 (hZ.out k).2 _).mono ?_
      rintro e w1 ⟨rfl, rfl⟩
      have hnm := tab_size (Z k % 3).toNat
      generalize tab (Z k % 3).toNat = nm at hnm
      go_wp2_with (at_builtin; refine wpList_append_loc _ rfl (.tmp 45) (.tmp 54) 26 rfl (w.heap.size + 1) 31 j0 _ 1 8 Yba.underlying26 ji jz0 jz1 jz2 rfl (by decide) _ _ _ rfl ((hI.out.rowS.alloc _).alloc _) ⟨w1.heap.size + 1, 0, none⟩ 1 1 [.pointer (some ⟨w1.heap.size, 0, none⟩)] (by decide) rfl rfl (ptr_cells w1 _ _) (ptr_one _) (by rw [hF.out.s]; unfold maxLen; omega) (by rw [hF.out.s]; omega) (by simp only [World.size_alloc]; omega) ?_)
      intro v3 w3 ho hg hloc
      have hline : lineOf n g.mS = (k : Int) + 1 := by unfold lineOf; rw [if_pos (by rw [hF.out.s]; omega), hF.out.s]
      have HI1 : Hid (Inv w n (g.addS w1.heap.size nm v3) (w3.setCell ⟨w.heap.size, 2, none⟩ v3)) := by
        refine hI.out.addS (by rw [hF.out.n, hF.out.s]; exact Nat.le_refl _) (nm := nm) ?_ ho hg
        rw [hline]
        exact World.grownBy_alloc _ _ _
      have hkeep := hI.out.keepFile hg
      have x2 := hkeep.1
      have y2 := hkeep.2
      have HM : Hid (Mid g (g.addS w1.heap.size nm v3) k 0 nm) := hF.out.mid hnm
      have HE : Hid (∀ vN vM, Eqv ((g.addS w1.heap.size nm v3).addNM vN vM) (k + 1) 0) := fun vN vM => hF.out.round1 hnm
      generalize g.addS w1.heap.size nm v3 = g1 at HI1 HM HE
      obtain ⟨gv, cv, rfl, _⟩ := hloc
      clear ho hg hkeep hline hc1 hfile hfz
      go_wp2_with (at_builtin; refine wpList_append_loc _ rfl (.tmp 58) (.tmp 60) 25 rfl (w.heap.size + 1) 9 s0 _ 1 16 Yba.underlying25 si sz0 sz1 sz2 rfl (by decide) _ _ _ rfl ((HM.out.rowN HI1.out).alloc _) ⟨w3.heap.size, 0, none⟩ 1 1 [.string nm] (by decide) rfl rfl (str_cells' _ _ (size_set _ _ _) nm) (str_one _) (by unfold maxLen; omega) (by omega) (by have := HI1.out.size; simp only [World.size_alloc]; omega) ?_)
      intro vN w4 ho hg hloc
      have HI2 : Hid (Inv w n { g1 with N := vN, mN := g1.mN + 1 } w4) := HI1.out.addN' HM.out ho hg
      clear ho hg x2 y2 HI1
      obtain ⟨gN, cN, rfl, _⟩ := hloc
      go_wp2_with (at_builtin; refine wpList_append_loc _ rfl (.tmp 62) (.tmp 63) 29 rfl (w.heap.size + 1) 32 l0 _ 1 24 Yba.underlying29 li lz0 lz1 lz2 rfl (by decide) _ _ _ rfl ((HM.out.rowM HI2.out).alloc _) ⟨w4.heap.size, 0, none⟩ 1 1 [.slice none 0 0] (by decide) rfl rfl (nil_cells w4) (nil_one) (by unfold maxLen; omega) (by omega) (by have := HI2.out.size; simp only [World.size_alloc]; omega) ?_)
      intro vM w5 ho hg hloc
      have HI3 : Hid (Inv w n (g1.addNM (.slice (some ⟨gN, 0, none⟩) (k + 1) cN) vM) w5) := HI2.out.addNM HM.out ho hg
      clear ho hg HI2
      obtain ⟨gM, cM, rfl, _⟩ := hloc
      go_wp2
      go_roundw
      case rel => exact ⟨k + 1, _, by omega, by go_num, rfl, rfl, HE.out _ _, HI3.out⟩
      case measure => simp [intOf]; omega
    · obtain rfl : n = k := by omega
      clear hna H0
      go_wp2
      go_loopw [6, 7, 68] (fun a b i wr => ∃ (k m : Nat) (g : Gh), k ≤ p ∧ i = .int .i64 (k : Int) ∧ a = g.N ∧ b = g.M ∧ n ≤ m ∧ m ≤ n + k ∧ Hid (Eqv g m k) ∧ Hid (Inv w n g wr)) (fun _ _ i _ => p - (intOf i).toNat)
      case atStart => exact ⟨0, n, g, Nat.zero_le _, rfl, rfl, rfl, Nat.le_refl _, Nat.le_refl _, hF, hI⟩
      case round =>
        clear hF hI
        obtain ⟨k, m, g, hk, rfl, ha, hb, hnm, hmk, hF, hI⟩ := hrel
        obtain ⟨aN, cN, aM, cM, hfN, hfM, hcN, hcM, hpos⟩ := hF.out.forms hI.out
        rw [hfN] at ha
        rw [hfM] at hb
        subst ha hb
        by_cases hlt : k < p
        · obtain ⟨ob, oo, rfl, hcs⟩ := hop.out (by omega)
          obtain ⟨c0, c1, c2⟩ := hcs k hlt
          have hlb : ob < w.heap.size := World.block_lt_of_cell? w _ c0
          have d0 : wr.cell? ⟨ob, oo + k * 3, none⟩ = some (.int .u8 (ZN k)) := (hI.out.bel.cell (p := ⟨ob, oo + k * 3, none⟩) hlb).trans c0
          have d1 : wr.cell? ⟨ob, oo + k * 3 + 1, none⟩ = some (.string (K k)) := (hI.out.bel.cell (p := ⟨ob, oo + k * 3 + 1, none⟩) hlb).trans c1
          have d2 : wr.cell? ⟨ob, oo + k * 3 + 2, none⟩ = some (.string (V k)) := (hI.out.bel.cell (p := ⟨ob, oo + k * 3 + 2, none⟩) hlb).trans c2
          have hlt0 : w.heap.size < wr.heap.size := hI.out.size
          clear hcs c0 c1 c2
          go_wp2_with fail
          refine (name4 (ZN k) (hZN.out k).1 (hZN.out k).2 _).mono ?_
          rintro e wa ⟨rfl, hW⟩
          have hnz := tab_size (ZN k % 4).toNat
          generalize tab (ZN k % 4).toNat = nm at hnz
          obtain ⟨g0, eN, eM, eO, hE0, hI0⟩ := hI.out.setOp' hF.out hW
          have HE0 : Hid (Eqv g0 m k) := hE0
          have HI0 : Hid (Inv w n g0 wa) := hI0
          have HO0 : Hid (g0.op = some (wr.heap.size, #[.int .u8 (ZN k), .string (K k), .string (V k)])) := eO
          have HN0 : Hid (g0.N = .slice aN m cN) := eN.trans hfN
          have HM0 : Hid (g0.M = .slice aM m cM) := eM.trans hfM
          clear hI0 hE0 hW eN eM eO hfN hfM hF hI d0 d1 d2
          have a1 : wa.cell? ⟨wr.heap.size, 1, none⟩ = some (.string (K k)) := HI0.out.opCell HO0.out 1
          have a2 : wa.cell? ⟨wr.heap.size, 2, none⟩ = some (.string (V k)) := HI0.out.opCell HO0.out 2
          go_wp2_with fail
          clear a1 a2
          rcases hlm : lastM g0.names nm m with _ | i
          · refine (append_new wa HI0 nm (K k) (V k) (by unfold Hid; rw [HE0.out.s]; exact hlm) (by rw [HE0.out.s]; omega) (by omega) (by rw [HE0.out.s, HE0.out.n]; exact Nat.le_refl _) (by rw [HE0.out.s]; exact hnm)).mono ?_
            rintro e w2 ⟨rfl, s1, vS, v1, hI1⟩
            obtain ⟨g1, eO, eE, hM, hI1⟩ := HE0.out.new hnz hI1
            have HMid : Hid (Mid g0 g1 m k nm) := hM
            have HI1 : Hid (Inv w n g1 w2) := hI1
            have HO1 : Hid (g1.op = some (wr.heap.size, #[.int .u8 (ZN k), .string (K k), .string (V k)])) := eO.trans HO0.out
            have HE1 : Hid (g1.ents false m = [(K k, V k)]) := eE
            have HRN : Hid (w2.ownsRow (w.heap.size + 1) 9 1 (.slice aN m cN) m (tabl m fun i => .string (g1.names i))) := by
              unfold Hid
              have := hM.rowN hI1
              rw [HN0.out] at this
              exact this
            have HL : Hid (lastM g1.names nm m = none) := by unfold Hid; rw [lastM_congr hM.old]; exact hlm
            clear hI1 hM eO eE HE0 HI0 HO0 hlm
            go_wp2_with fail
            go_loop [14, 15] (fun x j => x = .int .i64 (-1) ∧ ∃ q : Nat, q ≤ m ∧ j = .int .i64 ((q : Int) - 1) ∧ Hid (lastM g1.names nm q = none)) (fun _ j => (intOf j + 1).toNat)
            case atStart => exact ⟨rfl, m, Nat.le_refl _, by go_num, HL⟩
            case round =>
              clear HL
              obtain ⟨rfl, q, hq, hj, HL⟩ := hrel
              rcases q with _ | r
              · rw [show ((0 : Nat) : Int) - 1 = (-1 : Int) by omega] at hj
                subst hj
                clear HL
                go_wp2_with (at_builtin; refine wpList_append_loc _ rfl (.tmp 98) (.tmp 100) 25 rfl (w.heap.size + 1) 9 s0 _ 1 16 Yba.underlying25 si sz0 sz1 sz2 rfl (by decide) _ _ _ rfl (HRN.out.alloc _) ⟨w2.heap.size, 0, none⟩ 1 1 [.string nm] (by decide) rfl rfl (str_cells w2 nm) (str_one _) (by unfold maxLen; omega) (by omega) (by have := HI1.out.size; simp only [World.size_alloc]; omega) ?_)
                intro vN w4 ho hg hloc
                rw [← HN0.out] at hg
                have HI2 : Hid (Inv w n { g1 with N := vN, mN := g1.mN + 1 } w4) := HI1.out.addN' HMid.out ho hg
                clear ho hg HI1 HRN
                obtain ⟨gN, cN', rfl, _⟩ := hloc
                have HRM : Hid (w4.ownsRow (w.heap.size + 1) 32 1 (.slice aM m cM) m (tabl m (g1.R true))) := by
                  unfold Hid
                  have := HMid.out.rowM HI2.out
                  rw [HM0.out] at this
                  exact this
                go_wp2_with (at_builtin; refine wpList_append_loc _ rfl (.tmp 102) (.tmp 103) 29 rfl (w.heap.size + 1) 32 l0 _ 1 24 Yba.underlying29 li lz0 lz1 lz2 rfl (by decide) _ _ _ rfl (HRM.out.alloc _) ⟨w4.heap.size, 0, none⟩ 1 1 [.slice none 0 0] (by decide) rfl rfl (nil_cells w4) (nil_one) (by unfold maxLen; omega) (by omega) (by have := HI2.out.size; simp only [World.size_alloc]; omega) ?_)
                intro vM w5 ho hg hloc
                rw [← HM0.out] at hg
                have HI3 : Hid (Inv w n (g1.addNM (.slice (some ⟨gN, 0, none⟩) (m + 1) cN') vM) w5) := HI2.out.addNM HMid.out ho hg
                have HH : Hid (Half (g1.addNM (.slice (some ⟨gN, 0, none⟩) (m + 1) cN') vM) (m + 1) k m (K k) (V k)) := HMid.out.half HE1.out
                have HO3 : Hid ((g1.addNM (.slice (some ⟨gN, 0, none⟩) (m + 1) cN') vM).op = some (wr.heap.size, #[.int .u8 (ZN k), .string (K k), .string (V k)])) := HO1
                have HN3 : Hid ((g1.addNM (.slice (some ⟨gN, 0, none⟩) (m + 1) cN') vM).N = .slice (some ⟨gN, 0, none⟩) (m + 1) cN') := rfl
                have HM3 : Hid ((g1.addNM (.slice (some ⟨gN, 0, none⟩) (m + 1) cN') vM).M = vM) := rfl
                clear ho hg HI2 HRM HMid HE1 HO1 HN0 HM0
                generalize g1.addNM (.slice (some ⟨gN, 0, none⟩) (m + 1) cN') vM = g3 at HI3 HH HO3 HN3 HM3
                obtain ⟨gM, cM', rfl, _⟩ := hloc
                go_wp2_with fail
                have him : m < m + 1 := Nat.lt_succ_self m
                have hii : (m : Int) < (m : Int) + 1 := by omega
                have b1 : w5.cell? ⟨wr.heap.size, 1, none⟩ = some (.string (K k)) := HI3.out.opCell HO3.out 1
                have b2 : w5.cell? ⟨wr.heap.size, 2, none⟩ = some (.string (V k)) := HI3.out.opCell HO3.out 2
                have bM : w5.cell? ⟨gM, m, none⟩ = some (g3.R true m) := HH.out.cellB HI3.out him HM3.out
                have hlM : gM < w5.heap.size := World.block_lt_of_cell? w5 _ bM
                have bM' : (w5.alloc (.cells #[.string (K k), .string (V k), .int .i64 0] 39)).cell? ⟨gM, m, none⟩ = some (g3.R true m) := (World.cell?_of_block (heap_alloc_old w5 _ hlM)).trans bM
                have hlen := HH.out.len him
                have hsz := HI3.out.size
                go_region_law (refine step_append_loc rfl (.tmp 113) (.tmp 119) 32 rfl (w.heap.size + 1) 39 e0 _ 3 40 Yba.underlying32 ei ez0 ez1 ez2 rfl (by decide) (g3.R true m) (g3.ents true m).length (ecells (g3.ents true m)) (by simp [Act.eval]) ((HH.out.rowB HI3.out.drew him).alloc _) ⟨w5.heap.size, 0, none⟩ 1 1 [.string (K k), .string (V k), .int .i64 0] (by decide) (by simp [Act.eval]) rfl (entry_cells' _ _ rfl (K k) (V k)) (entry_one _ _) (by unfold maxLen; omega) (by omega) (by simp; omega) ?_; intro v' w' ho hg hl; obtain ⟨gv, cv, rfl, x1, x2, g2, y1, y2, y3, y4⟩ := HI3.out.drew.stepB HH.out him HM3.out (World.grownBy_alloc _ _ _) ho hg hl; have HI4 : Hid (Inv w n g2 _) := y4; clear ho hg hl y4)
                all_goals go_wp2
                all_goals go_roundw
                all_goals first
                  | (case rel => exact ⟨k + 1, m + 1, g2, by omega, by go_num, (y1.trans HN3.out).symm, (y2.trans HM3.out).symm, by omega, by omega, y3, HI4⟩)
                  | (case measure => simp [intOf]; omega)
              · rw [show ((r + 1 : Nat) : Int) - 1 = (r : Int) by omega] at hj
                subst hj
                have hrm : r < m := by omega
                obtain ⟨gN, gM, rfl, rfl⟩ := hpos (by omega)
                have hc := own_cell HRN.out hrm
                by_cases heq : ((g1.names r).toList == nm.toList) = true
                · have := HL.out
                  unfold lastM at this
                  rw [if_pos heq] at this
                  cases this
                · have heq' : ((g1.names r).toList == nm.toList) = false := by simpa using heq
                  have HL' : Hid (lastM g1.names nm r = none) := by
                    have := HL.out
                    unfold lastM at this
                    rw [if_neg heq] at this
                    exact this
                  clear heq HL
                  go_wp2
                  go_round
                  case rel => exact ⟨rfl, r, by omega, by go_num, HL'⟩
                  case measure => simp [intOf]
          · have him := lastM_lt hlm
            obtain ⟨gN, gM, rfl, rfl⟩ := hpos (by omega)
            refine (append_old wa HI0 nm (K k) (V k) i (by unfold Hid; rw [HE0.out.s]; exact hlm) (by rw [HE0.out.s]; omega) (by have := HE0.out.l i him; omega)).mono ?_
            rintro e w2 ⟨rfl, v1, hI1⟩
            obtain ⟨g1, eN, eM, eO, eS, hH, hI1⟩ := HE0.out.old him hI1
            have HH : Hid (Half g1 m k i (K k) (V k)) := hH
            have HI1 : Hid (Inv w n g1 w2) := hI1
            have HN1 : Hid (g1.N = .slice (some ⟨gN, 0, none⟩) m cN) := eN.trans HN0.out
            have HM1 : Hid (g1.M = .slice (some ⟨gM, 0, none⟩) m cM) := eM.trans HM0.out
            have HO1 : Hid (g1.op = some (wr.heap.size, #[.int .u8 (ZN k), .string (K k), .string (V k)])) := eO.trans HO0.out
            have HRN : Hid (w2.ownsRow (w.heap.size + 1) 9 1 (.slice (some ⟨gN, 0, none⟩) m cN) m (tabl m fun i => .string (g1.names i))) := by
              unfold Hid
              have := hI1.rowN
              rw [hH.n, HN1.out] at this
              exact this
            have HL : Hid (lastM g1.names nm m = some i) := by unfold Hid; rw [eS]; exact hlm
            clear hI1 hH eN eM eO eS HE0 HI0 HO0 HN0 HM0 hlm hpos
            go_wp2_with fail
            go_loop [14, 15] (fun x j => x = .int .i64 (-1) ∧ ∃ q : Nat, q ≤ m ∧ j = .int .i64 ((q : Int) - 1) ∧ Hid (lastM g1.names nm q = some i)) (fun _ j => (intOf j + 1).toNat)
            case atStart => exact ⟨rfl, m, Nat.le_refl _, by go_num, HL⟩
            case round =>
              clear HL
              obtain ⟨rfl, q, hq, hj, HL⟩ := hrel
              rcases q with _ | r
              · exact absurd HL.out (by unfold lastM; simp)
              · rw [show ((r + 1 : Nat) : Int) - 1 = (r : Int) by omega] at hj
                subst hj
                have hrm : r < m := by omega
                have hc := own_cell HRN.out hrm
                by_cases heq : ((g1.names r).toList == nm.toList) = true
                · obtain rfl : r = i := by
                    have := HL.out
                    unfold lastM at this
                    rw [if_pos heq] at this
                    exact Option.some.inj this
                  go_wp2_with fail
                  have b1 : w2.cell? ⟨wr.heap.size, 1, none⟩ = some (.string (K k)) := HI1.out.opCell HO1.out 1
                  have b2 : w2.cell? ⟨wr.heap.size, 2, none⟩ = some (.string (V k)) := HI1.out.opCell HO1.out 2
                  have bM : w2.cell? ⟨gM, r, none⟩ = some (g1.R true r) := HH.out.cellB HI1.out him HM1.out
                  have hlM : gM < w2.heap.size := World.block_lt_of_cell? w2 _ bM
                  have bM' : (w2.alloc (.cells #[.string (K k), .string (V k), .int .i64 0] 39)).cell? ⟨gM, r, none⟩ = some (g1.R true r) := (World.cell?_of_block (heap_alloc_old w2 _ hlM)).trans bM
                  have hlen := HH.out.len him
                  have hsz := HI1.out.size
                  go_region_law (refine step_append_loc rfl (.tmp 113) (.tmp 119) 32 rfl (w.heap.size + 1) 39 e0 _ 3 40 Yba.underlying32 ei ez0 ez1 ez2 rfl (by decide) (g1.R true r) (g1.ents true r).length (ecells (g1.ents true r)) (by simp [Act.eval]) ((HH.out.rowB HI1.out.drew him).alloc _) ⟨w2.heap.size, 0, none⟩ 1 1 [.string (K k), .string (V k), .int .i64 0] (by decide) (by simp [Act.eval]) rfl (entry_cells' _ _ rfl (K k) (V k)) (entry_one _ _) (by unfold maxLen; omega) (by omega) (by simp; omega) ?_; intro v' w' ho hg hl; obtain ⟨gv, cv, rfl, x1, x2, g2, y1, y2, y3, y4⟩ := HI1.out.drew.stepB HH.out him HM1.out (World.grownBy_alloc _ _ _) ho hg hl; have HI2 : Hid (Inv w n g2 _) := y4; clear ho hg hl y4)
                  all_goals go_wp2
                  all_goals go_roundw
                  all_goals first
                    | (case rel => exact ⟨k + 1, m, g2, by omega, by go_num, (y1.trans HN1.out).symm, (y2.trans HM1.out).symm, hnm, by omega, y3, HI2⟩)
                    | (case measure => simp [intOf]; omega)
                · have heq' : ((g1.names r).toList == nm.toList) = false := by simpa using heq
                  have HL' : Hid (lastM g1.names nm r = some i) := by
                    have := HL.out
                    unfold lastM at this
                    rw [if_neg heq] at this
                    exact this
                  clear heq HL
                  go_wp2
                  go_round
                  case rel => exact ⟨rfl, r, by omega, by go_num, HL'⟩
                  case measure => simp [intOf]
        · obtain rfl : p = k := by omega
          obtain ⟨aS, cS, hfS, hcS, _, hS3⟩ := own_form hI.out.rowS
          rw [hF.out.s] at hfS hcS
          have HS : Hid (g.S = .slice aS m cS) := hfS
          have HN : Hid (g.N = .slice aN m cN) := hfN
          have HM : Hid (g.M = .slice aM m cM) := hfM
          have hfile := hI.out.fileCell.1
          rw [hfS] at hfile
          have hS4 : Hid (0 < m → ∃ gS, aS = some ⟨gS, 0, none⟩) := fun hp => by
            rcases hS3 with rfl | h1
            · rename_i hx; have := hx rfl; rw [hF.out.s] at this; omega
            · exact h1
          clear hop hfS hfN hfM hS3
          go_wp2_with fail
          go_loopw [136] (fun i wr => ∃ k : Nat, k ≤ m ∧ i = .int .i64 (k : Int) ∧ Hid (Inv w n g wr)) (fun i _ => m - (intOf i).toNat)
          case atStart => exact ⟨0, Nat.zero_le _, rfl, hI⟩
          case round =>
            clear hI hfile
            obtain ⟨k, hk, rfl, hI⟩ := hrel
            by_cases hlt : k < m
            · obtain ⟨gS, rfl⟩ := hS4.out (by omega)
              obtain ⟨gN, gM, rfl, rfl⟩ := hpos (by omega)
              have hrS := hI.out.rowS
              rw [hF.out.s, HS.out] at hrS
              have hrN := hI.out.rowN
              rw [hF.out.n, HN.out] at hrN
              have hrM := hI.out.rowM
              rw [hF.out.q, HM.out] at hrM
              have qS := own_cell hrS hlt
              have qN := own_cell hrN hlt
              have qM := own_cell hrM hlt
              have hks : k < g.mS := by rw [hF.out.s]; exact hlt
              have q0 : wr.cell? ⟨g.sec k, 0, none⟩ = some (.string (g.names k)) := (hI.out.secCell hks 0).1
              have q1 : wr.cell? ⟨g.sec k, 1, none⟩ = some (.string (⟨#[91]⟩ ++ g.names k ++ ⟨#[93]⟩)) := (hI.out.secCell hks 1).1
              have q2 : wr.cell? ⟨g.sec k, 2, none⟩ = some (.int .i64 (lineOf n k)) := (hI.out.secCell hks 2).1
              have q6 : wr.cell? ⟨g.sec k, 6, none⟩ = some (g.R false k) := (hI.out.secCell hks 6).1
              clear hrS hrN hrM
              have hnz : (g.names k).size ≤ 7 := hF.out.z k hlt
              have hee := hF.out.e k hlt
              have hel := hF.out.l k hlt
              have HRA := hI.out.rows false k hks
              have HRB := hI.out.rows true k (by show k < g.mM; rw [hF.out.q]; exact hlt)
              rw [← hee] at HRB
              obtain ⟨es, hes⟩ : ∃ es, es = g.ents false k := ⟨_, rfl⟩
              have hEA : Hid (g.ents false k = es) := hes.symm
              have hEB : Hid (g.ents true k = es) := hee.symm.trans hes.symm
              rw [← hes] at hel HRA HRB
              obtain ⟨aA, cA, hA, hA1, hA2, hA3⟩ := own_form HRA
              obtain ⟨aB, cB, hB, hB1, hB2, hB3⟩ := own_form HRB
              have HA : Hid (g.R false k = .slice aA es.length cA) := hA
              have HB : Hid (g.R true k = .slice aB es.length cB) := hB
              rw [hA] at q6
              rw [hB] at qM
              have hpA : Hid (0 < es.length → ∃ gA gB, aA = some ⟨gA, 0, none⟩ ∧ aB = some ⟨gB, 0, none⟩) := fun hp => by
                rcases hA3 with rfl | ⟨gA, rfl⟩
                · have := (hA2 rfl).1; omega
                · rcases hB3 with rfl | ⟨gB, rfl⟩
                  · have := (hB2 rfl).1; omega
                  · exact ⟨gA, gB, rfl, rfl⟩
              clear HRA HRB hA hB hA2 hB2 hA3 hB3 hee hes
              by_cases hkn : k < n
              · rw [show lineOf n k = (k : Int) + 1 by unfold lineOf; rw [if_pos hkn]] at q2
                go_wp2_with fail
                go_quiet (fail)
                go_wp2_with fail
                go_quiet (fail)
                go_wp2_with fail
                go_loopw [195] (fun i wr => ∃ j : Nat, j ≤ es.length ∧ i = .int .i64 (j : Int) ∧ Hid (Inv w n g wr)) (fun i _ => es.length - (intOf i).toNat)
                case atStart => exact ⟨0, Nat.zero_le _, rfl, hI.out.ext ⟨rfl, rfl, rfl, Nat.le_refl _, fun _ _ _ => rfl⟩⟩
                case round =>
                  clear hI qS qN qM q0 q1 q2 q6
                  obtain ⟨j, hj, rfl, hI⟩ := hrel
                  by_cases hjl : j < es.length
                  · obtain ⟨gA, gB, rfl, rfl⟩ := hpA.out (by omega)
                    have HRA := hI.out.rows false k hks
                    have HRB := hI.out.rows true k (by show k < g.mM; rw [hF.out.q]; exact hlt)
                    rw [HA.out, hEA.out] at HRA
                    rw [HB.out, hEB.out] at HRB
                    obtain ⟨x0, x1, x2⟩ := ent_cell HRA hjl
                    obtain ⟨y0, y1, y2⟩ := ent_cell HRB hjl
                    have hrM := hI.out.rowM
                    rw [hF.out.q, HM.out] at hrM
                    have qM := own_cell hrM hlt
                    rw [HB.out] at qM
                    have hlM : gM < wr.heap.size := World.block_lt_of_cell? wr _ qM
                    have hlA : gA < wr.heap.size := World.block_lt_of_cell? wr _ x0
                    have hlB : gB < wr.heap.size := World.block_lt_of_cell? wr _ y0
                    generalize es[j].1 = key at x0 y0
                    generalize es[j].2 = val at x1 y1
                    clear HRA HRB hrM
                    go_wp2
                    go_roundw
                    case rel => exact ⟨j + 1, by omega, by go_num, (hI.out.ext (World.grownBy_alloc _ _ _)).ext (World.grownBy_alloc _ _ _)⟩
                    case measure => simp [intOf]; omega
                  · obtain rfl : j = es.length := by omega
                    go_wp2
                    go_roundw
                    case rel => exact ⟨k + 1, by omega, by go_num, hI⟩
                    case measure => simp [intOf]; omega
              · rw [show lineOf n k = 0 by unfold lineOf; rw [if_neg hkn]] at q2
                go_wp2_with fail
                go_quiet (fail)
                go_wp2_with fail
                go_quiet (fail)
                go_wp2_with fail
                go_loopw [195] (fun i wr => ∃ j : Nat, j ≤ es.length ∧ i = .int .i64 (j : Int) ∧ Hid (Inv w n g wr)) (fun i _ => es.length - (intOf i).toNat)
                case atStart => exact ⟨0, Nat.zero_le _, rfl, hI.out.ext ⟨rfl, rfl, rfl, Nat.le_refl _, fun _ _ _ => rfl⟩⟩
                case round =>
                  clear hI qS qN qM q0 q1 q2 q6
                  obtain ⟨j, hj, rfl, hI⟩ := hrel
                  by_cases hjl : j < es.length
                  · obtain ⟨gA, gB, rfl, rfl⟩ := hpA.out (by omega)
                    have HRA := hI.out.rows false k hks
                    have HRB := hI.out.rows true k (by show k < g.mM; rw [hF.out.q]; exact hlt)
                    rw [HA.out, hEA.out] at HRA
                    rw [HB.out, hEB.out] at HRB
                    obtain ⟨x0, x1, x2⟩ := ent_cell HRA hjl
                    obtain ⟨y0, y1, y2⟩ := ent_cell HRB hjl
                    have hrM := hI.out.rowM
                    rw [hF.out.q, HM.out] at hrM
                    have qM := own_cell hrM hlt
                    rw [HB.out] at qM
                    have hlM : gM < wr.heap.size := World.block_lt_of_cell? wr _ qM
                    have hlA : gA < wr.heap.size := World.block_lt_of_cell? wr _ x0
                    have hlB : gB < wr.heap.size := World.block_lt_of_cell? wr _ y0
                    generalize es[j].1 = key at x0 y0
                    generalize es[j].2 = val at x1 y1
                    clear HRA HRB hrM
                    go_wp2
                    go_roundw
                    case rel => exact ⟨j + 1, by omega, by go_num, (hI.out.ext (World.grownBy_alloc _ _ _)).ext (World.grownBy_alloc _ _ _)⟩
                    case measure => simp [intOf]; omega
                  · obtain rfl : j = es.length := by omega
                    go_wp2
                    go_roundw
                    case rel => exact ⟨k + 1, by omega, by go_num, hI⟩
                    case measure => simp [intOf]; omega
            · obtain rfl : m = k := by omega
              go_wp2
              go_ret
              exact ⟨rfl, hI.out.bel⟩
end Go.Proofs.Ybulkautg
