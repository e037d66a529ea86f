import Derived.Test.YbulkaurqScript
namespace Go.Proofs.Ybulkaurq
open Go.RowKit

/-- A slice of steps. -/
def StepsAt (w : World) (ao : Option Addr) (n : Nat) (S : Nat → Int) (F : Nat → Bool) : Prop :=
  0 < n → ∃ b o, ao = some ⟨b, o, none⟩ ∧ ∀ i, i < n → w.cell? ⟨b, o + i * 2, none⟩ = some (.int .u32 (S i)) ∧ w.cell? ⟨b, o + i * 2 + 1, none⟩ = some (.bool (F i))

theorem num_of (s : Int) (f : Bool) (h0 : 0 ≤ s ∧ s < 4294967296) : ∃ q : Nat, (if f then (s * 29) % 4294967296 else s) = (q : Int) ∧ q < 4294967296 := by
  cases f
  · exact ⟨s.toNat, by simp; omega, by omega⟩
  · exact ⟨((s * 29) % 4294967296).toNat, by simp; omega, by omega⟩

/-! The edges. -/
theorem edge0 (b c d e f : Int) (w : World) : (Instr.index 57 (.agg #[.int .u32 0, .int .u32 b, .int .u32 c, .int .u32 d, .int .u32 e, .int .u32 f]) (.int .i64 0)).run Yba.prog w = .ok (.int .u32 0) w := by kernel_rfl
theorem edge1 (b c d e f : Int) (w : World) : (Instr.index 57 (.agg #[.int .u32 0, .int .u32 b, .int .u32 c, .int .u32 d, .int .u32 e, .int .u32 f]) (.int .i64 1)).run Yba.prog w = .ok (.int .u32 b) w := by kernel_rfl
theorem edge2 (b c d e f : Int) (w : World) : (Instr.index 57 (.agg #[.int .u32 0, .int .u32 b, .int .u32 c, .int .u32 d, .int .u32 e, .int .u32 f]) (.int .i64 2)).run Yba.prog w = .ok (.int .u32 c) w := by kernel_rfl
theorem edge3 (b c d e f : Int) (w : World) : (Instr.index 57 (.agg #[.int .u32 0, .int .u32 b, .int .u32 c, .int .u32 d, .int .u32 e, .int .u32 f]) (.int .i64 3)).run Yba.prog w = .ok (.int .u32 d) w := by kernel_rfl
theorem edge4 (b c d e f : Int) (w : World) : (Instr.index 57 (.agg #[.int .u32 0, .int .u32 b, .int .u32 c, .int .u32 d, .int .u32 e, .int .u32 f]) (.int .i64 4)).run Yba.prog w = .ok (.int .u32 e) w := by kernel_rfl
theorem edge5 (b c d e f : Int) (w : World) : (Instr.index 57 (.agg #[.int .u32 0, .int .u32 b, .int .u32 c, .int .u32 d, .int .u32 e, .int .u32 f]) (.int .i64 5)).run Yba.prog w = .ok (.int .u32 f) w := by kernel_rfl
theorem index_edge (b c d e f j : Nat) (hj : j < 6) (w : World) : (Instr.index 57 (.agg #[.int .u32 0, .int .u32 (b : Int), .int .u32 (c : Int), .int .u32 (d : Int), .int .u32 (e : Int), .int .u32 (f : Int)]) (.int .i64 (j : Int))).run Yba.prog w =
    .ok (.int .u32 (([0, b, c, d, e, f].getD j 0 : Nat) : Int)) w := by
  have h : j = 0 ∨ j = 1 ∨ j = 2 ∨ j = 3 ∨ j = 4 ∨ j = 5 := by omega
  rcases h with rfl | rfl | rfl | rfl | rfl | rfl
  · exact edge0 b c d e f w
  · exact edge1 b c d e f w
  · exact edge2 b c d e f w
  · exact edge3 b c d e f w
  · exact edge4 b c d e f w
  · exact edge5 b c d e f w
theorem word_of (x : Int) : ∃ e : Nat, x % 4294967296 = (e : Int) ∧ e < 4294967296 := ⟨(x % 4294967296).toNat, by omega, by omega⟩
theorem edge_lt {a b c d e f : Nat} (ha : a < 4294967296) (hb : b < 4294967296) (hc : c < 4294967296) (hd : d < 4294967296) (he : e < 4294967296) (hf : f < 4294967296) (j : Nat) (hj : j < 6) : [a, b, c, d, e, f].getD j 0 < 4294967296 := by
  match j, hj with
  | 0, _ => exact ha
  | 1, _ => exact hb
  | 2, _ => exact hc
  | 3, _ => exact hd
  | 4, _ => exact he
  | 5, _ => exact hf

set_option maxHeartbeats 2000000 in
theorem law_walk (ao po : Option Addr) (n nc p pc : Nat) (S T : Nat → Int) (F G : Nat → Bool) (w : World) (hn : n ≤ 300) (hp : p ≤ 300) (hst : Hid (StepsAt w ao n S F)) (hpr : Hid (StepsAt w po p T G)) (hS : Hid (∀ i, 0 ≤ S i ∧ S i < 4294967296)) (hT : Hid (∀ i, 0 ≤ T i ∧ T i < 4294967296)) :
    Calls Yba.prog 5 #[.slice ao n nc, .slice po p pc] w fun e w' => e = .returned (.bool true) ∧ Below w.heap.size w w' := by
  obtain ⟨i0, hi, hz0, hz1, hz2⟩ := info_parts info45
  go_enter Yba.func5, Yba.ntmps5
  go_wp2_with (at_make; refine wpList_make_own _ rfl _ _ 49 rfl (w.heap.size + 1) 45 i0 (.int .u32 0) 1 Yba.underlying49 hi hz0 hz1 _ _ _ n rfl rfl (by omega) ?m1 ?m2 ?m3 ?_)
  case m1 => rw [hz2]; omega
  case m2 => unfold maxLen; omega
  case m3 => simp
  intro w1 hown hgrow
  have H1 : Hid (St w n 0 (fun _ => 0) [] w1) := by
    refine ⟨inv_start, ?_, by simpa [ucells] using hown, ?_⟩
    · unfold Win
      rw [hgrow.block w.heap.size (by simp) (by simp)]
      exact heap_alloc_new w _
    · exact ((Below.refl _ _).alloc (Nat.le_refl _) _).grown hgrow (by simp) (fun k e => by cases e)
  clear hown hgrow
  go_wp2
  go_loopw [6, 7, 32] (fun t v i wr => ∃ (k top : Nat) (bm : Nat → Nat) (seen : List Nat), k ≤ n ∧ i = .int .i64 (k : Int) ∧ t = .int .u32 (top : Int) ∧ v = .slice (some ⟨w.heap.size + 1, 0, none⟩) seen.length n ∧ seen.length ≤ k ∧ Hid (St w n top bm seen wr))
    (fun _ _ i _ => n - (intOf i).toNat)
  case atStart => exact ⟨0, 0, _, [], Nat.zero_le _, rfl, rfl, rfl, Nat.le_refl _, H1⟩
  case round =>
    obtain ⟨k, top, bm, seen, hk, rfl, rfl, rfl, hlen, hSt⟩ := hrel
    by_cases hlt : k < n
    · obtain ⟨sb, so, rfl, hcs⟩ := hst.out (by omega)
      have hlb : sb < w.heap.size := World.block_lt_of_cell? w _ (hcs k hlt).1
      have hc1 : wr.cell? ⟨sb, so + k * 2, none⟩ = some (.int .u32 (S k)) := (hSt.out.bel.cell (p := ⟨sb, so + k * 2, none⟩) hlb).trans (hcs k hlt).1
      have hc2 : wr.cell? ⟨sb, so + k * 2 + 1, none⟩ = some (.bool (F k)) := (hSt.out.bel.cell (p := ⟨sb, so + k * 2 + 1, none⟩) hlb).trans (hcs k hlt).2
      obtain ⟨q, hq, hq'⟩ := num_of (S k) (F k) (hS.out k)
      have HQ : Hid ((if F k then (S k * 29) % 4294967296 else S k) = (q : Int)) := hq
      clear hq hcs
      go_wp2_with fail
      refine (seq_nat _ _ q HQ.out _).mono ?_
      rintro e w2 ⟨rfl, hg⟩
      have H2 : Hid (St w n top bm seen w2) := (hSt.out.ext (World.grownBy_alloc _ _ _)).ext hg
      clear hg hc1 hc2 hSt
      go_wp2_with fail
      refine (H2.out.model (by omega) q hq').mono ?_
      rintro e w3 ⟨rfl, rfl⟩
      by_cases hm : modelP top seen q = true
      · go_wp2_with fail
        refine (H2.out.accept_yes q hq' hm).mono ?_
        rintro e w4 ⟨bm', rfl, hmid⟩
        have HM : Hid (Mid w n top bm' seen q w4) := hmid
        clear hmid H2
        go_wp2_with (at_builtin; refine wpList_append_fits _ rfl _ _ 49 rfl (w.heap.size + 1) 45 i0 1 Yba.underlying49 hi hz1 (w.heap.size + 1) seen.length n _ rfl (HM.out.own.alloc _) ⟨w4.heap.size, 0, none⟩ 1 1 [.int .u32 (q : Int)] rfl rfl ?c1 ?c2 (by omega) ?_)
        case c1 => exact cell_one_new _ _ _
        case c2 => intro u hu; simp at hu; subst hu; rfl
        intro w5 ho hg5
        have H5 : Hid (St w n (topP top q) bm' (seen ++ [q]) w5) := HM.out.done (World.grownBy_alloc _ _ _) ho hg5
        clear ho hg5 HM
        have HT : Hid (topP top q = if top < q then q else top) := rfl
        have HL : Hid ((seen ++ [q]).length = seen.length + 1) := by simp [Hid]
        by_cases hgt : (top : Int) < (q : Int)
        · have HT' : Hid (topP top q = q) := by unfold Hid topP; rw [if_pos (by omega)]
          go_wp2
          go_roundw
          case rel => exact ⟨k + 1, topP top q, bm', seen ++ [q], by omega, by go_num, by rw [HT'.out], by rw [HL.out], by rw [HL.out]; omega, H5⟩
          case measure => simp [intOf]; omega
        · have HT' : Hid (topP top q = top) := by unfold Hid topP; rw [if_neg (by omega)]
          go_wp2
          go_roundw
          case rel => exact ⟨k + 1, topP top q, bm', seen ++ [q], by omega, by go_num, by rw [HT'.out], by rw [HL.out], by rw [HL.out]; omega, H5⟩
          case measure => simp [intOf]; omega
      · have hm' : modelP top seen q = false := by simpa using hm
        clear hm
        go_wp2_with fail
        refine (H2.out.accept_no q hq' hm').mono ?_
        rintro e w4 ⟨rfl, rfl⟩
        go_wp2
        go_roundw
        case rel => exact ⟨k + 1, top, bm, seen, by omega, by go_num, rfl, rfl, by omega, H2⟩
        case measure => simp [intOf]; omega
    · have htop := hSt.out.win.top
      clear H1 hst hS
      go_wp2
      go_loopw [62] (fun i wx => ∃ j : Nat, j ≤ p ∧ i = .int .i64 (j : Int) ∧ Hid (St w n top bm seen wx)) (fun i _ => p - (intOf i).toNat)
      case atStart => exact ⟨0, Nat.zero_le _, rfl, hSt⟩
      case round =>
        obtain ⟨j, hj, rfl, hSx⟩ := hrel
        clear hSt htop
        by_cases hjl : j < p
        · obtain ⟨sb, so, rfl, hcs⟩ := hpr.out (by omega)
          have hlb : sb < w.heap.size := World.block_lt_of_cell? w _ (hcs j hjl).1
          have hc1 := (hSx.out.bel.cell (p := ⟨sb, so + j * 2, none⟩) hlb).trans (hcs j hjl).1
          have hc2 := (hSx.out.bel.cell (p := ⟨sb, so + j * 2 + 1, none⟩) hlb).trans (hcs j hjl).2
          obtain ⟨q, hq, hq'⟩ := num_of (T j) (G j) (hT.out j)
          have HQ : Hid ((if G j then (T j * 29) % 4294967296 else T j) = (q : Int)) := hq
          clear hq hcs
          go_wp2_with fail
          refine (seq_nat _ _ q HQ.out _).mono ?_
          rintro e w2 ⟨rfl, hg⟩
          have H2 : Hid (St w n top bm seen w2) := (hSx.out.ext (World.grownBy_alloc _ _ _)).ext hg
          clear hg hc1 hc2 hSx
          go_wp2_with fail
          refine (H2.out.probe (by omega) q hq').mono ?_
          rintro e w3 ⟨rfl, h3⟩
          have H3 : Hid (St w n top bm seen w3) := h3
          clear h3 H2
          go_wp2
          go_roundw
          case rel => exact ⟨j + 1, by omega, by go_num, H3⟩
          case measure => simp [intOf]; omega
        · clear hpr hT
          obtain ⟨e2, he2, le2⟩ := word_of ((top : Int) + 1)
          obtain ⟨e3, he3, le3⟩ := word_of ((top : Int) - 255)
          obtain ⟨e4, he4, le4⟩ := word_of ((top : Int) - 256)
          obtain ⟨e5, he5, le5⟩ := word_of ((top : Int) - 1)
          have hel := edge_lt (show 0 < 4294967296 by decide) hSx.out.inv.top_lt le2 le3 le4 le5
          have HE : Hid (∀ j, j < 6 → [0, top, e2, e3, e4, e5].getD j 0 < 4294967296) := hel
          clear hel
          go_wp2
          have H0 : Hid (St w n top bm seen (wr.alloc (.cells #[.int .u32 0, .int .u32 (top : Int), .int .u32 (e2 : Int), .int .u32 (e3 : Int), .int .u32 (e4 : Int), .int .u32 (e5 : Int)] 57))) := hSx.out.ext (World.grownBy_alloc _ _ _)
          clear he2 he3 he4 he5 le2 le3 le4 le5
          go_loopw [84] (fun i wx => ∃ j : Nat, j ≤ 6 ∧ i = .int .i64 (j : Int) ∧ Hid (St w n top bm seen wx)) (fun i _ => 6 - (intOf i).toNat)
          case atStart => exact ⟨0, Nat.zero_le _, rfl, H0⟩
          case round =>
            obtain ⟨j, hj, rfl, hSy⟩ := hrel
            clear H0 hSx
            by_cases hj6 : j < 6
            · have hix := index_edge top e2 e3 e4 e5 j hj6
              have hlq := HE.out j hj6
              generalize [0, top, e2, e3, e4, e5].getD j 0 = q at hix hlq
              go_wp2_with fail
              refine (hSy.out.probe (by omega) q hlq).mono ?_
              rintro e w3 ⟨rfl, h3⟩
              have H3 : Hid (St w n top bm seen w3) := h3
              clear h3 hSy hix
              go_wp2
              go_roundw
              case rel => exact ⟨j + 1, by omega, by go_num, H3⟩
              case measure => simp [intOf]; omega
            · clear HE
              go_wp2
              go_loopw [95] (fun i wx => ∃ j : Nat, j ≤ seen.length ∧ i = .int .i64 (j : Int) ∧ Hid (St w n top bm seen wx)) (fun i _ => seen.length - (intOf i).toNat)
              case atStart => exact ⟨0, Nat.zero_le _, rfl, hSy⟩
              case round =>
                obtain ⟨j, hj, rfl, hSz⟩ := hrel
                clear hSy
                by_cases hjs : j < seen.length
                · have hcell := hSz.out.cells j hjs
                  have hlq : seen[j] < 4294967296 := by
                    have h1 := hSz.out.inv.le _ (List.getElem_mem hjs)
                    have h2 := hSz.out.inv.top_lt
                    omega
                  generalize seen[j] = q at hcell hlq
                  go_wp2_with fail
                  refine (hSz.out.probe (by omega) q hlq).mono ?_
                  rintro e w3 ⟨rfl, h3⟩
                  have H3 : Hid (St w n top bm seen w3) := h3
                  clear h3 hSz hcell
                  go_wp2
                  go_roundw
                  case rel => exact ⟨j + 1, by omega, by go_num, H3⟩
                  case measure => simp [intOf]; omega
                · go_wp2
                  go_ret
                  exact ⟨rfl, hSz.out.bel⟩
end Go.Proofs.Ybulkaurq
