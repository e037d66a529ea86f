import Derived.Test.YbulkautuNeed
import Derived.Test.YbulkautuFill
import Derived.Test.YbulkautuPtr
import Derived.Deep.Cut
namespace Go.Proofs.Ybulkautu
open Go.RowKit

theorem info29 : (Yba.prog.info? 29).map (fun i => (i.zero, i.size, i.bytes)) = some (some (.pointer none), 1, 8) := by kernel_rfl
theorem info35 : (Yba.prog.info? 35).map (fun i => (i.zero, i.size, i.bytes)) = some (some (.agg #[.pointer none, .int .u32 0]), 2, 16) := by kernel_rfl

def SharesAt (w : World) (ao : Option Addr) (n : Nat) (O Nn : Nat → Int) : Prop :=
  0 < n → ∃ b o, ao = some ⟨b, o, none⟩ ∧ ∀ i, i < n → w.cell? ⟨b, o + i * 2, none⟩ = some (.int .i64 (O i)) ∧ w.cell? ⟨b, o + i * 2 + 1, none⟩ = some (.int .u32 (Nn i))

theorem eql_nil23 (a : Option Addr) (n c : Nat) (w : World) : (binOp .eql 23 (.slice a n c) (.slice none 0 0)).run Yba.prog w = .ok (.bool a.isNone) w := Lib.run_eql_slice_nil w 23 28 a n c 0 0 Yba.underlying23

theorem prow_start {w w1 : World} {n : Nat} {xs : List Value} (h : w1.ownsRow w.heap.size 29 1 (.slice (some ⟨w.heap.size, 0, none⟩) n n) n xs) : PRow w1 w.heap.size n 0 (fun _ => 0) := by
  rcases h.2 with ⟨h, _⟩ | ⟨g, cap, cur, hv, hb, hg, _, _, hs, _⟩
  · cases h
  · simp only [Value.slice.injEq, Option.some.injEq, Addr.mk.injEq] at hv
    obtain ⟨⟨rfl, _⟩, _, rfl⟩ := hv
    exact ⟨cur, hg, by simpa using hs, fun p hp => absurd hp (Nat.not_lt_zero _)⟩
theorem hrow_start {w w1 : World} {n : Nat} {Nn : Nat → Int} {xs : List Value} (h : w1.ownsRow w.heap.size 35 2 (.slice (some ⟨w.heap.size, 0, none⟩) n n) n xs) : HRow w1 w.heap.size n 0 (fun _ => 0) id Nn := by
  rcases h.2 with ⟨h, _⟩ | ⟨g, cap, cur, hv, hb, hg, _, _, hs, _⟩
  · cases h
  · simp only [Value.slice.injEq, Option.some.injEq, Addr.mk.injEq] at hv
    obtain ⟨⟨rfl, _⟩, _, rfl⟩ := hv
    exact ⟨cur, hg, hs, fun p hp => absurd hp (Nat.not_lt_zero _)⟩

set_option maxRecDepth 100000 in
set_option maxHeartbeats 4000000 in
theorem law_walk (ao : Option Addr) (n nc : Nat) (O Nn : Nat → Int) (nd0 te en0 : Int) (same : Bool) (w : World) (hn : n ≤ 1024) (hsh : Hid (SharesAt w ao n O Nn)) (hnil : Hid (ao = none → n = 0)) :
    Calls Yba.prog 3 #[.int .u32 nd0, .slice ao n nc, .int .u64 te, .int .u64 en0, .bool same] w fun e w' => e = .returned (.bool true) ∧ Below w.heap.size w w' := by
  obtain ⟨p0, pi, pz0, pz1, pz2⟩ := info_parts info29
  obtain ⟨q0, qi, qz0, qz1, qz2⟩ := info_parts info35
  have hen := eql_nil23
  go_enter Yba.func3, Yba.ntmps3
  go_upto_if 25 with fail
  go_cut [3] from 22 (fun s wc => ∃ en : Int, s = .int .u64 en ∧ wc = w)
  case first =>
    cases same
    · go_wp2
      go_meet
      case rel => exact ⟨en0, rfl, rfl⟩
    · go_wp2
      go_meet
      case rel => exact ⟨te, rfl, rfl⟩
  case rest =>
    obtain ⟨en, rfl, hw⟩ := hcut
    obtain rfl := hw.symm
    go_upto_if 31 with (at_make; refine wpList_make_full _ rfl _ _ 25 rfl w.heap.size 29 p0 _ 1 Yba.underlying25 pi pz0 pz1 .i64 .i64 (n : Int) (n : Int) n rfl rfl rfl rfl (by rw [pz2]; omega) (by unfold maxLen; omega) (Nat.le_refl _) ?_; intro w1 hown hg1; have HP : Hid (PRow w1 w.heap.size n 0 (fun _ => 0)) := prow_start hown; have HG : Hid (w.grownBy w1 none) := hg1; clear hown hg1)
    go_cut [12] from 22 (fun s w2 => ∃ (aH : Option Addr) (cH bH : Nat), s = .slice aH n cH ∧ n ≤ cH ∧ Hid (0 < n → aH = some ⟨bH, 0, none⟩) ∧ Hid (St w w2 n 0 0 O Nn (fun _ => 0) id w.heap.size bH))
    case first =>
      have HB : Hid (Below w.heap.size w w1) := (Below.refl _ _).grown HG.out (Nat.le_refl _) (fun k e => by cases e)
      rcases ao with _ | ad
      · obtain rfl := hnil.out rfl
        go_wp2
        go_meet
        case rel => exact ⟨none, 0, 0, rfl, Nat.le_refl _, fun h => absurd h (Nat.lt_irrefl _), ⟨HP.out, fun h => absurd h (Nat.lt_irrefl _), fun i hi => absurd hi (Nat.not_lt_zero _), HB.out, Nat.le_refl _, fun h => absurd h (Nat.lt_irrefl _)⟩⟩
      · go_wp2_with (at_make; refine wpList_make_full _ rfl _ _ 26 rfl w1.heap.size 35 q0 _ 2 Yba.underlying26 qi qz0 qz1 .i64 .i64 (n : Int) (n : Int) n rfl rfl rfl rfl (by rw [qz2]; omega) (by unfold maxLen; omega) (Nat.le_refl _) ?_)
        intro w2 hown hg2
        have HS : Hid (St w w2 n 0 0 O Nn (fun _ => 0) id w.heap.size w1.heap.size) := ⟨HP.out.keep (Kp.grown hg2 0) (by decide), fun _ => hrow_start hown, fun i hi => absurd hi (Nat.not_lt_zero _), HB.out.grown hg2 HB.out.size (fun k e => by cases e), Nat.le_refl _, fun _ => HB.out.size⟩
        clear hown hg2
        go_wp2
        go_meet
        case rel => exact ⟨_, n, w1.heap.size, rfl, Nat.le_refl _, fun _ => rfl, HS⟩
    case rest =>
      obtain ⟨aH, cH, bH, rfl, hcH, haH, hSt⟩ := hcut
      clear HP HG hen
      go_wp2_with fail
      go_loopw [37] (fun i wr => ∃ (k : Nat) (sec : Nat → Nat), k ≤ n ∧ i = .int .i64 (k : Int) ∧ Hid (St w wr n k k O Nn sec id w.heap.size bH)) (fun i _ => n - (intOf i).toNat)
      case atStart => exact ⟨0, _, Nat.zero_le _, rfl, hSt⟩
      case round =>
        clear hSt
        obtain ⟨k, sec, hk, rfl, hSt⟩ := hrel
        by_cases hlt : k < n
        · obtain ⟨ob, oo, rfl, hcs⟩ := hsh.out (by omega)
          obtain rfl := haH.out (by omega)
          obtain ⟨c0, c1⟩ := hcs k hlt
          have hlb : ob < w.heap.size := World.block_lt_of_cell? w _ c0
          have d0 : wr.cell? ⟨ob, oo + k * 2, none⟩ = some (.int .i64 (O k)) := (hSt.out.bel.cell (p := ⟨ob, oo + k * 2, none⟩) hlb).trans c0
          have d1 : wr.cell? ⟨ob, oo + k * 2 + 1, none⟩ = some (.int .u32 (Nn k)) := (hSt.out.bel.cell (p := ⟨ob, oo + k * 2 + 1, none⟩) hlb).trans c1
          clear hcs c0 c1
          obtain ⟨⟨s0, t0⟩, f0⟩ := hSt.out.pr.there hlt
          obtain ⟨⟨s1, t1⟩, f1⟩ := (hSt.out.hr (by omega)).there (o := k * 2) (by omega)
          obtain ⟨⟨s2, t2⟩, f2⟩ := (hSt.out.hr (by omega)).there (o := k * 2 + 1) (by omega)
          have l0 : w.heap.size < wr.heap.size := World.block_lt_of_cell? wr _ t0
          have l1 : bH < wr.heap.size := World.block_lt_of_cell? wr _ t1
          have hne : bH ≠ w.heap.size := hSt.out.ne (by omega)
          have hne' : w.heap.size ≠ bH := fun e => hne e.symm
          go_wp2_with fail
          go_region
          all_goals go_wp2_with fail
          all_goals exact ⟨⟨k + 1, _, by omega, by go_num, hSt.out.round (q := 1) hlt rfl⟩, by simp [intOf]; omega⟩
        · obtain rfl : n = k := by omega
          have HT : Hid (TalAt (wr.alloc (.cells #[.int .u32 nd0, .slice aH n cH, .int .u64 te] 38)) wr.heap.size nd0 (.slice aH n cH) te) := heap_alloc_new wr _
          have HS : Hid (St w (wr.alloc (.cells #[.int .u32 nd0, .slice aH n cH, .int .u64 te] 38)) n n n O Nn sec id w.heap.size bH) := hSt.out.ext (World.grownBy_alloc _ _ _)
          have hlT : w.heap.size ≤ wr.heap.size := hSt.out.bel.size
          clear hSt
          go_wp2_with fail
          generalize wr.heap.size = bT at HT hlT
          generalize wr.alloc (.cells #[.int .u32 nd0, .slice aH n cH, .int .u64 te] 38) = wt at HT HS
          by_cases hte : te = en
          · subst hte
            refine (need_same wt HT).mono ?_
            rintro e w2 ⟨rfl, hg⟩
            have HT2 : Hid (TalAt w2 bT nd0 (.slice aH n cH) te) := HT.out.ext hg
            have HS2 : Hid (St w w2 n n n O Nn sec id w.heap.size bH) := HS.out.ext hg
            clear hg HT HS
            go_wp2_with fail
            refine (need_same w2 HT2).mono ?_
            rintro e w3 ⟨rfl, hg⟩
            have HT3 : Hid (TalAt w3 bT nd0 (.slice aH n cH) te) := HT2.out.ext hg
            have HS3 : Hid (St w w3 n n n O Nn sec id w.heap.size bH) := HS2.out.ext hg
            clear hg HT2 HS2
            have x0 := HT3.out.cells.1.1
            have x1 := HT3.out.cells.1.2.1
            have x2 := HT3.out.cells.1.2.2
            go_wp2_with fail
            go_loopw [107] (fun i wr => ∃ k : Nat, k ≤ n ∧ i = .int .i64 (k : Int) ∧ Hid (TalAt wr bT nd0 (.slice aH n cH) te) ∧ Hid (St w wr n n n O Nn sec id w.heap.size bH)) (fun i _ => n - (intOf i).toNat)
            case atStart => exact ⟨0, Nat.zero_le _, rfl, HT3, HS3⟩
            case round =>
              clear x0 x1 x2 HT3 HS3
              obtain ⟨k, hk, rfl, HT, HS⟩ := hrel
              by_cases hlt : k < n
              · obtain ⟨ob, oo, rfl, hcs⟩ := hsh.out (by omega)
                obtain rfl := haH.out (by omega)
                have c1 := (hcs k hlt).2
                have hlb : ob < w.heap.size := World.block_lt_of_cell? w _ c1
                have d1 : wr.cell? ⟨ob, oo + k * 2 + 1, none⟩ = some (.int .u32 (Nn k)) := (HS.out.bel.cell (p := ⟨ob, oo + k * 2 + 1, none⟩) hlb).trans c1
                have x1 := HT.out.cells.1.2.1
                obtain ⟨y0, y1⟩ := (HS.out.hr (by omega)).cell hlt
                simp only [id] at y0 y1
                have z0 := HS.out.pr.cell hlt
                have hnp := neq_ptr
                clear hcs c1
                go_wp2_with fail
                go_quiet (fail)
                go_wp2_with fail
                go_roundw
                case rel => exact ⟨k + 1, by omega, by go_num, HT.out.ext (grown_drew _ _), HS.out.ext (grown_drew _ _)⟩
                case measure => simp [intOf]; omega
              · obtain rfl : n = k := by omega
                go_wp2
                go_ret
                exact ⟨rfl, HS.out.bel⟩
          · have hne : (te == en) = false := by rw [beq_eq_false_iff_ne]; exact hte
            refine (need_walk wt aH cH en hn hcH haH hne HS HT hlT).mono ?_
            rintro e w2 hp
            obtain ⟨rfl, f, hf, hA⟩ := hp
            have HF : Hid (∀ q, q < n → 0 < O q → f (cnt O q) = q) := hf
            obtain ⟨sv, hsv⟩ : ∃ sv, sv = (if cnt O n = 0 then Value.slice none 0 0 else .slice aH (cnt O n) cH) := ⟨_, rfl⟩
            rw [← hsv] at hA
            have HV0 : Hid (cnt O n = 0 → sv = .slice none 0 0) := fun h => by rw [hsv, if_pos h]
            have HV1 : Hid (cnt O n ≠ 0 → sv = .slice aH (cnt O n) cH) := fun h => by rw [hsv, if_neg h]
            generalize wt.heap.size = bC at hA
            have HA : Hid (Al w w2 n (cnt O n) O Nn sec f w.heap.size bH bT bC (nd O Nn nd0 n) sv en) := hA
            clear hA hf hsv HT HS
            go_wp2_with fail
            refine (need_same w2 HA.out.tal).mono ?_
            rintro e w3 ⟨rfl, hg⟩
            have HA3 : Hid (Al w w3 n (cnt O n) O Nn sec f w.heap.size bH bT bC (nd O Nn nd0 n) sv en) := HA.out.ext hg
            clear hg HA
            go_wp2_with fail
            go_loopw [18, 19, 143] (fun x y i wr => ∃ j : Nat, j ≤ n ∧ x = .int .u32 (nd O Nn nd0 j) ∧ y = .int .i64 (cnt O j : Int) ∧ i = .int .i64 (j : Int) ∧ Hid (Al w wr n (cnt O n) O Nn sec f w.heap.size bH bT bC (nd O Nn nd0 n) sv en)) (fun _ _ i _ => n - (intOf i).toNat)
            case atStart => exact ⟨0, Nat.zero_le _, rfl, rfl, rfl, HA3⟩
            case round =>
              clear HA3
              obtain ⟨j, hj, rfl, rfl, rfl, HA⟩ := hrel
              by_cases hlt : j < n
              · obtain ⟨ob, oo, rfl, hcs⟩ := hsh.out (by omega)
                obtain rfl := haH.out (by omega)
                obtain ⟨c0, c1⟩ := hcs j hlt
                have hlb : ob < w.heap.size := World.block_lt_of_cell? w _ c0
                have d0 : wr.cell? ⟨ob, oo + j * 2, none⟩ = some (.int .i64 (O j)) := (HA.out.st.bel.cell (p := ⟨ob, oo + j * 2, none⟩) hlb).trans c0
                have d1 : wr.cell? ⟨ob, oo + j * 2 + 1, none⟩ = some (.int .u32 (Nn j)) := (HA.out.st.bel.cell (p := ⟨ob, oo + j * 2 + 1, none⟩) hlb).trans c1
                clear hcs c0 c1
                by_cases ho : 0 < O j
                · have hcl := cnt_lt O hlt ho
                  have e1 := HV1.out (by omega)
                  have x1 := HA.out.tal.cells.1.2.1
                  rw [e1] at x1
                  obtain ⟨y0, y1⟩ := (HA.out.st.hr (by omega)).cell hcl
                  rw [HF.out j hlt ho] at y0 y1
                  have z0 := HA.out.st.pr.cell hlt
                  have hl1 : bT < wr.heap.size := World.block_lt_of_cell? wr _ x1
                  have hl2 : bH < wr.heap.size := World.block_lt_of_cell? wr _ y0
                  have hl3 : w.heap.size < wr.heap.size := World.block_lt_of_cell? wr _ z0
                  have hnp := neq_ptr
                  have e2 : Hid (cnt O (j + 1) = cnt O j + 1) := cnt_pos ho
                  have e3 : Hid (nd O Nn nd0 (j + 1) = nd O Nn nd0 j) := nd_pos ho
                  have hle := cnt_le O j
                  generalize hcj : cnt O j = cj at hcl y0 y1 e2 hle
                  generalize hcn : cnt O n = cn at hcl x1
                  generalize hnj : nd O Nn nd0 j = nj at e3
                  have HCN : Hid (cnt O n = cn) := hcn
                  clear hcj hcn hnj e1
                  go_wp2_with fail
                  go_quiet (fail)
                  go_wp2_with fail
                  go_roundw
                  case rel => exact ⟨j + 1, by omega, by rw [e3.out], by rw [e2.out]; go_num, by go_num, by have h := (HA.out.ext (World.grownBy_alloc wr (.cells #[.int .i64 (O j), .int .u32 (Nn j)] 28) none)).ext (grown_drew _ nq); rw [HCN.out] at h; exact h⟩
                  case measure => simp [intOf]; omega
                · have e2 : Hid (cnt O (j + 1) = cnt O j) := cnt_neg ho
                  have e3 : Hid (nd O Nn nd0 (j + 1) = (nd O Nn nd0 j - Nn j) % 4294967296) := nd_neg ho
                  go_wp2_with fail
                  go_roundw
                  case rel => exact ⟨j + 1, by omega, by rw [e3.out], by rw [e2.out], by go_num, HA.out.ext (World.grownBy_alloc _ _ _)⟩
                  case measure => simp [intOf]; omega
              · obtain rfl : n = j := by omega
                have x0 := HA.out.tal.cells.1.1
                have x1 := HA.out.tal.cells.1.2.1
                have x2 := HA.out.tal.cells.1.2.2
                by_cases hz : cnt O n = 0
                · rw [HV0.out hz] at x1
                  rw [hz]
                  go_wp2
                  go_ret
                  exact ⟨rfl, HA.out.st.bel⟩
                · rw [HV1.out hz] at x1
                  have hz' : ((cnt O n : Int) == 0) = false := by rw [beq_eq_false_iff_ne]; omega
                  go_wp2
                  go_ret
                  exact ⟨rfl, HA.out.st.bel⟩
end Go.Proofs.Ybulkautu
