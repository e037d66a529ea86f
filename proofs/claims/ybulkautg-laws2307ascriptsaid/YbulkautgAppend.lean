import Derived.Test.YbulkautgProg
import Derived.Test.YbulkautgSteps
import Derived.WalkSpells
import Derived.WalkLawsBesides
import Derived.Lib.SliceRun
namespace Go.Proofs.Ybulkautg
open Go.RowKit

theorem info31 : (Yba.prog.info? 31).map (fun i => (i.zero, i.size, i.bytes)) = some (some (.pointer none), 1, 8) := by kernel_rfl
theorem info39 : (Yba.prog.info? 39).map (fun i => (i.zero, i.size, i.bytes)) = some (some (.agg #[.string ⟨#[]⟩, .string ⟨#[]⟩, .int .i64 0]), 3, 40) := by kernel_rfl
theorem info9 : (Yba.prog.info? 9).map (fun i => (i.zero, i.size, i.bytes)) = some (some (.string ⟨#[]⟩), 1, 16) := by kernel_rfl
theorem info32 : (Yba.prog.info? 32).map (fun i => (i.zero, i.size, i.bytes)) = some (some (.slice none 0 0), 1, 24) := by kernel_rfl

/-- The last of the first k names that is nm. -/
def lastM (names : Nat → ByteArray) (nm : ByteArray) : Nat → Option Nat
  | 0 => none
  | k + 1 => if ((names k).toList == nm.toList) = true then some k else lastM names nm k

theorem lastM_lt {names : Nat → ByteArray} {nm : ByteArray} : ∀ {k i : Nat}, lastM names nm k = some i → i < k
  | 0, i, h => by cases h
  | k + 1, i, h => by
    unfold lastM at h
    split at h
    · cases h; omega
    · have := lastM_lt h; omega

/-- The form of what is owned. -/
theorem own_form {w : World} {base : Nat} {e : TypeId} {size n : Nat} {v : Value} {xs : List Value} (h : w.ownsRow base e size v n xs) : ∃ ao cap, v = .slice ao n cap ∧ n ≤ cap ∧ (ao = none → n = 0 ∧ cap = 0) ∧ (ao = none ∨ ∃ g, ao = some ⟨g, 0, none⟩) := by
  rcases h.2 with ⟨rfl, rfl⟩ | ⟨g, cap, cur, rfl, _, _, hc, _⟩
  · exact ⟨none, 0, rfl, Nat.le_refl _, fun _ => ⟨rfl, rfl⟩, .inl rfl⟩
  · exact ⟨_, cap, rfl, hc, fun h => (by cases h), .inr ⟨g, rfl⟩⟩

def ptrOf (sec : Nat → Nat) : Option Nat → Value
  | none => .pointer none
  | some i => .pointer (some ⟨sec i, 0, none⟩)

theorem eql_nil32 (a : Option Addr) (n c : Nat) (w : World) : (binOp .eql 32 (.slice a n c) (.slice none 0 0)).run Yba.prog w = .ok (.bool a.isNone) w := Lib.run_eql_slice_nil w 32 39 a n c 0 0 Yba.underlying32

theorem Inv.fileCell {w0 : World} {n0 : Nat} {g : Gh} {w : World} (h : Inv w0 n0 g w) : w.cell? ⟨w0.heap.size, 2, none⟩ = some g.S ∧ w.frozen? ⟨w0.heap.size, 2, none⟩ = false := by
  refine ⟨?_, ?_⟩
  · rw [cell_of_row w w0.heap.size 2 _ 28 (0, 0) h.file]; rfl
  · simp [World.frozen?, h.file]
theorem Inv.secCell {w0 : World} {n0 : Nat} {g : Gh} {w : World} (h : Inv w0 n0 g w) {i : Nat} (hi : i < g.mS) (o : Nat) : w.cell? ⟨g.sec i, o, none⟩ = (secArr (g.names i) (lineOf n0 i) (g.R false i))[o]? ∧ w.frozen? ⟨g.sec i, o, none⟩ = false := by
  refine ⟨?_, ?_⟩
  · rw [cell_of_row w (g.sec i) o _ 34 (0, 0) (h.secs i hi)]
  · simp [World.frozen?, h.secs i hi]
theorem own_cell {w : World} {base : Nat} {e : TypeId} {n gs cap : Nat} {f : Nat → Value} (h : w.ownsRow base e 1 (.slice (some ⟨gs, 0, none⟩) n cap) n (tabl n f)) {k : Nat} (hk : k < n) : w.cell? ⟨gs, k, none⟩ = some (f k) := by
  rw [h.cellAt k (by omega), tabl_get f hk]

theorem setR_setR (g : Gh) (p : Bool) (i : Nat) (a b : Value) (x y : List (ByteArray × ByteArray)) : (g.setR p i a x).setR p i b y = g.setR p i b y := by
  unfold Gh.setR
  congr 1
  · funext q j
    simp only [updR]
    split <;> rfl
  · funext q j
    simp only [updR]
    split <;> rfl

/-- The entry that is appended. -/
theorem entry_cells (w : World) (key val : ByteArray) : ∀ j u, [Value.string key, .string val, .int .i64 0][j]? = some u → (w.alloc (.cells #[.string key, .string val, .int .i64 0] 39)).cell? ((⟨w.heap.size, 0, none⟩ : Addr).add j) = some u := by
  intro j u hu
  rw [Addr.add_lit, cell_of_row _ w.heap.size (0 + j) _ 39 (0, 0) (heap_alloc_new w _)]
  simpa using hu
theorem entry_cells' (w : World) (s : Nat) (hs : s = w.heap.size) (key val : ByteArray) : ∀ j u, [Value.string key, .string val, .int .i64 0][j]? = some u → (w.alloc (.cells #[.string key, .string val, .int .i64 0] 39)).cell? ((⟨s, 0, none⟩ : Addr).add j) = some u := by
  subst hs
  exact entry_cells w key val
theorem size_set (w : World) (a : Addr) (v : Value) : w.heap.size = (w.setCell a v).heap.size := by simp [World.setCell]
theorem entry_one (key val : ByteArray) : ∀ u ∈ [Value.string key, .string val, .int .i64 0], u.oneCell' = true := by
  intro u hu
  simp only [List.mem_cons, List.not_mem_nil, or_false] at hu
  rcases hu with rfl | rfl | rfl <;> rfl

theorem ents_grown {w : World} {base : Nat} {v : Value} {es : List (ByteArray × ByteArray)} {key val : ByteArray} (h : w.ownsRow base 39 3 v (es.length + 1) (ecells es ++ [.string key, .string val, .int .i64 0])) : w.ownsRow base 39 3 v (es ++ [(key, val)]).length (ecells (es ++ [(key, val)])) := by
  rw [ecells_snoc, List.length_append]
  exact h

/-- The holder's cell, once the row has turned. -/
theorem Inv.holdA {w0 : World} {n0 : Nat} {g : Gh} {w w1 : World} (h : Inv w0 n0 g w) {i : Nat} (hi : i < g.mS) {row : Option Nat} (hg : w.grownBy w1 row) (hr : ∀ r, row = some r → w0.heap.size ≤ r ∧ ∃ cur, w.heap[r]? = some (.cells cur 39 (0, 0))) :
    w1.cell? ⟨g.sec i, 6, none⟩ = some (g.R false i) ∧ w1.frozen? ⟨g.sec i, 6, none⟩ = false := by
  have F : Fr w0.heap.size 39 w w1 := Fr.grown hg (by have := h.size; omega) hr
  have hs := F.keep _ _ _ _ (h.secs i hi) (by decide)
  refine ⟨?_, ?_⟩
  · rw [cell_of_row w1 (g.sec i) 6 _ 34 (0, 0) hs]; rfl
  · simp [World.frozen?, hs]

set_option maxHeartbeats 1000000 in
/-- To an old section. -/
theorem append_old {w0 : World} {n0 : Nat} {g : Gh} (w : World) (h : Hid (Inv w0 n0 g w)) (nm key val : ByteArray) (i : Nat) (hl : Hid (lastM g.names nm g.mS = some i)) (hm : g.mS ≤ 1000) (he : (g.ents false i).length ≤ 1000) :
    Calls Yba.prog 5 #[.pointer (some ⟨w0.heap.size, 0, none⟩), .string nm, .string key, .string val] w fun e w' => e = .returned (.tuple #[]) ∧ ∃ v', Inv w0 n0 (g.setR false i v' (g.ents false i ++ [(key, val)])) w' := by
  obtain ⟨i0, hi, hz0, hz1, hz2⟩ := info_parts info39
  have hen := eql_nil32
  obtain ⟨ao, cap, hS, hnc, _, hao⟩ := own_form h.out.rowS
  have HI : i < g.mS := lastM_lt hl.out
  obtain ⟨gs, rfl⟩ : ∃ gs, ao = some ⟨gs, 0, none⟩ := by
    rcases hao with rfl | h1
    · rename_i hx; have := hx rfl; omega
    · exact h1
  have hfile := h.out.fileCell.1
  rw [hS] at hfile
  have HR : Hid (w.ownsRow (w0.heap.size + 1) 31 1 (.slice (some ⟨gs, 0, none⟩) g.mS cap) g.mS (tabl g.mS fun i => .pointer (some ⟨g.sec i, 0, none⟩))) := by
    unfold Hid
    rw [← hS]
    exact h.out.rowS
  clear hao hS
  go_enter Yba.func5, Yba.ntmps5
  go_wp2
  go_loop [8, 16] (fun s x => ∃ k : Nat, k ≤ g.mS ∧ x = .int .i64 (k : Int) ∧ s = ptrOf g.sec (lastM g.names nm k)) (fun _ x => g.mS - (intOf x).toNat)
  case atStart => exact ⟨0, Nat.zero_le _, rfl, rfl⟩
  case round =>
    obtain ⟨k, hk, rfl, rfl⟩ := hrel
    by_cases hlt : k < g.mS
    · have hc1 := own_cell HR.out hlt
      have hc2 := (h.out.secCell hlt 0).1
      have hc2' : w.cell? ⟨g.sec k, 0, none⟩ = some (.string (g.names k)) := hc2
      clear hc2
      by_cases heq : ((g.names k).toList == nm.toList) = true
      · have HX : Hid (ptrOf g.sec (lastM g.names nm (k + 1)) = .pointer (some ⟨g.sec k, 0, none⟩)) := by unfold Hid lastM; rw [if_pos heq]; rfl
        go_wp2
        go_round
        case rel => exact ⟨k + 1, by omega, by go_num, HX.out.symm⟩
        case measure => simp [intOf]; omega
      · have heq' : ((g.names k).toList == nm.toList) = false := by simpa using heq
        have HX : Hid (ptrOf g.sec (lastM g.names nm (k + 1)) = ptrOf g.sec (lastM g.names nm k)) := by unfold Hid; conv => lhs; unfold lastM; rw [if_neg heq]
        clear heq
        go_wp2
        go_round
        case rel => exact ⟨k + 1, by omega, by go_num, HX.out.symm⟩
        case measure => simp [intOf]; omega
    · obtain rfl : k = g.mS := by omega
      rw [hl.out, show ptrOf g.sec (some i) = .pointer (some ⟨g.sec i, 0, none⟩) from rfl]
      clear HR hfile
      have hs6 : w.cell? ⟨g.sec i, 6, none⟩ = some (g.R false i) := (h.out.secCell HI 6).1
      have hf6 := (h.out.secCell HI 6).2
      obtain ⟨ar, cr, hR, hnr, hnn, har⟩ := own_form (h.out.rows false i HI)
      rw [hR] at hs6
      rcases har with rfl | ⟨gr, rfl⟩
      · obtain ⟨h0, rfl⟩ := hnn rfl
        rw [h0] at hs6
        have HRR0 : Hid (g.R false i = .slice none 0 0) := by unfold Hid; rw [hR, h0]
        have HE0 : Hid (g.ents false i = []) := List.eq_nil_of_length_eq_zero h0
        clear hR hnr
        go_wp2_with (at_make; refine wpList_make_own _ rfl _ _ 32 rfl w.heap.size 39 i0 _ 3 Yba.underlying32 hi hz0 hz1 _ _ _ 16 rfl rfl rfl (by rw [hz2]; decide) (by decide) (Nat.le_refl _) ?_)
        intro w1 hown hgrow
        have hh1 := h.out.holdA (i := i) HI hgrow (fun r e => by cases e)
        have x1 := hh1.1
        rw [HRR0.out] at x1
        have y1 := hh1.2
        have HM : Hid (Inv w0 n0 (g.setR false i (.slice (some ⟨w.heap.size, 0, none⟩) 0 16) []) (w1.setCell ⟨g.sec i, 6, none⟩ (.slice (some ⟨w.heap.size, 0, none⟩) 0 16))) :=
          h.out.setA HI (n := 0) (es := []) (own_mono hown (by have := h.out.size; omega)) (grown_none hgrow _) ⟨_, _, rfl, .inr (Nat.le_refl _)⟩
        clear hown hgrow hh1 hs6 hf6
        have hgR : (g.setR false i (.slice (some ⟨w.heap.size, 0, none⟩) 0 16) []).R false i = .slice (some ⟨w.heap.size, 0, none⟩) 0 16 := updR_same _ _ _ _
        have hgE : (g.setR false i (.slice (some ⟨w.heap.size, 0, none⟩) 0 16) []).ents false i = [] := updR_same _ _ _ _
        have HO : Hid ((w1.setCell ⟨g.sec i, 6, none⟩ (.slice (some ⟨w.heap.size, 0, none⟩) 0 16)).ownsRow (w0.heap.size + 1) 39 3 (.slice (some ⟨w.heap.size, 0, none⟩) 0 16) 0 []) := by
          unfold Hid
          have := HM.out.rows false i HI
          rw [hgR, hgE] at this
          exact this
        have HgR : Hid ((g.setR false i (.slice (some ⟨w.heap.size, 0, none⟩) 0 16) []).R false i = .slice (some ⟨w.heap.size, 0, none⟩) 0 16) := hgR
        clear hgR hgE
        go_wp2_with (at_builtin; refine wpList_append_loc _ rfl _ _ 32 rfl (w0.heap.size + 1) 39 i0 _ 3 40 Yba.underlying32 hi hz0 hz1 hz2 rfl (by decide) _ _ _ rfl (HO.out.alloc _) ⟨w1.heap.size, 0, none⟩ 1 1 [.string key, .string val, .int .i64 0] (by decide) rfl rfl (entry_cells' _ _ (size_set _ _ _) key val) (entry_one key val) (by decide) (by decide) (by have := HM.out.size; simp only [World.size_alloc]; omega) ?_)
        intro v' w2 ho hg hloc
        have HE : Hid (Inv w0 n0 (g.setR false i (.slice (some ⟨w.heap.size, 0, none⟩) 0 16) []) ((w1.setCell ⟨g.sec i, 6, none⟩ (.slice (some ⟨w.heap.size, 0, none⟩) 0 16)).alloc (.cells #[.string key, .string val, .int .i64 0] 39))) := HM.out.ext (World.grownBy_alloc _ _ _)
        have hgg : ((w1.setCell ⟨g.sec i, 6, none⟩ (.slice (some ⟨w.heap.size, 0, none⟩) 0 16)).alloc (.cells #[.string key, .string val, .int .i64 0] 39)).grownBy w2 ((g.setR false i (.slice (some ⟨w.heap.size, 0, none⟩) 0 16) []).R false i).ownBlock := by
          rw [HgR.out]
          exact hg
        have hll : Loc ((w1.setCell ⟨g.sec i, 6, none⟩ (.slice (some ⟨w.heap.size, 0, none⟩) 0 16)).alloc (.cells #[.string key, .string val, .int .i64 0] 39)) ((g.setR false i (.slice (some ⟨w.heap.size, 0, none⟩) 0 16) []).R false i) v' 1 := by
          rw [HgR.out]
          exact hloc
        have hh := HE.out.holdA (i := i) HI hgg (HE.out.row_base (HE.out.rows false i HI))
        have x6 : w2.cell? ⟨g.sec i, 6, none⟩ = some (.slice (some ⟨w.heap.size, 0, none⟩) 0 16) := hh.1.trans (by rw [HgR.out])
        have y6 : w2.frozen? ⟨g.sec i, 6, none⟩ = false := hh.2
        have HF := HE.out.setA (i := i) HI (es := [(key, val)]) (by simpa [ecells] using ho) hgg hll
        rw [setR_setR] at HF
        have HF' : Hid (Inv w0 n0 (g.setR false i v' (g.ents false i ++ [(key, val)])) (w2.setCell ⟨g.sec i, 6, none⟩ v')) := by
          unfold Hid
          rw [HE0.out]
          exact HF
        obtain ⟨gv, cv, rfl, _⟩ := hloc
        clear ho hg hgg hll hh HO HF HE HM x1 y1
        go_wp2
        go_end0
        exact ⟨rfl, _, HF'.out⟩
      · have HO : Hid (w.ownsRow (w0.heap.size + 1) 39 3 (.slice (some ⟨gr, 0, none⟩) (g.ents false i).length cr) (g.ents false i).length (ecells (g.ents false i))) := by
          unfold Hid
          rw [← hR]
          exact h.out.rows false i HI
        have HRR : Hid (g.R false i = .slice (some ⟨gr, 0, none⟩) (g.ents false i).length cr) := hR
        clear hR hnn
        go_wp2_with (at_builtin; refine wpList_append_loc _ rfl _ _ 32 rfl (w0.heap.size + 1) 39 i0 _ 3 40 Yba.underlying32 hi hz0 hz1 hz2 rfl (by decide) _ _ _ rfl (HO.out.alloc _) ⟨w.heap.size, 0, none⟩ 1 1 [.string key, .string val, .int .i64 0] (by decide) rfl rfl (entry_cells w key val) (entry_one key val) (by unfold maxLen; omega) (by omega) (by have := h.out.size; simp; omega) ?_)
        intro v' w2 ho hg hloc
        rw [← HRR.out] at hg hloc
        have HE : Hid (Inv w0 n0 g (w.alloc (.cells #[.string key, .string val, .int .i64 0] 39))) := h.out.ext (World.grownBy_alloc _ _ _)
        have hh := HE.out.holdA (i := i) HI hg (HE.out.row_base (HE.out.rows false i HI))
        have x6 := hh.1
        have y6 := hh.2
        have HF : Hid (Inv w0 n0 (g.setR false i v' (g.ents false i ++ [(key, val)])) (w2.setCell ⟨g.sec i, 6, none⟩ v')) := HE.out.setA HI (ents_grown ho) hg hloc
        obtain ⟨gv, cv, rfl, _⟩ := hloc
        clear ho hg hh HO
        go_wp2
        go_end0
        exact ⟨rfl, _, HF.out⟩
end Go.Proofs.Ybulkautg
