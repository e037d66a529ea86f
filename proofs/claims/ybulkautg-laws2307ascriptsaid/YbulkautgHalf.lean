import Derived.Test.YbulkautgHelp
namespace Go.Proofs.Ybulkautg
open Go.RowKit

theorem lastM_congr {a b : Nat → ByteArray} {nm : ByteArray} : ∀ {m : Nat}, (∀ i, i < m → a i = b i) → lastM a nm m = lastM b nm m
  | 0, _ => rfl
  | m + 1, h => by
    unfold lastM
    rw [h m (Nat.lt_succ_self m), lastM_congr (m := m) fun i hi => h i (by omega)]

theorem Inv.drew {w0 : World} {n0 : Nat} {g : Gh} {w : World} (h : Inv w0 n0 g w) : Inv w0 n0 g w.drew := h.ext ⟨rfl, rfl, rfl, Nat.le_refl _, fun _ _ _ => rfl⟩
theorem Inv.opCell {w0 : World} {n0 : Nat} {g : Gh} {w : World} (h : Inv w0 n0 g w) {b : Nat} {cs : Array Value} (ho : g.op = some (b, cs)) (o : Nat) : w.cell? ⟨b, o, none⟩ = cs[o]? := cell_of_row w b o _ 36 (0, 0) (h.ops b cs ho)

theorem Inv.setOp' {w0 : World} {n0 m k : Nat} {g : Gh} {w wa : World} {cs : Array Value} (h : Inv w0 n0 g w) (hE : Eqv g m k) (hW : wa = w.alloc (.cells cs 36)) :
    ∃ g0 : Gh, g0.N = g.N ∧ g0.M = g.M ∧ g0.op = some (w.heap.size, cs) ∧ Eqv g0 m k ∧ Inv w0 n0 g0 wa := by
  subst hW
  exact ⟨{ g with op := some (w.heap.size, cs) }, rfl, rfl, rfl, ⟨hE.s, hE.n, hE.q, hE.e, hE.l, hE.z⟩, (h.ext (World.grownBy_alloc _ _ _)).setOp (heap_alloc_new w _)⟩

/-- The section's row has the entry; the model's has not got it yet. -/
structure Half (g : Gh) (m k i : Nat) (key val : ByteArray) : Prop where
  s : g.mS = m
  n : g.mN = m
  q : g.mM = m
  t : g.ents false i = g.ents true i ++ [(key, val)]
  e : ∀ j, j < m → j ≠ i → g.ents false j = g.ents true j
  l : ∀ j, j < m → (g.ents false j).length ≤ k + 1
  z : ∀ i, i < m → (g.names i).size ≤ 7

theorem Half.fin {g : Gh} {m k i : Nat} {key val : ByteArray} {v : Value} (h : Half g m k i key val) : Eqv (g.setR true i v (g.ents true i ++ [(key, val)])) m (k + 1) := by
  have hf : ∀ j, (g.setR true i v (g.ents true i ++ [(key, val)])).ents false j = g.ents false j := fun j => updR_ne g.ents (p := true) (q := false) (i := i) (j := j) (g.ents true i ++ [(key, val)]) (by rintro ⟨h, _⟩; cases h)
  refine ⟨h.s, h.n, h.q, fun j hj => ?_, fun j hj => ?_, h.z⟩
  · rw [hf]
    by_cases e : j = i
    · subst e
      rw [h.t]
      exact (updR_same g.ents true j _).symm
    · rw [h.e j hj e]
      exact (updR_ne g.ents (p := true) (q := true) (i := i) (j := j) _ (by rintro ⟨_, h⟩; exact e h)).symm
  · rw [hf]
    exact h.l j hj

theorem Eqv.half {g : Gh} {m k i : Nat} {key val : ByteArray} {v : Value} (h : Eqv g m k) (hi : i < m) : Half (g.setR false i v (g.ents false i ++ [(key, val)])) m k i key val := by
  have ht : ∀ j, (g.setR false i v (g.ents false i ++ [(key, val)])).ents true j = g.ents true j := fun j => updR_ne g.ents (p := false) (q := true) (i := i) (j := j) (g.ents false i ++ [(key, val)]) (by rintro ⟨h, _⟩; cases h)
  have hs : (g.setR false i v (g.ents false i ++ [(key, val)])).ents false i = g.ents false i ++ [(key, val)] := updR_same g.ents false i _
  have ho : ∀ j, j ≠ i → (g.setR false i v (g.ents false i ++ [(key, val)])).ents false j = g.ents false j := fun j hj => updR_ne g.ents (p := false) (q := false) (i := i) (j := j) (g.ents false i ++ [(key, val)]) (by rintro ⟨_, h⟩; exact hj h)
  refine ⟨h.s, h.n, h.q, ?_, fun j hj hne => ?_, fun j hj => ?_, h.z⟩
  · rw [hs, ht, h.e i hi]
  · rw [ho j hne, ht, h.e j hj]
  · by_cases e : j = i
    · subst e
      rw [hs, List.length_append]
      have := h.l j hj
      simp only [List.length_cons, List.length_nil]
      omega
    · rw [ho j e]
      have := h.l j hj
      omega

theorem Eqv.old {w0 : World} {n0 : Nat} {w : World} {g : Gh} {m k i : Nat} {key val : ByteArray} {v : Value} (h : Eqv g m k) (hi : i < m) (hI : Inv w0 n0 (g.setR false i v (g.ents false i ++ [(key, val)])) w) :
    ∃ g1 : Gh, g1.N = g.N ∧ g1.M = g.M ∧ g1.op = g.op ∧ g1.names = g.names ∧ Half g1 m k i key val ∧ Inv w0 n0 g1 w := ⟨g.setR false i v (g.ents false i ++ [(key, val)]), rfl, rfl, rfl, rfl, h.half hi, hI⟩

/-- A new section: it has the entry. -/
theorem Eqv.new {w0 : World} {n0 : Nat} {w : World} {g : Gh} {m k s : Nat} {nm key val : ByteArray} {vS v : Value} (h : Eqv g m k) (hnm : nm.size ≤ 7) (hI : Inv w0 n0 ((g.addS s nm vS).setR false g.mS v [(key, val)]) w) :
    ∃ g1 : Gh, g1.op = g.op ∧ g1.ents false m = [(key, val)] ∧ Mid g g1 m k nm ∧ Inv w0 n0 g1 w := by
  refine ⟨(g.addS s nm vS).setR false g.mS v [(key, val)], rfl, ?_, ?_, hI⟩
  · rw [← h.s]
    exact updR_same (g.addS s nm vS).ents false g.mS [(key, val)]
  · have hM : Mid g (g.addS s nm vS) m k nm := h.mid hnm
    have hf : ∀ j, j < m → ((g.addS s nm vS).setR false g.mS v [(key, val)]).ents false j = (g.addS s nm vS).ents false j := fun j hj => updR_ne (g.addS s nm vS).ents (p := false) (q := false) (i := g.mS) (j := j) [(key, val)] (by rintro ⟨_, e⟩; rw [h.s] at e; omega)
    have ht : ∀ j, ((g.addS s nm vS).setR false g.mS v [(key, val)]).ents true j = (g.addS s nm vS).ents true j := fun j => updR_ne (g.addS s nm vS).ents (p := false) (q := true) (i := g.mS) (j := j) [(key, val)] (by rintro ⟨e, _⟩; cases e)
    refine ⟨hM.s, hM.n, hM.q, hM.N, hM.M, hM.nam, hM.old, fun j hj => ?_, fun j hj => ?_, hM.z⟩
    · rw [hf j hj, ht j]; exact hM.e j hj
    · rw [hf j hj]; exact hM.l j hj

theorem Mid.half {g g1 : Gh} {m k : Nat} {nm key val : ByteArray} {vN vM : Value} (h : Mid g g1 m k nm) (he : g1.ents false m = [(key, val)]) : Half (g1.addNM vN vM) (m + 1) k m key val := by
  have hold : ∀ i, i < m → (g1.addNM vN vM).ents true i = g1.ents true i := fun i hi => updR_ne g1.ents (p := true) (q := true) (i := g1.mM) (j := i) [] (by rintro ⟨_, e⟩; rw [h.q] at e; omega)
  have hof : ∀ i, (g1.addNM vN vM).ents false i = g1.ents false i := fun i => updR_ne g1.ents (p := true) (q := false) (i := g1.mM) (j := i) [] (by rintro ⟨h, _⟩; cases h)
  have hnt : (g1.addNM vN vM).ents true m = [] := by
    rw [← h.q]; exact updR_same g1.ents true g1.mM []
  refine ⟨h.s, ?_, ?_, ?_, fun j hj hne => ?_, fun j hj => ?_, h.z⟩
  · show g1.mN + 1 = m + 1
    rw [h.n]
  · show g1.mM + 1 = m + 1
    rw [h.q]
  · rw [hof, he, hnt]; rfl
  · rw [hof, hold j (by omega)]; exact h.e j (by omega)
  · rw [hof]
    by_cases e : j = m
    · subst e; rw [he]; simp
    · have := h.l j (by omega); omega

/-- What region 29 leaves behind. -/
theorem Inv.stepB {w0 : World} {n0 : Nat} {g : Gh} {W W' w' : World} {m k i gM cM x : Nat} {key val : ByteArray} {v' : Value} (h : Inv w0 n0 g W) (hH : Half g m k i key val) (hi : i < m) (hM : g.M = .slice (some ⟨gM, 0, none⟩) m cM) (hW : W.grownBy W' none)
    (ho : w'.ownsRow (w0.heap.size + 1) 39 3 v' ((g.ents true i).length + 1) (ecells (g.ents true i) ++ [.string key, .string val, .int .i64 0])) (hg : W'.grownBy w' (g.R true i).ownBlock) (hl : Loc W' (g.R true i) v' x) :
    ∃ gv cv, v' = .slice (some ⟨gv, 0, none⟩) x cv ∧ w'.cell? ⟨gM, i, none⟩ = some (g.R true i) ∧ w'.frozen? ⟨gM, i, none⟩ = false ∧ ∃ g2 : Gh, g2.N = g.N ∧ g2.M = g.M ∧ Eqv g2 m (k + 1) ∧ Inv w0 n0 g2 (w'.setCell ⟨gM, i, none⟩ v') := by
  have h' := h.ext hW
  have hi' : i < g.mM := by rw [hH.q]; exact hi
  have F : Fr w0.heap.size 39 W' w' := Fr.grown hg (by have := h'.size; omega) (h'.row_base (h'.rows true i hi'))
  have hrow := F.own h'.rowM (by decide)
  have hblk : g.M.ownBlock = some gM := by rw [hM]; rfl
  obtain ⟨cur, hcur⟩ := own_tag hrow hblk
  rw [hM, hH.q] at hrow
  have hc := own_cell hrow hi
  obtain ⟨gv, cv, e, _⟩ := id hl
  refine ⟨gv, cv, e, hc, ?_, g.setR true i v' (g.ents true i ++ [(key, val)]), rfl, rfl, hH.fin, h'.setB hi' (by rw [hM, hH.q]) (ents_grown ho) hg hl⟩
  simp [World.frozen?, hcur]

theorem Half.cellB {w0 : World} {n0 : Nat} {g : Gh} {W : World} {m k i gM cM : Nat} {key val : ByteArray} (h : Inv w0 n0 g W) (hH : Half g m k i key val) (hi : i < m) (hM : g.M = .slice (some ⟨gM, 0, none⟩) m cM) : W.cell? ⟨gM, i, none⟩ = some (g.R true i) := by
  have hrow := h.rowM
  rw [hM, hH.q] at hrow
  exact own_cell hrow hi
theorem Half.rowB {w0 : World} {n0 : Nat} {g : Gh} {W : World} {m k i : Nat} {key val : ByteArray} (h : Inv w0 n0 g W) (hH : Half g m k i key val) (hi : i < m) : W.ownsRow (w0.heap.size + 1) 39 3 (g.R true i) (g.ents true i).length (ecells (g.ents true i)) := h.rows true i (by show i < g.mM; rw [hH.q]; exact hi)
theorem Half.len {g : Gh} {m k i : Nat} {key val : ByteArray} (hH : Half g m k i key val) (hi : i < m) : (g.ents true i).length ≤ k := by
  have := hH.l i hi
  rw [hH.t, List.length_append] at this
  simpa using this
/-- The two lists' forms. -/
theorem Eqv.forms {w0 : World} {n0 : Nat} {g : Gh} {w : World} {m k : Nat} (h : Eqv g m k) (hI : Inv w0 n0 g w) : ∃ aN cN aM cM, g.N = .slice aN m cN ∧ g.M = .slice aM m cM ∧ m ≤ cN ∧ m ≤ cM ∧ (0 < m → ∃ gN gM, aN = some ⟨gN, 0, none⟩ ∧ aM = some ⟨gM, 0, none⟩) := by
  obtain ⟨aN, cN, hN, n1, n2, n3⟩ := own_form hI.rowN
  obtain ⟨aM, cM, hM, m1, m2, m3⟩ := own_form hI.rowM
  rw [h.n] at hN n1 n2
  rw [h.q] at hM m1 m2
  refine ⟨aN, cN, aM, cM, hN, hM, n1, m1, fun hp => ?_⟩
  rcases n3 with rfl | ⟨gN, rfl⟩
  · have := (n2 rfl).1; omega
  · rcases m3 with rfl | ⟨gM, rfl⟩
    · have := (m2 rfl).1; omega
    · exact ⟨gN, gM, rfl, rfl⟩

theorem ecells_get : ∀ (l : List (ByteArray × ByteArray)) (j : Nat) (hj : j < l.length), (ecells l)[j * 3]? = some (.string l[j].1) ∧ (ecells l)[j * 3 + 1]? = some (.string l[j].2) ∧ (ecells l)[j * 3 + 2]? = some (.int .i64 0)
  | [], j, hj => absurd hj (Nat.not_lt_zero _)
  | p :: l, 0, hj => ⟨rfl, rfl, rfl⟩
  | p :: l, j + 1, hj => by
    have h := ecells_get l j (by simpa using hj)
    have e : ecells (p :: l) = .string p.1 :: .string p.2 :: .int .i64 0 :: ecells l := rfl
    rw [e, show (j + 1) * 3 = j * 3 + 1 + 1 + 1 by omega]
    exact ⟨h.1, h.2.1, h.2.2⟩

theorem ent_cell {w : World} {base gA cA : Nat} {l : List (ByteArray × ByteArray)} (h : w.ownsRow base 39 3 (.slice (some ⟨gA, 0, none⟩) l.length cA) l.length (ecells l)) {j : Nat} (hj : j < l.length) :
    w.cell? ⟨gA, j * 3, none⟩ = some (.string l[j].1) ∧ w.cell? ⟨gA, j * 3 + 1, none⟩ = some (.string l[j].2) ∧ w.cell? ⟨gA, j * 3 + 2, none⟩ = some (.int .i64 0) := by
  have e := ecells_get l j hj
  exact ⟨(h.cellAt _ (by omega)).trans e.1, (h.cellAt _ (by omega)).trans e.2.1, (h.cellAt _ (by omega)).trans e.2.2⟩
end Go.Proofs.Ybulkautg
