import Derived.Test.YbulkautgNew
import Derived.Test.YbulkautgName
import Derived.Deep.QuietTactic
import Derived.BigQuiet
namespace Go.Proofs.Ybulkautg
open Go.RowKit

def NamesAt (w : World) (ao : Option Addr) (n : Nat) (Z : Nat → Int) : Prop :=
  0 < n → ∃ b o, ao = some ⟨b, o, none⟩ ∧ ∀ i, i < n → w.cell? ⟨b, o + i, none⟩ = some (.int .u8 (Z i))
def OpsAt (w : World) (ao : Option Addr) (n : Nat) (Z : Nat → Int) (K V : Nat → ByteArray) : Prop :=
  0 < n → ∃ b o, ao = some ⟨b, o, none⟩ ∧ ∀ i, i < n → w.cell? ⟨b, o + i * 3, none⟩ = some (.int .u8 (Z i)) ∧ w.cell? ⟨b, o + i * 3 + 1, none⟩ = some (.string (K i)) ∧ w.cell? ⟨b, o + i * 3 + 2, none⟩ = some (.string (V i))

/-- The three lists are of one length, and the rows of both sides say the same. -/
structure Eqv (g : Gh) (m k : Nat) : Prop where
  s : g.mS = m
  n : g.mN = m
  q : g.mM = m
  e : ∀ i, i < m → g.ents false i = g.ents true i
  l : ∀ i, i < m → (g.ents false i).length ≤ k
  z : ∀ i, i < m → (g.names i).size ≤ 7

/-- A section more, of the name nm; the model's lists have not got it yet. -/
structure Mid (g g1 : Gh) (m k : Nat) (nm : ByteArray) : Prop where
  s : g1.mS = m + 1
  n : g1.mN = m
  q : g1.mM = m
  N : g1.N = g.N
  M : g1.M = g.M
  nam : g1.names m = nm
  old : ∀ i, i < m → g1.names i = g.names i
  e : ∀ i, i < m → g1.ents false i = g1.ents true i
  l : ∀ i, i < m → (g1.ents false i).length ≤ k
  z : ∀ i, i < m + 1 → (g1.names i).size ≤ 7

theorem str_cells (w : World) (s : ByteArray) : ∀ j u, [Value.string s][j]? = some u → (w.alloc (.cells #[.string s] 9)).cell? ((⟨w.heap.size, 0, none⟩ : Addr).add j) = some u := by
  intro j u hu
  rw [Addr.add_lit, cell_of_row _ w.heap.size (0 + j) _ 9 (0, 0) (heap_alloc_new w _)]
  simpa using hu
theorem str_one (s : ByteArray) : ∀ u ∈ [Value.string s], u.oneCell' = true := by
  intro u hu
  simp only [List.mem_cons, List.not_mem_nil, or_false] at hu
  subst hu
  rfl
theorem nil_cells (w : World) : ∀ j u, [Value.slice none 0 0][j]? = some u → (w.alloc (.cells #[.slice none 0 0] 32)).cell? ((⟨w.heap.size, 0, none⟩ : Addr).add j) = some u := by
  intro j u hu
  rw [Addr.add_lit, cell_of_row _ w.heap.size (0 + j) _ 32 (0, 0) (heap_alloc_new w _)]
  simpa using hu
theorem nil_one : ∀ u ∈ [Value.slice none 0 0], u.oneCell' = true := by
  intro u hu
  simp only [List.mem_cons, List.not_mem_nil, or_false] at hu
  subst hu
  rfl

theorem below_alloc {w W : World} {o : Obj} (h : Below w.heap.size w W) : Below w.heap.size w (W.alloc o) := h.alloc h.size o

theorem inv_start (w : World) (n0 : Nat) : Inv w n0 ⟨0, 0, 0, .slice none 0 0, .slice none 0 0, .slice none 0 0, fun _ => 0, fun _ => ⟨#[]⟩, fun _ _ => .slice none 0 0, fun _ _ => [], none⟩ (w.alloc (.cells #[.string ⟨#[]⟩, .slice none 0 0, .slice none 0 0] 28)) := by
  refine ⟨heap_alloc_new w _, World.ownsRow_nil _ _ _ _, World.ownsRow_nil _ _ _ _, World.ownsRow_nil _ _ _ _, fun i hi => absurd hi (Nat.not_lt_zero _), fun i hi => absurd hi (Nat.not_lt_zero _), fun i j hi => absurd hi (Nat.not_lt_zero _), fun p i hi => ?_, fun p i q j hi => ?_, below_alloc (Below.refl _ _), fun b cs e => by cases e⟩
  · cases p <;> exact absurd hi (Nat.not_lt_zero _)
  · cases p <;> exact absurd hi (Nat.not_lt_zero _)


theorem str_cells' (w : World) (s : Nat) (hs : s = w.heap.size) (x : ByteArray) : ∀ j u, [Value.string x][j]? = some u → (w.alloc (.cells #[.string x] 9)).cell? ((⟨s, 0, none⟩ : Addr).add j) = some u := by
  subst hs
  exact str_cells w x
theorem nil_cells' (w : World) (s : Nat) (hs : s = w.heap.size) : ∀ j u, [Value.slice none 0 0][j]? = some u → (w.alloc (.cells #[.slice none 0 0] 32)).cell? ((⟨s, 0, none⟩ : Addr).add j) = some u := by
  subst hs
  exact nil_cells w

theorem Eqv.mid {g : Gh} {m k s : Nat} {nm : ByteArray} {v : Value} (h : Eqv g m k) (hnm : nm.size ≤ 7) : Mid g (g.addS s nm v) m k nm := by
  obtain ⟨hs, hn, hm, he, hl, hz⟩ := h
  have e1 : ∀ i, i < m → updR g.ents false g.mS [] false i = g.ents false i := fun i hi => updR_ne _ _ (by rintro ⟨_, rfl⟩; omega)
  have e2 : ∀ i, updR g.ents false g.mS [] true i = g.ents true i := fun i => updR_ne _ _ (by rintro ⟨h, _⟩; cases h)
  refine ⟨by simp [Gh.addS, hs], hn, hm, rfl, rfl, ?_, fun i hi => ?_, fun i hi => ?_, fun i hi => ?_, fun i hi => ?_⟩
  · show upd g.names g.mS nm m = nm
    rw [hs]; exact upd_same _ _ _
  · show upd g.names g.mS nm i = g.names i
    exact upd_ne _ _ (by omega)
  · show updR g.ents false g.mS [] false i = updR g.ents false g.mS [] true i
    rw [e1 i hi, e2 i]; exact he i hi
  · show (updR g.ents false g.mS [] false i).length ≤ k
    rw [e1 i hi]; exact hl i hi
  · show (upd g.names g.mS nm i).size ≤ 7
    by_cases e : i = g.mS
    · subst e; rw [upd_same]; exact hnm
    · rw [upd_ne _ _ e]; exact hz i (by omega)

/-- The first two appends of the model. -/
def Gh.addNM (g : Gh) (vN vM : Value) : Gh := { g with N := vN, mN := g.mN + 1, M := vM, mM := g.mM + 1, R := updR g.R true g.mM (.slice none 0 0), ents := updR g.ents true g.mM [] }

theorem Inv.addN' {w0 : World} {n0 : Nat} {g g1 : Gh} {m k : Nat} {nm : ByteArray} {w w' : World} {o : Obj} (h : Inv w0 n0 g1 w) (hm : Mid g g1 m k nm) {v' : Value}
    (ho : w'.ownsRow (w0.heap.size + 1) 9 1 v' (m + 1) ((tabl m fun i => .string (g1.names i)) ++ [.string nm])) (hg : (w.alloc o).grownBy w' g.N.ownBlock) :
    Inv w0 n0 { g1 with N := v', mN := g1.mN + 1 } w' := by
  refine (h.ext (World.grownBy_alloc w o none)).addN ?_ ?_
  · rw [hm.n, hm.nam]; exact ho
  · rw [hm.N]; exact hg

theorem Inv.addNM {w0 : World} {n0 : Nat} {g g1 : Gh} {m k : Nat} {nm : ByteArray} {vN : Value} {w w' : World} {o : Obj} (h : Inv w0 n0 { g1 with N := vN, mN := g1.mN + 1 } w) (hm : Mid g g1 m k nm) {v' : Value}
    (ho : w'.ownsRow (w0.heap.size + 1) 32 1 v' (m + 1) (tabl m (g1.R true) ++ [.slice none 0 0])) (hg : (w.alloc o).grownBy w' g.M.ownBlock) :
    Inv w0 n0 (g1.addNM vN v') w' := by
  refine (h.ext (World.grownBy_alloc w o none)).addM (v' := v') ?_ ?_
  · show w'.ownsRow (w0.heap.size + 1) 32 1 v' (g1.mM + 1) (tabl g1.mM (g1.R true) ++ [.slice none 0 0])
    rw [hm.q]; exact ho
  · show (w.alloc o).grownBy w' g1.M.ownBlock
    rw [hm.M]; exact hg

theorem Mid.rowN {w0 : World} {n0 : Nat} {g g1 : Gh} {m k : Nat} {nm : ByteArray} {w : World} (h : Inv w0 n0 g1 w) (hm : Mid g g1 m k nm) : w.ownsRow (w0.heap.size + 1) 9 1 g.N m (tabl m fun i => .string (g1.names i)) := by
  have := h.rowN
  rw [hm.n, hm.N] at this
  exact this
theorem Mid.rowM {w0 : World} {n0 : Nat} {g g1 : Gh} {m k : Nat} {nm : ByteArray} {vN : Value} {w : World} (h : Inv w0 n0 { g1 with N := vN, mN := g1.mN + 1 } w) (hm : Mid g g1 m k nm) : w.ownsRow (w0.heap.size + 1) 32 1 g.M m (tabl m (g1.R true)) := by
  have : w.ownsRow (w0.heap.size + 1) 32 1 g1.M g1.mM (tabl g1.mM (g1.R true)) := h.rowM
  rw [hm.q, hm.M] at this
  exact this

/-- Loop 1: the new section is empty on both sides. -/
theorem Eqv.round1 {g : Gh} {m k s : Nat} {nm : ByteArray} {v vN vM : Value} (h : Eqv g m k) (hnm : nm.size ≤ 7) : Eqv ((g.addS s nm v).addNM vN vM) (m + 1) k := by
  have hM : Mid g (g.addS s nm v) m k nm := h.mid hnm
  have hmm : (g.addS s nm v).mM = m := hM.q
  have hold : ∀ i, i < m → ((g.addS s nm v).addNM vN vM).ents true i = (g.addS s nm v).ents true i := fun i hi => updR_ne _ _ (by rintro ⟨_, rfl⟩; omega)
  have hof : ∀ i, ((g.addS s nm v).addNM vN vM).ents false i = (g.addS s nm v).ents false i := fun i => updR_ne (g.addS s nm v).ents (p := true) (q := false) (i := (g.addS s nm v).mM) (j := i) [] (by rintro ⟨h, _⟩; cases h)
  have hnf : (g.addS s nm v).ents false m = [] := by
    show updR g.ents false g.mS [] false m = []
    rw [h.s]; exact updR_same _ _ _ _
  have hnt : ((g.addS s nm v).addNM vN vM).ents true m = [] := by
    show updR (g.addS s nm v).ents true (g.addS s nm v).mM [] true m = []
    rw [hmm]; exact updR_same _ _ _ _
  refine ⟨hM.s, ?_, ?_, fun i hi => ?_, fun i hi => ?_, hM.z⟩
  · show (g.addS s nm v).mN + 1 = m + 1
    rw [hM.n]
  · show (g.addS s nm v).mM + 1 = m + 1
    rw [hM.q]
  · by_cases e : i = m
    · subst e; rw [hof, hnf, hnt]
    · rw [hof, hold i (by omega)]; exact hM.e i (by omega)
  · by_cases e : i = m
    · subst e; rw [hof, hnf]; exact Nat.zero_le _
    · rw [hof]; exact hM.l i (by omega)
end Go.Proofs.Ybulkautg
