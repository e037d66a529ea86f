import Derived.Test.YbulkautgLaws
namespace Go.Proofs.Ybulkautg
open Go.RowKit

def tabl (m : Nat) (f : Nat → Value) : List Value := (List.range m).map f
def upd {α : Type} (f : Nat → α) (i : Nat) (v : α) : Nat → α := fun j => if j = i then v else f j
def updR {α : Type} (f : Bool → Nat → α) (p : Bool) (i : Nat) (v : α) : Bool → Nat → α := fun q j => if q = p ∧ j = i then v else f q j

theorem tabl_succ (m : Nat) (f : Nat → Value) : tabl (m + 1) f = tabl m f ++ [f m] := by simp [tabl, List.range_succ]
theorem tabl_congr {m : Nat} {f f' : Nat → Value} (h : ∀ i, i < m → f i = f' i) : tabl m f = tabl m f' := List.map_congr_left fun i hi => h i (List.mem_range.1 hi)
theorem tabl_length (m : Nat) (f : Nat → Value) : (tabl m f).length = m := by simp [tabl]
theorem tabl_get {m i : Nat} (f : Nat → Value) (h : i < m) : (tabl m f)[i]? = some (f i) := by simp [tabl, h]
theorem tabl_set {m i : Nat} (f : Nat → Value) (v : Value) : (tabl m f).set i v = tabl m (upd f i v) := by
  apply List.ext_getElem
  · simp [tabl]
  · intro j h1 h2
    simp only [tabl, List.getElem_set, List.getElem_map, List.getElem_range, upd]
    by_cases hij : i = j
    · rw [if_pos hij, if_pos hij.symm]
    · rw [if_neg hij, if_neg (fun e => hij e.symm)]
theorem upd_same {α : Type} (f : Nat → α) (i : Nat) (v : α) : upd f i v i = v := by simp [upd]
theorem upd_ne {α : Type} (f : Nat → α) {i j : Nat} (v : α) (h : j ≠ i) : upd f i v j = f j := by simp [upd, h]
theorem updR_same {α : Type} (f : Bool → Nat → α) (p : Bool) (i : Nat) (v : α) : updR f p i v p i = v := by simp [updR]
theorem updR_ne {α : Type} (f : Bool → Nat → α) {p q : Bool} {i j : Nat} (v : α) (h : ¬ (q = p ∧ j = i)) : updR f p i v q j = f q j := by simp [updR, h]

/-- The header of a name. -/
def hdr (nm : ByteArray) : ByteArray := (⟨#[91]⟩ : ByteArray) ++ nm ++ ⟨#[93]⟩
def nilS : Value := .slice none 0 0
def secArr (nm : ByteArray) (line : Int) (A : Value) : Array Value := #[.string nm, .string (hdr nm), .int .i64 line, .slice none 0 0, .slice none 0 0, .int .i64 0, A, .bool false]
def ecells (l : List (ByteArray × ByteArray)) : List Value := l.flatMap fun p => [.string p.1, .string p.2, .int .i64 0]
theorem ecells_snoc (l : List (ByteArray × ByteArray)) (p : ByteArray × ByteArray) : ecells (l ++ [p]) = ecells l ++ [.string p.1, .string p.2, .int .i64 0] := by simp [ecells]
def lineOf (n0 i : Nat) : Int := if i < n0 then (i : Int) + 1 else 0

structure Gh where
  mS : Nat
  mN : Nat
  mM : Nat
  S : Value
  N : Value
  M : Value
  sec : Nat → Nat
  names : Nat → ByteArray
  R : Bool → Nat → Value
  ents : Bool → Nat → List (ByteArray × ByteArray)
  op : Option (Nat × Array Value)

def Gh.cnt (g : Gh) (p : Bool) : Nat := if p then g.mM else g.mS

structure Inv (w0 : World) (n0 : Nat) (g : Gh) (w : World) : Prop where
  file : w.heap[w0.heap.size]? = some (.cells #[.string ⟨#[]⟩, .slice none 0 0, g.S] 28 (0, 0))
  rowS : w.ownsRow (w0.heap.size + 1) 31 1 g.S g.mS (tabl g.mS fun i => .pointer (some ⟨g.sec i, 0, none⟩))
  rowN : w.ownsRow (w0.heap.size + 1) 9 1 g.N g.mN (tabl g.mN fun i => .string (g.names i))
  rowM : w.ownsRow (w0.heap.size + 1) 32 1 g.M g.mM (tabl g.mM (g.R true))
  secs : ∀ i, i < g.mS → w.heap[g.sec i]? = some (.cells (secArr (g.names i) (lineOf n0 i) (g.R false i)) 34 (0, 0))
  secb : ∀ i, i < g.mS → w0.heap.size + 1 ≤ g.sec i
  secd : ∀ i j, i < g.mS → j < g.mS → i ≠ j → g.sec i ≠ g.sec j
  rows : ∀ p i, i < g.cnt p → w.ownsRow (w0.heap.size + 1) 39 3 (g.R p i) (g.ents p i).length (ecells (g.ents p i))
  rowd : ∀ p i q j, i < g.cnt p → j < g.cnt q → ¬ (q = p ∧ j = i) → (g.R p i).ownBlock = none ∨ (g.R p i).ownBlock ≠ (g.R q j).ownBlock
  bel : Below w0.heap.size w0 w
  ops : ∀ b cs, g.op = some (b, cs) → w.heap[b]? = some (.cells cs 36 (0, 0))

theorem own_tag {w : World} {base : Nat} {e : TypeId} {size n : Nat} {v : Value} {xs : List Value} (h : w.ownsRow base e size v n xs) {k : Nat} (hk : v.ownBlock = some k) : ∃ cur, w.heap[k]? = some (.cells cur e (0, 0)) := by
  rcases h.2 with ⟨rfl, _⟩ | ⟨g, cap, cur, rfl, _, hg, _⟩
  · simp [Value.ownBlock] at hk
  · simp [Value.ownBlock] at hk
    subst hk
    exact ⟨cur, hg⟩

/-- From one world to the next: nothing but blocks of type T has turned, and none below B. -/
structure Fr (B : Nat) (T : TypeId) (w w' : World) : Prop where
  bel : Below B w w'
  keep : ∀ (k : Nat) (cs : Array Value) (U : TypeId) (f : Nat × Nat), w.heap[k]? = some (Obj.cells cs U f) → U ≠ T → w'.heap[k]? = some (Obj.cells cs U f)

theorem lt_of_some {w : World} {k : Nat} {o : Obj} (h : w.heap[k]? = some o) : k < w.heap.size := (Array.getElem?_eq_some_iff.1 h).1

theorem Fr.grown {B : Nat} {T : TypeId} {w w' : World} {row : Option Nat} (hg : w.grownBy w' row) (hB : B ≤ w.heap.size) (hr : ∀ r, row = some r → B ≤ r ∧ ∃ cur, w.heap[r]? = some (.cells cur T (0, 0))) : Fr B T w w' := by
  refine ⟨(Below.refl _ _).grown hg hB (fun k e => (hr k e).1), fun k cs U f hk hU => ?_⟩
  rw [hg.block k (lt_of_some hk) ?_]
  · exact hk
  · intro e
    obtain ⟨_, cur, hc⟩ := hr k e.symm
    rw [hk] at hc
    simp only [Option.some.injEq, Obj.cells.injEq] at hc
    exact hU hc.2.1

theorem Fr.set {B : Nat} {T : TypeId} {w : World} {b : Nat} {cur : Array Value} {f : Nat × Nat} (h : w.heap[b]? = some (.cells cur T f)) (hB : B ≤ b) (o : Nat) (v : Value) : Fr B T w (w.setCell ⟨b, o, none⟩ v) := by
  refine ⟨(Below.refl _ _).setCell (p := ⟨b, o, none⟩) hB v, fun k cs U f' hk hU => ?_⟩
  rw [Below.heap_setCell w ⟨b, o, none⟩ v k ?_]
  · exact hk
  · rintro rfl
    rw [hk] at h
    simp only [Option.some.injEq, Obj.cells.injEq] at h
    exact hU h.2.1

theorem Fr.own {B : Nat} {T : TypeId} {w w' : World} (h : Fr B T w w') {base : Nat} {e : TypeId} {size n : Nat} {v : Value} {xs : List Value} (ho : w.ownsRow base e size v n xs) (he : e ≠ T) : w'.ownsRow base e size v n xs := by
  refine ⟨ho.1, ?_⟩
  rcases ho.2 with h2 | ⟨g, cap, cur, hv, hb, hg, r⟩
  · exact .inl h2
  · exact .inr ⟨g, cap, cur, hv, hb, h.keep g _ _ _ hg he, r⟩

theorem Inv.size {w0 : World} {n0 : Nat} {g : Gh} {w : World} (h : Inv w0 n0 g w) : w0.heap.size + 1 ≤ w.heap.size := lt_of_some h.file

/-- New blocks alone. -/
theorem Inv.ext {w0 : World} {n0 : Nat} {g : Gh} {w w' : World} (h : Inv w0 n0 g w) (hg : w.grownBy w' none) : Inv w0 n0 g w' := by
  have hk : ∀ k o, w.heap[k]? = some o → w'.heap[k]? = some o := fun k o e => (hg.block k (lt_of_some e) (by simp)).trans e
  have ho : ∀ {base : Nat} {e : TypeId} {size n : Nat} {v : Value} {xs : List Value}, w.ownsRow base e size v n xs → w'.ownsRow base e size v n xs := fun h => h.kept hg (by cases hv : Value.ownBlock _ <;> simp)
  exact ⟨hk _ _ h.file, ho h.rowS, ho h.rowN, ho h.rowM, fun i hi => hk _ _ (h.secs i hi), h.secb, h.secd, fun p i hi => ho (h.rows p i hi), h.rowd, h.bel.grown hg (by have := h.size; omega) (fun k e => by cases e), fun b cs e => hk _ _ (h.ops b cs e)⟩

theorem Inv.row_base {w0 : World} {n0 : Nat} {g : Gh} {w : World} (_h : Inv w0 n0 g w) {e : TypeId} {size n : Nat} {v : Value} {xs : List Value} (ho : w.ownsRow (w0.heap.size + 1) e size v n xs) : ∀ r, v.ownBlock = some r → w0.heap.size ≤ r ∧ ∃ cur, w.heap[r]? = some (.cells cur e (0, 0)) := fun r hr =>
  ⟨by have := (ho.lt r hr).1; omega, own_tag ho hr⟩

/-- A name more in the model's list. -/
theorem Inv.addN {w0 : World} {n0 : Nat} {g : Gh} {w w' : World} (h : Inv w0 n0 g w) {v' : Value} (ho : w'.ownsRow (w0.heap.size + 1) 9 1 v' (g.mN + 1) ((tabl g.mN fun i => .string (g.names i)) ++ [.string (g.names g.mN)])) (hg : w.grownBy w' g.N.ownBlock) :
    Inv w0 n0 { g with N := v', mN := g.mN + 1 } w' := by
  have F : Fr w0.heap.size 9 w w' := Fr.grown hg (by have := h.size; omega) (h.row_base h.rowN)
  refine ⟨F.keep _ _ _ _ h.file (by decide), F.own h.rowS (by decide), ?_, F.own h.rowM (by decide), fun i hi => F.keep _ _ _ _ (h.secs i hi) (by decide), h.secb, h.secd, fun p i hi => F.own (h.rows p i hi) (by decide), h.rowd, h.bel.trans F.bel, fun b cs e => F.keep _ _ _ _ (h.ops b cs e) (by decide)⟩
  show w'.ownsRow _ 9 1 v' (g.mN + 1) (tabl (g.mN + 1) fun i => .string (g.names i))
  rw [tabl_succ]
  exact ho

/-- A slice more in the model's list of slices: nil. -/
theorem Inv.addM {w0 : World} {n0 : Nat} {g : Gh} {w w' : World} (h : Inv w0 n0 g w) {v' : Value} (ho : w'.ownsRow (w0.heap.size + 1) 32 1 v' (g.mM + 1) (tabl g.mM (g.R true) ++ [.slice none 0 0])) (hg : w.grownBy w' g.M.ownBlock) :
    Inv w0 n0 { g with M := v', mM := g.mM + 1, R := updR g.R true g.mM (.slice none 0 0), ents := updR g.ents true g.mM [] } w' := by
  have F : Fr w0.heap.size 32 w w' := Fr.grown hg (by have := h.size; omega) (h.row_base h.rowM)
  have hf : ∀ i, updR g.R true g.mM (.slice none 0 0) false i = g.R false i := fun i => updR_ne _ _ (by simp)
  have hold : ∀ p i, i < g.cnt p → updR g.R true g.mM (.slice none 0 0) p i = g.R p i ∧ updR g.ents true g.mM [] p i = g.ents p i := fun p i hi => by
    have : ¬ (p = true ∧ i = g.mM) := by rintro ⟨rfl, rfl⟩; simp [Gh.cnt] at hi
    exact ⟨updR_ne _ _ this, updR_ne _ _ this⟩
  have hc : ∀ p i, i < Gh.cnt { g with M := v', mM := g.mM + 1, R := updR g.R true g.mM (.slice none 0 0), ents := updR g.ents true g.mM [] } p → i < g.cnt p ∨ (p = true ∧ i = g.mM) := fun p i hi => by
    cases p
    · exact .inl hi
    · simp [Gh.cnt] at hi ⊢; omega
  refine ⟨F.keep _ _ _ _ h.file (by decide), F.own h.rowS (by decide), F.own h.rowN (by decide), ?_, fun i hi => ?_, h.secb, h.secd, fun p i hi => ?_, fun p i q j hi hj hne => ?_, h.bel.trans F.bel, fun b cs e => F.keep _ _ _ _ (h.ops b cs e) (by decide)⟩
  · show w'.ownsRow _ 32 1 v' (g.mM + 1) (tabl (g.mM + 1) (updR g.R true g.mM (.slice none 0 0) true))
    rw [tabl_succ, updR_same, tabl_congr (f' := g.R true) (fun i hi => (hold true i (by simpa [Gh.cnt] using hi)).1)]
    exact ho
  · show w'.heap[g.sec i]? = some (.cells (secArr (g.names i) (lineOf n0 i) (updR g.R true g.mM (.slice none 0 0) false i)) 34 (0, 0))
    rw [hf]
    exact F.keep _ _ _ _ (h.secs i hi) (by decide)
  · show w'.ownsRow _ 39 3 (updR g.R true g.mM (.slice none 0 0) p i) (updR g.ents true g.mM [] p i).length (ecells (updR g.ents true g.mM [] p i))
    rcases hc p i hi with h1 | ⟨rfl, rfl⟩
    · rw [(hold p i h1).1, (hold p i h1).2]
      exact F.own (h.rows p i h1) (by decide)
    · rw [updR_same, updR_same]
      exact World.ownsRow_nil _ _ _ _
  · show (updR g.R true g.mM (.slice none 0 0) p i).ownBlock = none ∨ (updR g.R true g.mM (.slice none 0 0) p i).ownBlock ≠ (updR g.R true g.mM (.slice none 0 0) q j).ownBlock
    rcases hc p i hi with h1 | ⟨rfl, rfl⟩
    · rw [(hold p i h1).1]
      rcases hc q j hj with h2 | ⟨rfl, rfl⟩
      · rw [(hold q j h2).1]
        exact h.rowd p i q j h1 h2 hne
      · rw [updR_same]
        cases hx : (g.R p i).ownBlock with
        | none => exact .inl rfl
        | some k => exact .inr (by simp [Value.ownBlock])
    · rw [updR_same]
      exact .inl rfl

theorem Inv.setOp {w0 : World} {n0 : Nat} {g : Gh} {w : World} (h : Inv w0 n0 g w) {b : Nat} {cs : Array Value} (hb : w.heap[b]? = some (.cells cs 36 (0, 0))) : Inv w0 n0 { g with op := some (b, cs) } w := by
  refine ⟨h.file, h.rowS, h.rowN, h.rowM, h.secs, h.secb, h.secd, h.rows, h.rowd, h.bel, fun b' cs' e => ?_⟩
  simp only [Option.some.injEq, Prod.mk.injEq] at e
  obtain ⟨rfl, rfl⟩ := e
  exact hb
end Go.Proofs.Ybulkautg
