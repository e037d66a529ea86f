import Derived.WalkKit
import Derived.Laws.IdiomCopy
import Derived.Deep.Draws
namespace Go.Proofs.Ybulkautu
open Go.RowKit

/-- How many of the first j shares are kept. -/
def cnt (O : Nat → Int) : Nat → Nat
  | 0 => 0
  | j + 1 => if 0 < O j then cnt O j + 1 else cnt O j
/-- What is still needed behind the first j shares. -/
def nd (O Nn : Nat → Int) (z : Int) : Nat → Int
  | 0 => z
  | j + 1 => if 0 < O j then nd O Nn z j else (nd O Nn z j - Nn j) % 4294967296

theorem cnt_pos {O : Nat → Int} {j : Nat} (h : 0 < O j) : cnt O (j + 1) = cnt O j + 1 := if_pos h
theorem cnt_neg {O : Nat → Int} {j : Nat} (h : ¬ 0 < O j) : cnt O (j + 1) = cnt O j := if_neg h
theorem nd_pos {O Nn : Nat → Int} {z : Int} {j : Nat} (h : 0 < O j) : nd O Nn z (j + 1) = nd O Nn z j := if_pos h
theorem nd_neg {O Nn : Nat → Int} {z : Int} {j : Nat} (h : ¬ 0 < O j) : nd O Nn z (j + 1) = (nd O Nn z j - Nn j) % 4294967296 := if_neg h
theorem cnt_le (O : Nat → Int) : ∀ j, cnt O j ≤ j
  | 0 => Nat.le_refl _
  | j + 1 => by
    have := cnt_le O j
    unfold cnt
    split <;> omega
theorem cnt_mono (O : Nat → Int) {a : Nat} : ∀ {b : Nat}, a ≤ b → cnt O a ≤ cnt O b
  | 0, h => by rw [Nat.le_zero.1 h]; exact Nat.le_refl _
  | b + 1, h => by
    by_cases e : a = b + 1
    · rw [e]; exact Nat.le_refl _
    · have := cnt_mono O (a := a) (b := b) (by omega)
      have h2 : cnt O b ≤ cnt O (b + 1) := by conv => rhs; unfold cnt
                                              split <;> omega
      omega
theorem cnt_lt (O : Nat → Int) {a b : Nat} (h : a < b) (ha : 0 < O a) : cnt O a < cnt O b := by
  have := cnt_mono O (a := a + 1) (b := b) h
  rw [cnt_pos ha] at this
  omega
/-- All kept so far. -/
theorem cnt_all {O : Nat → Int} : ∀ {j : Nat}, (∀ q, q < j → 0 < O q) → cnt O j = j
  | 0, _ => rfl
  | j + 1, h => by rw [cnt_pos (h j (by omega)), cnt_all fun q hq => h q (by omega)]
theorem nd_all {O Nn : Nat → Int} {z : Int} : ∀ {j : Nat}, (∀ q, q < j → 0 < O q) → nd O Nn z j = z
  | 0, _ => rfl
  | j + 1, h => by rw [nd_pos (h j (by omega)), nd_all fun q hq => h q (by omega)]

def upd {α : Type} (f : Nat → α) (i : Nat) (v : α) : Nat → α := fun j => if j = i then v else f j
theorem upd_same {α : Type} (f : Nat → α) (i : Nat) (v : α) : upd f i v i = v := by simp [upd]
theorem upd_ne {α : Type} (f : Nat → α) {i j : Nat} (v : α) (h : j ≠ i) : upd f i v j = f j := by simp [upd, h]

def PRow (w : World) (b n k : Nat) (sec : Nat → Nat) : Prop :=
  ∃ cur : Array Value, w.heap[b]? = some (.cells cur 29 (0, 0)) ∧ cur.size = n ∧ ∀ p, p < k → cur[p]? = some (.pointer (some ⟨sec p, 0, none⟩))
def HRow (w : World) (b n k : Nat) (sec f : Nat → Nat) (Nn : Nat → Int) : Prop :=
  ∃ cur : Array Value, w.heap[b]? = some (.cells cur 35 (0, 0)) ∧ cur.size = n * 2 ∧ ∀ p, p < k → cur[p * 2]? = some (.pointer (some ⟨sec (f p), 0, none⟩)) ∧ cur[p * 2 + 1]? = some (.int .u32 (Nn (f p)))
def SnapAt (w : World) (s : Nat) (o : Int) : Prop := ∃ cur : Array Value, w.heap[s]? = some (.cells cur 33 (0, 0)) ∧ cur[2]? = some (.int .i64 o)
def TalAt (w : World) (b : Nat) (z : Int) (sv : Value) (en : Int) : Prop := w.heap[b]? = some (.cells #[.int .u32 z, sv, .int .u64 en] 38 (0, 0))
def BoxAt (w : World) (b bT : Nat) : Prop := w.heap[b]? = some (.cells #[.pointer (some ⟨bT, 0, none⟩)] 36 (0, 0))

/-- Nothing but blocks of type T has turned. -/
def Kp (T : TypeId) (w w' : World) : Prop := ∀ (k : Nat) (cs : Array Value) (U : TypeId) (f : Nat × Nat), w.heap[k]? = some (Obj.cells cs U f) → U ≠ T → w'.heap[k]? = some (Obj.cells cs U f)
theorem lt_of_some {w : World} {k : Nat} {o : Obj} (h : w.heap[k]? = some o) : k < w.heap.size := (Array.getElem?_eq_some_iff.1 h).1
theorem Kp.set {T : TypeId} {w : World} {b : Nat} {cur : Array Value} {f : Nat × Nat} (h : w.heap[b]? = some (.cells cur T f)) (o : Nat) (v : Value) : Kp T w (w.setCell ⟨b, o, none⟩ v) := by
  intro k cs U f' hk hU
  rw [Below.heap_setCell w ⟨b, o, none⟩ v k ?_]
  · exact hk
  · rintro rfl
    rw [hk] at h
    simp only [Option.some.injEq, Obj.cells.injEq] at h
    exact hU h.2.1
theorem Kp.trans {T : TypeId} {a b c : World} (h : Kp T a b) (h' : Kp T b c) : Kp T a c := fun k cs U f e hU => h' k cs U f (h k cs U f e hU) hU
theorem Kp.grown {w w' : World} (h : w.grownBy w' none) (T : TypeId) : Kp T w w' := fun k cs U f e _ => (h.block k (lt_of_some e) (by simp)).trans e
theorem grown_keep {w w' : World} (h : w.grownBy w' none) {k : Nat} {o : Obj} (e : w.heap[k]? = some o) : w'.heap[k]? = some o := (h.block k (lt_of_some e) (by simp)).trans e
theorem grown_drew (w : World) (q : Nat) : w.grownBy (w.drewN q) none := ⟨rfl, rfl, rfl, Nat.le_refl _, fun _ _ _ => rfl⟩
theorem grown_trans {a b c : World} (h : a.grownBy b none) (h' : b.grownBy c none) : a.grownBy c none :=
  ⟨h'.os.trans h.os, h'.tape.trans h.tape, h'.output.trans h.output, Nat.le_trans h.size h'.size, fun k hk hn => (h'.block k (Nat.lt_of_lt_of_le hk h.size) hn).trans (h.block k hk hn)⟩
theorem grown_refl (w : World) : w.grownBy w none := ⟨rfl, rfl, rfl, Nat.le_refl _, fun _ _ _ => rfl⟩

theorem setCell_heap {w : World} {b o : Nat} {cs : Array Value} {t : TypeId} {fz : Nat × Nat} (h : w.heap[b]? = some (.cells cs t fz)) (v : Value) : (w.setCell ⟨b, o, none⟩ v).heap[b]? = some (.cells (cs.setIfInBounds o v) t fz) := by
  have e : (w.setCell ⟨b, o, none⟩ v).heap[b]? = (w.heap[b]?).map fun
      | .cells c elem frozen => .cells (c.setIfInBounds o v) elem frozen
      | o => o := by
    simp [World.setCell, Array.getElem?_modify]
    cases w.heap[b]? with
    | none => rfl
    | some x => cases x <;> rfl
  rw [e, h]
  rfl

structure St (w0 w : World) (n k kh : Nat) (O Nn : Nat → Int) (sec f : Nat → Nat) (bS bH : Nat) : Prop where
  pr : PRow w bS n k sec
  hr : 0 < n → HRow w bH n kh sec f Nn
  sn : ∀ i, i < k → SnapAt w (sec i) (O i)
  bel : Below w0.heap.size w0 w
  lS : w0.heap.size ≤ bS
  lH : 0 < n → w0.heap.size ≤ bH

variable {w0 w w' : World} {n k kh : Nat} {O Nn : Nat → Int} {sec f : Nat → Nat} {bS bH bT : Nat} {z en : Int} {sv : Value}

theorem PRow.keep {T : TypeId} (h : PRow w bS n k sec) (hk : Kp T w w') (hT : 29 ≠ T) : PRow w' bS n k sec := by
  obtain ⟨cur, h1, h2, h3⟩ := h
  exact ⟨cur, hk _ _ _ _ h1 hT, h2, h3⟩
theorem HRow.keep {T : TypeId} (h : HRow w bH n kh sec f Nn) (hk : Kp T w w') (hT : 35 ≠ T) : HRow w' bH n kh sec f Nn := by
  obtain ⟨cur, h1, h2, h3⟩ := h
  exact ⟨cur, hk _ _ _ _ h1 hT, h2, h3⟩
theorem SnapAt.keep {T : TypeId} {s : Nat} {o : Int} (h : SnapAt w s o) (hk : Kp T w w') (hT : 33 ≠ T) : SnapAt w' s o := by
  obtain ⟨cur, h1, h2⟩ := h
  exact ⟨cur, hk _ _ _ _ h1 hT, h2⟩

/-- Blocks of a type that the state does not speak of. -/
theorem St.keep {T : TypeId} (h : St w0 w n k kh O Nn sec f bS bH) (hk : Kp T w w') (hb : Below w0.heap.size w w') (h1 : 29 ≠ T) (h2 : 35 ≠ T) (h3 : 33 ≠ T) : St w0 w' n k kh O Nn sec f bS bH :=
  ⟨h.pr.keep hk h1, fun hn => (h.hr hn).keep hk h2, fun i hi => (h.sn i hi).keep hk h3, h.bel.trans hb, h.lS, h.lH⟩
theorem St.ext (h : St w0 w n k kh O Nn sec f bS bH) (hg : w.grownBy w' none) : St w0 w' n k kh O Nn sec f bS bH :=
  h.keep (T := 0) (Kp.grown hg 0) ((Below.refl _ _).grown hg h.bel.size (fun k e => by cases e)) (by decide) (by decide) (by decide)
theorem TalAt.ext (h : TalAt w bT z sv en) (hg : w.grownBy w' none) : TalAt w' bT z sv en := grown_keep hg h
theorem BoxAt.ext {bC : Nat} (h : BoxAt w bC bT) (hg : w.grownBy w' none) : BoxAt w' bC bT := grown_keep hg h

theorem TalAt.cells (h : TalAt w bT z sv en) : (w.cell? ⟨bT, 0, none⟩ = some (.int .u32 z) ∧ w.cell? ⟨bT, 1, none⟩ = some sv ∧ w.cell? ⟨bT, 2, none⟩ = some (.int .u64 en)) ∧ ∀ o, w.frozen? ⟨bT, o, none⟩ = false := by
  refine ⟨⟨?_, ?_, ?_⟩, fun o => ?_⟩
  · rw [cell_of_row w bT 0 _ 38 (0, 0) h]; rfl
  · rw [cell_of_row w bT 1 _ 38 (0, 0) h]; rfl
  · rw [cell_of_row w bT 2 _ 38 (0, 0) h]; rfl
  · simp [World.frozen?, show w.heap[bT]? = some (.cells #[.int .u32 z, sv, .int .u64 en] 38 (0, 0)) from h]
theorem BoxAt.cell {bC : Nat} (h : BoxAt w bC bT) : w.cell? ⟨bC, 0, none⟩ = some (.pointer (some ⟨bT, 0, none⟩)) := by
  rw [cell_of_row w bC 0 _ 36 (0, 0) h]; rfl
theorem SnapAt.cell {s : Nat} {o : Int} (h : SnapAt w s o) : w.cell? ⟨s, 2, none⟩ = some (.int .i64 o) := by
  obtain ⟨cur, h1, h2⟩ := h
  rw [cell_of_row w s 2 _ 33 (0, 0) h1]; exact h2
theorem PRow.cell (h : PRow w bS n k sec) {p : Nat} (hp : p < k) : w.cell? ⟨bS, p, none⟩ = some (.pointer (some ⟨sec p, 0, none⟩)) := by
  obtain ⟨cur, h1, h2, h3⟩ := h
  rw [cell_of_row w bS p _ 29 (0, 0) h1]; exact h3 p hp
theorem HRow.cell (h : HRow w bH n kh sec f Nn) {p : Nat} (hp : p < kh) : w.cell? ⟨bH, p * 2, none⟩ = some (.pointer (some ⟨sec (f p), 0, none⟩)) ∧ w.cell? ⟨bH, p * 2 + 1, none⟩ = some (.int .u32 (Nn (f p))) := by
  obtain ⟨cur, h1, h2, h3⟩ := h
  rw [cell_of_row w bH (p * 2) _ 35 (0, 0) h1, cell_of_row w bH (p * 2 + 1) _ 35 (0, 0) h1]; exact h3 p hp
theorem HRow.there (h : HRow w bH n kh sec f Nn) {o : Nat} (ho : o < n * 2) : (∃ v, w.cell? ⟨bH, o, none⟩ = some v) ∧ w.frozen? ⟨bH, o, none⟩ = false := by
  obtain ⟨cur, h1, h2, h3⟩ := h
  rw [cell_of_row w bH o _ 35 (0, 0) h1]
  refine ⟨⟨cur[o]'(by omega), by simp⟩, by simp [World.frozen?, h1]⟩
theorem PRow.there (h : PRow w bS n k sec) {o : Nat} (ho : o < n) : (∃ v, w.cell? ⟨bS, o, none⟩ = some v) ∧ w.frozen? ⟨bS, o, none⟩ = false := by
  obtain ⟨cur, h1, h2, h3⟩ := h
  rw [cell_of_row w bS o _ 29 (0, 0) h1]
  refine ⟨⟨cur[o]'(by omega), by simp⟩, by simp [World.frozen?, h1]⟩
end Go.Proofs.Ybulkautu
