import Derived.Test.YbulkautgInv
namespace Go.Proofs.Ybulkautg
open Go.RowKit

theorem setCell_heap {w : World} {b o : Nat} {cs : Array Value} {t : TypeId} {fz : Nat × Nat} (h : w.heap[b]? = some (.cells cs t fz)) (v : Value) : (w.setCell ⟨b, o, none⟩ v).heap[b]? = some (.cells (cs.setIfInBounds o v) t fz) := by
  have e : (w.setCell ⟨b, o, none⟩ v).heap[b]? = (w.heap[b]?).map fun
      | .cells c elem frozen => .cells (c.setIfInBounds o v) elem frozen
      | o => o := by
    simp [World.setCell, Array.getElem?_modify]
    cases w.heap[b]? with
    | none => rfl
    | some x => cases x <;> rfl
  rw [e, h]
  rfl

/-- A section more. -/
def Gh.addS (g : Gh) (s : Nat) (nm : ByteArray) (v : Value) : Gh :=
  { g with mS := g.mS + 1, S := v, sec := upd g.sec g.mS s, names := upd g.names g.mS nm, R := updR g.R false g.mS (.slice none 0 0), ents := updR g.ents false g.mS [] }

theorem Inv.addS {w0 : World} {n0 : Nat} {g : Gh} {w w2 w3 : World} (h : Inv w0 n0 g w) (hn : g.mN ≤ g.mS) {nm : ByteArray} {v' : Value}
    (hg2 : (w.alloc (.cells (secArr nm (lineOf n0 g.mS) (.slice none 0 0)) 34)).grownBy w2 none)
    (ho : w3.ownsRow (w0.heap.size + 1) 31 1 v' (g.mS + 1) ((tabl g.mS fun i => .pointer (some ⟨g.sec i, 0, none⟩)) ++ [.pointer (some ⟨w.heap.size, 0, none⟩)])) (hg3 : w2.grownBy w3 g.S.ownBlock) :
    Inv w0 n0 (g.addS w.heap.size nm v') (w3.setCell ⟨w0.heap.size, 2, none⟩ v') := by
  have h2 : Inv w0 n0 g w2 := (h.ext (World.grownBy_alloc _ _ _)).ext hg2
  have hs2 : w2.heap[w.heap.size]? = some (.cells (secArr nm (lineOf n0 g.mS) (.slice none 0 0)) 34 (0, 0)) := (hg2.block _ (by simp) (by simp)).trans (heap_alloc_new w _)
  have F3 : Fr w0.heap.size 31 w2 w3 := Fr.grown hg3 (by have := h2.size; omega) (h2.row_base h2.rowS)
  have hf3 := F3.keep _ _ _ _ h2.file (by decide)
  have F4 : Fr w0.heap.size 28 w3 (w3.setCell ⟨w0.heap.size, 2, none⟩ v') := Fr.set hf3 (Nat.le_refl _) 2 v'
  have old : ∀ {e : TypeId} {size n : Nat} {v : Value} {xs : List Value}, e ≠ 31 → e ≠ 28 → w2.ownsRow (w0.heap.size + 1) e size v n xs → (w3.setCell ⟨w0.heap.size, 2, none⟩ v').ownsRow (w0.heap.size + 1) e size v n xs := fun a b h => F4.own (F3.own h a) b
  have hold : ∀ p i, i < g.cnt p → updR g.R false g.mS (.slice none 0 0) p i = g.R p i ∧ updR g.ents false g.mS [] p i = g.ents p i := fun p i hi => by
    have : ¬ (p = false ∧ i = g.mS) := by rintro ⟨rfl, rfl⟩; simp [Gh.cnt] at hi
    exact ⟨updR_ne _ _ this, updR_ne _ _ this⟩
  have htr : ∀ i, updR g.R false g.mS (.slice none 0 0) true i = g.R true i := fun i => updR_ne _ _ (by simp)
  have hc : ∀ p i, i < (g.addS w.heap.size nm v').cnt p → i < g.cnt p ∨ (p = false ∧ i = g.mS) := fun p i hi => by
    cases p
    · simp [Gh.cnt, Gh.addS] at hi ⊢; omega
    · exact .inl hi
  have hslt : ∀ i, i < g.mS → g.sec i < w.heap.size := fun i hi => lt_of_some (h.secs i hi)
  refine ⟨?_, ?_, ?_, ?_, fun i hi => ?_, fun i hi => ?_, fun i j hi hj hne => ?_, fun p i hi => ?_, fun p i q j hi hj hne => ?_, (h2.bel.trans F3.bel).trans F4.bel, fun b cs e => F4.keep _ _ _ _ (F3.keep _ _ _ _ (h2.ops b cs e) (by decide)) (by decide)⟩
  · show (w3.setCell ⟨w0.heap.size, 2, none⟩ v').heap[w0.heap.size]? = some (.cells #[.string ⟨#[]⟩, .slice none 0 0, v'] 28 (0, 0))
    rw [setCell_heap hf3]
    rfl
  · show (w3.setCell ⟨w0.heap.size, 2, none⟩ v').ownsRow _ 31 1 v' (g.mS + 1) (tabl (g.mS + 1) fun i => .pointer (some ⟨upd g.sec g.mS w.heap.size i, 0, none⟩))
    rw [tabl_succ, upd_same, tabl_congr (f' := fun i => .pointer (some ⟨g.sec i, 0, none⟩)) (fun i hi => by rw [upd_ne _ _ (by omega)])]
    exact F4.own ho (by decide)
  · show (w3.setCell ⟨w0.heap.size, 2, none⟩ v').ownsRow _ 9 1 g.N g.mN (tabl g.mN fun i => .string (upd g.names g.mS nm i))
    rw [tabl_congr (f' := fun i => .string (g.names i)) (fun i hi => by rw [upd_ne _ _ (by omega)])]
    exact old (by decide) (by decide) h2.rowN
  · show (w3.setCell ⟨w0.heap.size, 2, none⟩ v').ownsRow _ 32 1 g.M g.mM (tabl g.mM (updR g.R false g.mS (.slice none 0 0) true))
    rw [tabl_congr (f' := g.R true) (fun i _ => htr i)]
    exact old (by decide) (by decide) h2.rowM
  · show (w3.setCell ⟨w0.heap.size, 2, none⟩ v').heap[upd g.sec g.mS w.heap.size i]? = some (.cells (secArr (upd g.names g.mS nm i) (lineOf n0 i) (updR g.R false g.mS (.slice none 0 0) false i)) 34 (0, 0))
    by_cases hi' : i = g.mS
    · subst hi'
      rw [upd_same, upd_same, updR_same]
      exact F4.keep _ _ _ _ (F3.keep _ _ _ _ hs2 (by decide)) (by decide)
    · have hlt : i < g.mS := by have : i < g.mS + 1 := hi; omega
      rw [upd_ne _ _ hi', upd_ne _ _ hi', updR_ne _ _ (by simp [hi'])]
      exact F4.keep _ _ _ _ (F3.keep _ _ _ _ (h2.secs i hlt) (by decide)) (by decide)
  · show w0.heap.size + 1 ≤ upd g.sec g.mS w.heap.size i
    by_cases hi' : i = g.mS
    · subst hi'
      rw [upd_same]
      exact h.size
    · rw [upd_ne _ _ hi']
      exact h.secb i (by have : i < g.mS + 1 := hi; omega)
  · show upd g.sec g.mS w.heap.size i ≠ upd g.sec g.mS w.heap.size j
    have hi2 : i < g.mS + 1 := hi
    have hj2 : j < g.mS + 1 := hj
    by_cases hi' : i = g.mS
    · subst hi'
      rw [upd_same, upd_ne _ _ (fun e => hne e.symm)]
      have := hslt j (by omega)
      omega
    · rw [upd_ne _ _ hi']
      by_cases hj' : j = g.mS
      · subst hj'
        rw [upd_same]
        have := hslt i (by omega)
        omega
      · rw [upd_ne _ _ hj']
        exact h.secd i j (by omega) (by omega) hne
  · show (w3.setCell ⟨w0.heap.size, 2, none⟩ v').ownsRow _ 39 3 (updR g.R false g.mS (.slice none 0 0) p i) (updR g.ents false g.mS [] p i).length (ecells (updR g.ents false g.mS [] p i))
    rcases hc p i hi with h1 | ⟨rfl, rfl⟩
    · rw [(hold p i h1).1, (hold p i h1).2]
      exact old (by decide) (by decide) (h2.rows p i h1)
    · rw [updR_same, updR_same]
      exact World.ownsRow_nil _ _ _ _
  · show (updR g.R false g.mS (.slice none 0 0) p i).ownBlock = none ∨ (updR g.R false g.mS (.slice none 0 0) p i).ownBlock ≠ (updR g.R false g.mS (.slice none 0 0) q j).ownBlock
    rcases hc p i hi with h1 | ⟨rfl, rfl⟩
    · rw [(hold p i h1).1]
      rcases hc q j hj with h2 | ⟨rfl, rfl⟩
      · rw [(hold q j h2).1]
        exact h.rowd p i q j h1 h2 hne
      · rw [updR_same]
        cases hx : (g.R p i).ownBlock with
        | none => exact .inl rfl
        | some k => exact .inr (by simp [Value.ownBlock])
    · rw [updR_same]
      exact .inl rfl

/-- One row anew. -/
def Gh.setR (g : Gh) (p : Bool) (i : Nat) (v : Value) (es : List (ByteArray × ByteArray)) : Gh := { g with R := updR g.R p i v, ents := updR g.ents p i es }

/-- What is common to a section's row and to one of the model's: the row itself has turned; its holder's cell has not yet been written. -/
theorem rows_after {w0 : World} {n0 : Nat} {g : Gh} {w w1 : World} (h : Inv w0 n0 g w) {p : Bool} {i : Nat} (hi : i < g.cnt p) {v' : Value} {es : List (ByteArray × ByteArray)}
    (ho : w1.ownsRow (w0.heap.size + 1) 39 3 v' es.length (ecells es)) (hg : w.grownBy w1 (g.R p i).ownBlock) :
    ∀ q j, j < g.cnt q → w1.ownsRow (w0.heap.size + 1) 39 3 (updR g.R p i v' q j) (updR g.ents p i es q j).length (ecells (updR g.ents p i es q j)) := fun q j hj => by
  by_cases e : q = p ∧ j = i
  · obtain ⟨rfl, rfl⟩ := e
    rw [updR_same, updR_same]
    exact ho
  · rw [updR_ne _ _ e, updR_ne _ _ e]
    refine (h.rows q j hj).kept hg ?_
    rcases h.rowd q j p i hj hi (fun e' => e ⟨e'.1.symm, e'.2.symm⟩) with h1 | h1
    · exact .inl h1
    · exact .inr h1

theorem rowd_after {w0 : World} {n0 : Nat} {g : Gh} {w : World} (h : Inv w0 n0 g w) {p : Bool} {i n : Nat} (hi : i < g.cnt p) {v' : Value} (hl : Loc w (g.R p i) v' n) :
    ∀ q j r k, j < g.cnt q → k < g.cnt r → ¬ (r = q ∧ k = j) → (updR g.R p i v' q j).ownBlock = none ∨ (updR g.R p i v' q j).ownBlock ≠ (updR g.R p i v' r k).ownBlock := by
  obtain ⟨gb, cap, rfl, hgb⟩ := hl
  have key : ∀ q j, j < g.cnt q → ¬ (q = p ∧ j = i) → (g.R q j).ownBlock = none ∨ (g.R q j).ownBlock ≠ some gb := fun q j hj hne => by
    cases hx : (g.R q j).ownBlock with
    | none => exact .inl rfl
    | some k =>
      refine .inr ?_
      rintro e
      simp only [Option.some.injEq] at e
      subst e
      rcases hgb with hb | hb
      · rcases h.rowd q j p i hj hi (fun e' => hne ⟨e'.1.symm, e'.2.symm⟩) with h1 | h1
        · rw [hx] at h1; cases h1
        · exact h1 (hx.trans hb.symm)
      · have := ((h.rows q j hj).lt k hx).2
        omega
  intro q j r k hj hk hne
  by_cases e1 : q = p ∧ j = i
  · obtain ⟨rfl, rfl⟩ := e1
    rw [updR_same, updR_ne _ _ hne]
    refine .inr ?_
    rcases key r k hk hne with h1 | h1
    · rw [h1]; simp [Value.ownBlock]
    · intro e; exact h1 e.symm
  · rw [updR_ne _ _ e1]
    by_cases e2 : r = p ∧ k = i
    · obtain ⟨rfl, rfl⟩ := e2
      rw [updR_same]
      exact key q j hj e1
    · rw [updR_ne _ _ e2]
      exact h.rowd q j r k hj hk hne

/-- A section's row has turned, and its holder has been told. -/
theorem Inv.setA {w0 : World} {n0 : Nat} {g : Gh} {w w1 : World} (h : Inv w0 n0 g w) {i n : Nat} (hi : i < g.mS) {v' : Value} {es : List (ByteArray × ByteArray)}
    (ho : w1.ownsRow (w0.heap.size + 1) 39 3 v' es.length (ecells es)) (hg : w.grownBy w1 (g.R false i).ownBlock) (hl : Loc w (g.R false i) v' n) :
    Inv w0 n0 (g.setR false i v' es) (w1.setCell ⟨g.sec i, 6, none⟩ v') := by
  have hi' : i < g.cnt false := hi
  have F1 : Fr w0.heap.size 39 w w1 := Fr.grown hg (by have := h.size; omega) (h.row_base (h.rows false i hi'))
  have hs1 := F1.keep _ _ _ _ (h.secs i hi) (by decide)
  have F2 : Fr w0.heap.size 34 w1 (w1.setCell ⟨g.sec i, 6, none⟩ v') := Fr.set hs1 (by have := h.secb i hi; omega) 6 v'
  have old : ∀ {e : TypeId} {size n : Nat} {v : Value} {xs : List Value}, e ≠ 39 → e ≠ 34 → w.ownsRow (w0.heap.size + 1) e size v n xs → (w1.setCell ⟨g.sec i, 6, none⟩ v').ownsRow (w0.heap.size + 1) e size v n xs := fun a b h => F2.own (F1.own h a) b
  refine ⟨F2.keep _ _ _ _ (F1.keep _ _ _ _ h.file (by decide)) (by decide), old (by decide) (by decide) h.rowS, old (by decide) (by decide) h.rowN, ?_, fun j hj => ?_, h.secb, h.secd,
    fun q j hj => F2.own (rows_after h hi' ho hg q j hj) (by decide), rowd_after h hi' hl, (h.bel.trans F1.bel).trans F2.bel, fun b cs e => F2.keep _ _ _ _ (F1.keep _ _ _ _ (h.ops b cs e) (by decide)) (by decide)⟩
  · show (w1.setCell ⟨g.sec i, 6, none⟩ v').ownsRow _ 32 1 g.M g.mM (tabl g.mM (updR g.R false i v' true))
    rw [tabl_congr (f' := g.R true) (fun j _ => updR_ne _ _ (by simp))]
    exact old (by decide) (by decide) h.rowM
  · show (w1.setCell ⟨g.sec i, 6, none⟩ v').heap[g.sec j]? = some (.cells (secArr (g.names j) (lineOf n0 j) (updR g.R false i v' false j)) 34 (0, 0))
    by_cases hj' : j = i
    · subst hj'
      rw [updR_same, setCell_heap hs1]
      rfl
    · rw [updR_ne _ _ (by simp [hj']), Below.heap_setCell w1 ⟨g.sec i, 6, none⟩ v' (g.sec j) (h.secd j i hj hi hj')]
      exact F1.keep _ _ _ _ (h.secs j hj) (by decide)

/-- One of the model's rows has turned, and the list of them has been told. -/
theorem Inv.setB {w0 : World} {n0 : Nat} {g : Gh} {w w1 : World} (h : Inv w0 n0 g w) {i n gM cM : Nat} (hi : i < g.mM) (hM : g.M = .slice (some ⟨gM, 0, none⟩) g.mM cM) {v' : Value} {es : List (ByteArray × ByteArray)}
    (ho : w1.ownsRow (w0.heap.size + 1) 39 3 v' es.length (ecells es)) (hg : w.grownBy w1 (g.R true i).ownBlock) (hl : Loc w (g.R true i) v' n) :
    Inv w0 n0 (g.setR true i v' es) (w1.setCell ⟨gM, i, none⟩ v') := by
  have hi' : i < g.cnt true := hi
  have F1 : Fr w0.heap.size 39 w w1 := Fr.grown hg (by have := h.size; omega) (h.row_base (h.rows true i hi'))
  have hM1 := F1.own h.rowM (by decide)
  have hblk : g.M.ownBlock = some gM := by rw [hM]; rfl
  obtain ⟨cur, hcur⟩ := own_tag hM1 hblk
  have F2 : Fr w0.heap.size 32 w1 (w1.setCell ⟨gM, i, none⟩ v') := Fr.set hcur (by have := (hM1.lt gM hblk).1; omega) i v'
  have old : ∀ {e : TypeId} {size n : Nat} {v : Value} {xs : List Value}, e ≠ 39 → e ≠ 32 → w.ownsRow (w0.heap.size + 1) e size v n xs → (w1.setCell ⟨gM, i, none⟩ v').ownsRow (w0.heap.size + 1) e size v n xs := fun a b h => F2.own (F1.own h a) b
  refine ⟨F2.keep _ _ _ _ (F1.keep _ _ _ _ h.file (by decide)) (by decide), old (by decide) (by decide) h.rowS, old (by decide) (by decide) h.rowN, ?_, fun j hj => ?_, h.secb, h.secd,
    fun q j hj => F2.own (rows_after h hi' ho hg q j hj) (by decide), rowd_after h hi' hl, (h.bel.trans F1.bel).trans F2.bel, fun b cs e => F2.keep _ _ _ _ (F1.keep _ _ _ _ (h.ops b cs e) (by decide)) (by decide)⟩
  · show (w1.setCell ⟨gM, i, none⟩ v').ownsRow _ 32 1 g.M g.mM (tabl g.mM (updR g.R true i v' true))
    have e : tabl g.mM (updR g.R true i v' true) = (tabl g.mM (g.R true)).set i v' := by
      rw [tabl_set]
      refine tabl_congr fun j _ => ?_
      by_cases hj' : j = i
      · subst hj'; rw [updR_same, upd_same]
      · rw [updR_ne _ _ (by simp [hj']), upd_ne _ _ hj']
    rw [e, hM]
    rw [hM] at hM1
    exact (hM1.stored i v').1
  · show (w1.setCell ⟨gM, i, none⟩ v').heap[g.sec j]? = some (.cells (secArr (g.names j) (lineOf n0 j) (updR g.R true i v' false j)) 34 (0, 0))
    rw [updR_ne _ _ (by simp)]
    exact F2.keep _ _ _ _ (F1.keep _ _ _ _ (h.secs j hj) (by decide)) (by decide)
end Go.Proofs.Ybulkautg
