import Derived.Test.YbulkautuIdx
namespace Go.Proofs.Ybulkautu
open Go.RowKit

variable {w0 w w' : World} {n k kh : Nat} {O Nn : Nat → Int} {sec f : Nat → Nat} {bS bH bT bC : Nat} {z en : Int} {sv : Value}

theorem HRow.set (h : HRow w bH n n sec f Nn) {i : Nat} (hi : i < n) (j : Nat) :
    HRow ((w.setCell ⟨bH, i * 2, none⟩ (.pointer (some ⟨sec j, 0, none⟩))).setCell ⟨bH, i * 2 + 1, none⟩ (.int .u32 (Nn j))) bH n n sec (upd f i j) Nn := by
  obtain ⟨cur, h1, h2, h3⟩ := h
  refine ⟨_, setCell_heap (setCell_heap h1 _) _, by simpa using h2, fun p hp => ?_⟩
  simp only [Array.getElem?_setIfInBounds, Array.size_setIfInBounds]
  by_cases e : p = i
  · subst e
    rw [upd_same, if_neg (by omega), if_pos rfl, if_pos (by omega), if_pos rfl, if_pos (by omega)]
    exact ⟨rfl, rfl⟩
  · rw [upd_ne _ _ e, if_neg (by omega), if_neg (by omega), if_neg (by omega), if_neg (by omega)]
    exact h3 p hp

theorem Al.setRow (h : Al w0 w n n O Nn sec f bS bH bT bC z sv en) {i : Nat} (hi : i < n) (j : Nat) :
    Al w0 ((w.setCell ⟨bH, i * 2, none⟩ (.pointer (some ⟨sec j, 0, none⟩))).setCell ⟨bH, i * 2 + 1, none⟩ (.int .u32 (Nn j))) n n O Nn sec (upd f i j) bS bH bT bC z sv en := by
  have hr := h.st.hr (by omega)
  obtain ⟨cur, h1, h2, h3⟩ := id hr
  have K : Kp 35 w ((w.setCell ⟨bH, i * 2, none⟩ (.pointer (some ⟨sec j, 0, none⟩))).setCell ⟨bH, i * 2 + 1, none⟩ (.int .u32 (Nn j))) := (Kp.set h1 _ _).trans (Kp.set (setCell_heap h1 _) _ _)
  have hB := h.st.lH (by omega)
  refine ⟨⟨h.st.pr.keep K (by decide), fun _ => hr.set hi j, fun q hq => (h.st.sn q hq).keep K (by decide), h.st.bel.trans (((Below.refl _ _).setCell (p := ⟨bH, i * 2, none⟩) hB _).setCell (p := ⟨bH, i * 2 + 1, none⟩) hB _), h.st.lS, h.st.lH⟩, K _ _ _ _ h.tal (by decide), K _ _ _ _ h.box (by decide), h.lT⟩

theorem setCells_heap {b : Nat} {t : TypeId} {fz : Nat × Nat} : ∀ (L : List Value) (o : Nat) (w : World) (cur : Array Value), w.heap[b]? = some (.cells cur t fz) →
    ∃ cur' : Array Value, (w.setCells b o L).heap[b]? = some (.cells cur' t fz) ∧ cur'.size = cur.size ∧ (∀ p, p < o → cur'[p]? = cur[p]?) ∧ Kp t w (w.setCells b o L) ∧ ∀ B, B ≤ b → Below B w (w.setCells b o L)
  | [], o, w, cur, h => ⟨cur, h, rfl, fun _ _ => rfl, fun _ _ _ _ e _ => e, fun B _ => Below.refl _ _⟩
  | v :: L, o, w, cur, h => by
    obtain ⟨cur', h1, h2, h3, h4, h5⟩ := setCells_heap L (o + 1) (w.setCell ⟨b, o, none⟩ v) _ (setCell_heap h v)
    refine ⟨cur', h1, by simpa using h2, fun p hp => ?_, (Kp.set h o v).trans h4, fun B hB => ((Below.refl _ _).setCell (p := ⟨b, o, none⟩) hB v).trans (h5 B hB)⟩
    rw [h3 p (by omega), Array.getElem?_setIfInBounds, if_neg (by omega)]

theorem Al.clear (h : Al w0 w n n O Nn sec f bS bH bT bC z sv en) (hn : 0 < n) {i : Nat} (hi : i ≤ n) (L : List Value) : Al w0 (w.setCells bH (i * 2) L) n i O Nn sec f bS bH bT bC z sv en := by
  obtain ⟨cur, h1, h2, h3⟩ := h.st.hr hn
  obtain ⟨cur', k1, k2, k3, K, kB⟩ := setCells_heap L (i * 2) w cur h1
  refine ⟨⟨h.st.pr.keep K (by decide), fun _ => ⟨cur', k1, k2.trans h2, fun p hp => ?_⟩, fun q hq => (h.st.sn q hq).keep K (by decide), h.st.bel.trans (kB _ (h.st.lH hn)), h.st.lS, h.st.lH⟩, K _ _ _ _ h.tal (by decide), K _ _ _ _ h.box (by decide), h.lT⟩
  rw [k3 _ (by omega), k3 _ (by omega)]
  exact h3 p (by omega)

theorem zero_one (n : Nat) : ∀ v ∈ (Builtin.zeroCells #[Value.pointer none, .int .u32 0] n).toList, v.oneCell' = true := by
  intro v hv
  simp only [Builtin.zeroCells, Array.toList_map, List.mem_map] at hv
  obtain ⟨i, _, rfl⟩ := hv
  have : i % 2 = 0 ∨ i % 2 = 1 := by omega
  rcases this with e | e <;> simp [e, Value.oneCell']
theorem zero_len (n : Nat) : (Builtin.zeroCells #[Value.pointer none, .int .u32 0] n).toList.length = n * 2 := by simp [Builtin.zeroCells]

theorem run_clear2 (w : World) (ty : TypeId) (b o n c : Nat) (hn : 0 < n) (hc : ∀ j, j < n * 2 → (w.cell? ⟨b, o + j, none⟩).isSome = true) (hf : ∀ j, j < n * 2 → w.frozen? ⟨b, o + j, none⟩ = false) :
    (Builtin.clear_ #[26] ty #[.slice (some ⟨b, o, none⟩) n c]).run Yba.prog w = .ok (.tuple #[]) (w.setCells b o (Builtin.zeroCells #[Value.pointer none, .int .u32 0] n).toList) := by
  have hst := run_storeCells_cells (P := Yba.prog) b o (Builtin.zeroCells #[Value.pointer none, .int .u32 0] n).toList 0 w (by rw [zero_len]; simpa using hc) (by rw [zero_len]; simpa using hf) (zero_one n)
  simp only [Nat.add_zero] at hst
  obtain ⟨m, rfl⟩ : ∃ m, n = m + 1 := ⟨n - 1, by omega⟩
  simp [Builtin.clear_, run_underlying Yba.underlying26, Yba.zeroValue35, Value.cells, hst]
end Go.Proofs.Ybulkautu
