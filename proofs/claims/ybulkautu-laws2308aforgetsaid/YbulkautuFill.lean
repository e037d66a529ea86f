import Derived.Test.YbulkautuInv
namespace Go.Proofs.Ybulkautu
open Go.RowKit

theorem PRow.put {w : World} {b n k : Nat} {sec : Nat → Nat} (h : PRow w b n k sec) (hk : k < n) (s : Nat) : PRow (w.setCell ⟨b, k, none⟩ (.pointer (some ⟨s, 0, none⟩))) b n (k + 1) (upd sec k s) := by
  obtain ⟨cur, h1, h2, h3⟩ := h
  refine ⟨_, setCell_heap h1 _, by simpa using h2, fun p hp => ?_⟩
  rw [Array.getElem?_setIfInBounds]
  by_cases e : k = p
  · subst e
    rw [if_pos rfl, if_pos (by omega), upd_same]
  · rw [if_neg e, upd_ne _ _ (fun e' => e e'.symm)]
    exact h3 p (by omega)
theorem HRow.put {w : World} {b n k : Nat} {sec : Nat → Nat} {Nn : Nat → Int} (h : HRow w b n k sec id Nn) (hk : k < n) (s : Nat) :
    HRow ((w.setCell ⟨b, k * 2, none⟩ (.pointer (some ⟨s, 0, none⟩))).setCell ⟨b, k * 2 + 1, none⟩ (.int .u32 (Nn k))) b n (k + 1) (upd sec k s) id Nn := by
  obtain ⟨cur, h1, h2, h3⟩ := h
  refine ⟨_, setCell_heap (setCell_heap h1 _) _, by simpa using h2, fun p hp => ?_⟩
  simp only [Array.getElem?_setIfInBounds, Array.size_setIfInBounds, id]
  by_cases e : p = k
  · subst e
    rw [upd_same, if_neg (by omega), if_pos rfl, if_pos (by omega), if_pos rfl, if_pos (by omega)]
    exact ⟨rfl, rfl⟩
  · rw [upd_ne _ _ e, if_neg (by omega), if_neg (by omega), if_neg (by omega), if_neg (by omega)]
    exact h3 p (by omega)

theorem St.round {w0 w : World} {n k : Nat} {O Nn : Nat → Int} {sec : Nat → Nat} {bS bH q s : Nat} {A : Obj} (h : St w0 w n k k O Nn sec id bS bH) (hk : k < n) (hs : s = w.heap.size + 1) :
    St w0 ((((((w.setCell ⟨bS, k, none⟩ (.pointer (some ⟨s, 0, none⟩))).setCell ⟨bH, k * 2, none⟩ (.pointer (some ⟨s, 0, none⟩))).setCell ⟨bH, k * 2 + 1, none⟩ (.int .u32 (Nn k))).alloc A).alloc (.cells #[.slice none 0 0, .slice none 0 0, .int .i64 (O k), .bool false] 33)).drewN q) n (k + 1) (k + 1) O Nn (upd sec k s) id bS bH := by
  have hn : 0 < n := by omega
  obtain ⟨curP, hP, _⟩ := id h.pr
  have K1 : Kp 29 w (w.setCell ⟨bS, k, none⟩ (.pointer (some ⟨s, 0, none⟩))) := Kp.set hP _ _
  have P1 := h.pr.put hk s
  have H1 := (h.hr hn).keep K1 (by decide)
  have B1 : Below w0.heap.size w (w.setCell ⟨bS, k, none⟩ (.pointer (some ⟨s, 0, none⟩))) := (Below.refl _ _).setCell (p := ⟨bS, k, none⟩) h.lS _
  have S1 : ∀ i, i < k → SnapAt (w.setCell ⟨bS, k, none⟩ (.pointer (some ⟨s, 0, none⟩))) (sec i) (O i) := fun i hi => (h.sn i hi).keep K1 (by decide)
  have z1 : (w.setCell ⟨bS, k, none⟩ (.pointer (some ⟨s, 0, none⟩))).heap.size = w.heap.size := by simp [World.setCell]
  generalize w.setCell ⟨bS, k, none⟩ (.pointer (some ⟨s, 0, none⟩)) = w1 at P1 H1 B1 S1 z1
  obtain ⟨curH, hH, _⟩ := id H1
  have K2 : Kp 35 w1 ((w1.setCell ⟨bH, k * 2, none⟩ (.pointer (some ⟨s, 0, none⟩))).setCell ⟨bH, k * 2 + 1, none⟩ (.int .u32 (Nn k))) := (Kp.set hH _ _).trans (Kp.set (setCell_heap hH _) _ _)
  have H2 := H1.put hk s
  have P2 := P1.keep K2 (by decide)
  have S2 : ∀ i, i < k → SnapAt ((w1.setCell ⟨bH, k * 2, none⟩ (.pointer (some ⟨s, 0, none⟩))).setCell ⟨bH, k * 2 + 1, none⟩ (.int .u32 (Nn k))) (sec i) (O i) := fun i hi => (S1 i hi).keep K2 (by decide)
  have B2 : Below w0.heap.size w1 ((w1.setCell ⟨bH, k * 2, none⟩ (.pointer (some ⟨s, 0, none⟩))).setCell ⟨bH, k * 2 + 1, none⟩ (.int .u32 (Nn k))) := ((Below.refl _ _).setCell (p := ⟨bH, k * 2, none⟩) (h.lH hn) _).setCell (p := ⟨bH, k * 2 + 1, none⟩) (h.lH hn) _
  have z2 : ((w1.setCell ⟨bH, k * 2, none⟩ (.pointer (some ⟨s, 0, none⟩))).setCell ⟨bH, k * 2 + 1, none⟩ (.int .u32 (Nn k))).heap.size = w.heap.size := by rw [← z1]; simp [World.setCell]
  generalize (w1.setCell ⟨bH, k * 2, none⟩ (.pointer (some ⟨s, 0, none⟩))).setCell ⟨bH, k * 2 + 1, none⟩ (.int .u32 (Nn k)) = w2 at P2 H2 B2 S2 z2
  have g : w2.grownBy (((w2.alloc A).alloc (.cells #[.slice none 0 0, .slice none 0 0, .int .i64 (O k), .bool false] 33)).drewN q) none := grown_trans (grown_trans (World.grownBy_alloc _ _ _) (World.grownBy_alloc _ _ _)) (grown_drew _ _)
  have hnew : (((w2.alloc A).alloc (.cells #[.slice none 0 0, .slice none 0 0, .int .i64 (O k), .bool false] 33)).drewN q).heap[s]? = some (.cells #[.slice none 0 0, .slice none 0 0, .int .i64 (O k), .bool false] 33 (0, 0)) := by
    have e : s = (w2.alloc A).heap.size := by rw [hs, World.size_alloc, z2]
    rw [e]
    exact heap_alloc_new (w2.alloc A) _
  refine ⟨P2.keep (Kp.grown g 0) (by decide), fun _ => H2.keep (Kp.grown g 0) (by decide), fun i hi => ?_, ((h.bel.trans B1).trans B2).trans ((Below.refl _ _).grown g (by have := h.bel.size; omega) (fun k e => by cases e)), h.lS, h.lH⟩
  by_cases e : i = k
  · subst e
    rw [upd_same]
    exact ⟨_, hnew, rfl⟩
  · rw [upd_ne _ _ e]
    exact (S2 i (by omega)).keep (Kp.grown g 0) (by decide)
theorem St.ne {w0 w : World} {n k kh : Nat} {O Nn : Nat → Int} {sec f : Nat → Nat} {bS bH : Nat} (h : St w0 w n k kh O Nn sec f bS bH) (hn : 0 < n) : bH ≠ bS := by
  rintro rfl
  obtain ⟨c1, h1, _⟩ := h.pr
  obtain ⟨c2, h2, _⟩ := h.hr hn
  rw [h1] at h2
  simp at h2
end Go.Proofs.Ybulkautu
