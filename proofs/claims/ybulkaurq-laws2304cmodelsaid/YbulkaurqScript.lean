import Derived.Test.YbulkaurqProbe
import Derived.OwnWalk
namespace Go.Proofs.Ybulkaurq
open Go.RowKit

theorem info45 : (Yba.prog.info? 45).map (fun i => (i.zero, i.size, i.bytes)) = some (some (.int .u32 0), 1, 4) := by kernel_rfl

/-- The step's number. -/
theorem seq_nat (s : Int) (f : Bool) (q : Nat) (h : (if f then (s * 29) % 4294967296 else s) = (q : Int)) (w : World) :
    Calls Yba.prog 11 #[.agg #[.int .u32 s, .bool f]] w fun e w' => e = .returned (.int .u32 (q : Int)) ∧ w.grownBy w' none := by
  refine (seq_any s f w).mono ?_
  rintro e w' ⟨rfl, rfl⟩
  exact ⟨by rw [h], World.grownBy_alloc _ _ _⟩

def ucells (seen : List Nat) : List Value := seen.map fun (x : Nat) => .int .u32 (x : Int)

structure St (w0 : World) (cap top : Nat) (bm : Nat → Nat) (seen : List Nat) (w : World) : Prop where
  inv : Inv top bm seen
  win : Win w w0.heap.size top bm
  own : w.ownsRow (w0.heap.size + 1) 45 1 (.slice (some ⟨w0.heap.size + 1, 0, none⟩) seen.length cap) seen.length (ucells seen)
  bel : Below w0.heap.size w0 w

theorem Win.lt {w : World} {b top : Nat} {bm : Nat → Nat} (h : Win w b top bm) : b < w.heap.size := (Array.getElem?_eq_some_iff.1 h).1

theorem St.size {w0 : World} {cap top : Nat} {bm : Nat → Nat} {seen : List Nat} {w : World} (h : St w0 cap top bm seen w) : w0.heap.size + 2 ≤ w.heap.size := by
  have := (h.own.lt (w0.heap.size + 1) rfl).2
  omega

theorem St.ext {w0 : World} {cap top : Nat} {bm : Nat → Nat} {seen : List Nat} {w w' : World} (h : St w0 cap top bm seen w) (hg : w.grownBy w' none) : St w0 cap top bm seen w' := by
  refine ⟨h.inv, ?_, h.own.kept hg (.inr (by simp [Value.ownBlock])), h.bel.grown hg (by have := h.size; omega) (fun k e => by cases e)⟩
  unfold Win
  rw [hg.block w0.heap.size h.win.lt (by simp)]
  exact h.win

theorem St.cells {w0 : World} {cap top : Nat} {bm : Nat → Nat} {seen : List Nat} {w : World} (h : St w0 cap top bm seen w) : ∀ i (hi : i < seen.length), w.cell? ⟨w0.heap.size + 1, i, none⟩ = some (.int .u32 (seen[i] : Int)) := by
  intro i hi
  have := h.own.cells (g := w0.heap.size + 1) rfl i (.int .u32 (seen[i] : Int)) (by simp [ucells, hi])
  rw [Addr.add_lit] at this
  simpa using this

theorem St.model {w0 : World} {cap top : Nat} {bm : Nat → Nat} {seen : List Nat} {w : World} (h : St w0 cap top bm seen w) (hn : seen.length ≤ 1000) (q : Nat) (hq : q < 4294967296) :
    Calls Yba.prog 12 #[.int .u32 (top : Int), .slice (some ⟨w0.heap.size + 1, 0, none⟩) seen.length cap, .int .u32 (q : Int)] w fun e w' => e = .returned (.bool (modelP top seen q)) ∧ w' = w :=
  model_any _ cap top q seen w h.cells hn h.inv.top_lt hq

theorem below_only {B : Nat} {w0 w w' : World} (h : Below B w0 w) (hg : w.grownBy w' (some B)) (hB : B ≤ w.heap.size) : Below B w0 w' := h.grown hg hB (fun k e => by cases e; exact Nat.le_refl _)

theorem St.accept_no {w0 : World} {cap top : Nat} {bm : Nat → Nat} {seen : List Nat} {w : World} (h : St w0 cap top bm seen w) (q : Nat) (hq : q < 4294967296) (hm : modelP top seen q = false) :
    Calls Yba.prog 13 #[.pointer (some ⟨w0.heap.size, 0, none⟩), .int .u32 (q : Int)] w fun e w' => e = .returned (.bool false) ∧ w' = w :=
  Ybulkaurq.accept_no _ top q bm w h.win h.inv.top_lt hq h.inv.word_lt (by rw [check_model h.inv]; exact hm)

/-- What accept leaves; the number is not yet among the seen. -/
structure Mid (w0 : World) (cap top : Nat) (bm : Nat → Nat) (seen : List Nat) (q : Nat) (w : World) : Prop where
  inv : Inv (topP top q) bm (seen ++ [q])
  win : Win w w0.heap.size (topP top q) bm
  own : w.ownsRow (w0.heap.size + 1) 45 1 (.slice (some ⟨w0.heap.size + 1, 0, none⟩) seen.length cap) seen.length (ucells seen)
  bel : Below w0.heap.size w0 w

theorem St.accept_yes {w0 : World} {cap top : Nat} {bm : Nat → Nat} {seen : List Nat} {w : World} (h : St w0 cap top bm seen w) (q : Nat) (hq : q < 4294967296) (hm : modelP top seen q = true) :
    Calls Yba.prog 13 #[.pointer (some ⟨w0.heap.size, 0, none⟩), .int .u32 (q : Int)] w fun e w' => ∃ bm', e = .returned (.bool true) ∧ Mid w0 cap top bm' seen q w' := by
  have hc : checkP top bm q = true := by rw [check_model h.inv]; exact hm
  refine (accept_any _ top q bm w h.win h.inv.top_lt hq h.inv.word_lt hc).mono ?_
  rintro e w' ⟨rfl, hW, hG, hS⟩
  exact ⟨_, rfl, step_inv h.inv q hq hc, hW, h.own.kept hG (.inr (by simp [Value.ownBlock])), below_only h.bel hG (by have := h.size; omega)⟩

theorem Mid.done {w0 : World} {cap top : Nat} {bm : Nat → Nat} {seen : List Nat} {q : Nat} {w w1 w2 : World} (h : Mid w0 cap top bm seen q w) (hg : w.grownBy w1 none)
    (ho : w2.ownsRow (w0.heap.size + 1) 45 1 (.slice (some ⟨w0.heap.size + 1, 0, none⟩) (seen.length + 1) cap) (seen.length + 1) (ucells seen ++ [.int .u32 (q : Int)])) (hg2 : w1.grownBy w2 (some (w0.heap.size + 1))) : St w0 cap (topP top q) bm (seen ++ [q]) w2 := by
  have hlt := h.win.lt
  have hs := hg.size
  refine ⟨h.inv, ?_, ?_, ?_⟩
  · unfold Win
    rw [hg2.block w0.heap.size (by omega) (by simp), hg.block w0.heap.size hlt (by simp)]
    exact h.win
  · have e : ucells (seen ++ [q]) = ucells seen ++ [.int .u32 (q : Int)] := by simp [ucells]
    rw [e, List.length_append]
    exact ho
  · exact (h.bel.grown hg (by omega) (fun k e => by cases e)).grown hg2 (by omega) (fun k e => by cases e; omega)

theorem St.probe {w0 : World} {cap top : Nat} {bm : Nat → Nat} {seen : List Nat} {w : World} (h : St w0 cap top bm seen w) (hn : seen.length ≤ 1000) (q : Nat) (hq : q < 4294967296) :
    Calls Yba.prog 14 #[.pointer (some ⟨w0.heap.size, 0, none⟩), .int .u32 (top : Int), .slice (some ⟨w0.heap.size + 1, 0, none⟩) seen.length cap, .int .u32 (q : Int)] w fun e w' => e = .returned (.bool true) ∧ St w0 cap top bm seen w' := by
  refine (probe_any _ _ cap top q bm seen w h.win h.inv hq hn h.cells).mono ?_
  rintro e w' ⟨rfl, hb⟩
  exact ⟨rfl, h.ext ⟨hb.os, hb.tape, hb.output, hb.size, fun k hk _ => hb.block k hk⟩⟩
end Go.Proofs.Ybulkaurq
