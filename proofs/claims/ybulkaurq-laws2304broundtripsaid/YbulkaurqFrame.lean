import Derived.Test.YbulkaurqMade
import Derived.Laws.CopyOwn
namespace Go.Proofs.Ybulkaurq
open Go.RowKit

/-- An address and port. -/
abbrev aport (p : Int) : Value := .agg #[.int .u64 0, .int .u64 0, .pointer none, .int .u16 p]

set_option maxHeartbeats 800000 in
theorem frame_other (p rp : Int) (ao : Option Addr) (n c : Nat) (w : World) (hp : (p == 4500) = false) :
    Calls Yba.prog 10 #[aport p, aport rp, .slice ao n c] w fun e w' => e = .returned (dgram p rp (.slice ao n c)) ∧ Below w.heap.size w w' := by
  go_enter Yba.func10, Yba.ntmps10
  go_wp2_with (go_at_call 15; refine (port_any p _).mono ?_; rintro e w' ⟨rfl, o, rfl⟩)
  exact bodyPost_ret (v := dgram p rp (.slice ao n c)) (by simp [results, Yba.results10, go_sem]) rfl ⟨rfl, by repeat (first | exact Below.refl _ _ | apply Below.drew | apply below_new)⟩

/-- What frame leaves on port 4500. -/
def Framed (rp : Int) (n : Nat) (l : List UInt8) (w : World) (e : Ending) (w' : World) : Prop :=
  ∃ g, e = .returned (dgram 4500 rp (.slice (some ⟨g, 0, none⟩) (4 + n) (4 + n))) ∧ Dat w' (some ⟨g, 0, none⟩) (4 + n) (4 + n) (0 :: 0 :: 0 :: 0 :: l) ∧ Below w.heap.size w w'

theorem heap4 (w : World) (a b c d : Obj) : ((((w.alloc a).alloc b).alloc c).alloc d).heap[w.heap.size]? = some a ∧ ((((w.alloc a).alloc b).alloc c).alloc d).heap[w.heap.size + 1]? = some b ∧ ((((w.alloc a).alloc b).alloc c).alloc d).heap[w.heap.size + 1 + 1]? = some c := by
  refine ⟨?_, ?_, ?_⟩
  · rw [Below.heap_alloc _ _ _ (by simp only [World.size_alloc]; omega), Below.heap_alloc _ _ _ (by simp only [World.size_alloc]; omega), Below.heap_alloc _ _ _ (by simp only [World.size_alloc]; omega)]
    exact heap_alloc_new w a
  · rw [Below.heap_alloc _ _ _ (by simp only [World.size_alloc]; omega), Below.heap_alloc _ _ _ (by simp only [World.size_alloc]; omega)]
    have := heap_alloc_new (w.alloc a) b
    simpa using this
  · rw [Below.heap_alloc _ _ _ (by simp only [World.size_alloc]; omega)]
    have := heap_alloc_new ((w.alloc a).alloc b) c
    simpa using this

theorem Dat.set {w : World} {g o n c : Nat} {l : List UInt8} (h : Dat w (some ⟨g, o, none⟩) n c l) {b : Nat} (hne : b ≠ g) (k : Nat) (v : Value) : Dat (w.setCell ⟨b, k, none⟩ v) (some ⟨g, o, none⟩) n c l := by
  refine { len := h.len, room := h.room, nil := h.nil, cells := fun h0 => ?_ }
  obtain ⟨g', o', e, hc⟩ := h.cells h0
  simp only [Option.some.injEq, Addr.mk.injEq, and_true] at e
  obtain ⟨rfl, rfl⟩ := e
  refine ⟨g, o, rfl, fun i hi => ?_⟩
  rw [World.cell?_of_block (w := w) (Below.heap_setCell w ⟨b, k, none⟩ v g (fun e => hne e.symm))]
  exact hc i hi

theorem free_of_row {w : World} {g : Nat} {cs : Array Value} {t : TypeId} (h : w.heap[g]? = some (.cells cs t (0, 0))) (o : Nat) : w.frozen? ⟨g, o, none⟩ = false := by
  simp [World.frozen?, h]

set_option maxHeartbeats 800000 in
theorem frame_marks (rp : Int) (ao : Option Addr) (n c : Nat) (l : List UInt8) (w : World) (hn : n ≤ 1024) (hd : Hid (Dat w ao n c l)) :
    Calls Yba.prog 10 #[aport 4500, aport rp, .slice ao n c] w (Framed rp n l w) := by
  obtain ⟨i0, hi, hz0, hz1, hz2⟩ := info_parts info5
  have hmk := make4 n hn
  have HL : Hid ((bcells l).length = n * 1) := by unfold Hid; rw [Nat.mul_one, bcells, List.length_map]; exact hd.out.len
  go_enter Yba.func10, Yba.ntmps10
  go_wp2_with fail
  refine (port_any 4500 _).mono ?_
  rintro e w1 ⟨rfl, ob, hw1⟩
  have HB1 : Hid (Below w.heap.size w w1) := by
    rw [hw1]
    exact below_new (below_new (below_new (below_new (Below.refl _ _))))
  have hh := heap4 w (.cells #[.int .u64 0, .int .u64 0, .pointer none, .int .u16 4500] 33) (.cells #[.int .u64 0, .int .u64 0, .pointer none, .int .u16 rp] 33) (.cells #[.int .u64 0, .int .u64 0, .pointer none, .int .u16 0, .int .u64 0, .int .u64 0, .pointer none, .int .u16 0, .slice none 0 0] 36) ob
  rw [← hw1] at hh
  obtain ⟨q0, q1, q2⟩ := hh
  have Q0 : Hid (w1.heap[w.heap.size]? = some (.cells #[.int .u64 0, .int .u64 0, .pointer none, .int .u16 4500] 33 (0, 0))) := q0
  have Q1 : Hid (w1.heap[w.heap.size + 1]? = some (.cells #[.int .u64 0, .int .u64 0, .pointer none, .int .u16 rp] 33 (0, 0))) := q1
  have Q2 : Hid (w1.heap[w.heap.size + 1 + 1]? = some (.cells #[.int .u64 0, .int .u64 0, .pointer none, .int .u16 0, .int .u64 0, .int .u64 0, .pointer none, .int .u16 0, .slice none 0 0] 36 (0, 0))) := q2
  have HZ : Hid (w.heap.size + 4 ≤ w1.heap.size) := by
    unfold Hid
    rw [hw1]
    simp
  clear q0 q1 q2 hw1
  have HO : Hid ((w1.alloc (.cells (madeCells #[.int .u8 0] (4 + n)) 5)).ownsRow w1.heap.size 5 1 (.slice (some ⟨w1.heap.size, 0, none⟩) 4 (4 + n)) 4 (bcells [0, 0, 0, 0])) := own4 n w1 hn
  have HD : Hid (Dat (w1.alloc (.cells (madeCells #[.int .u8 0] (4 + n)) 5)) ao n c l) := hd.out.below (below_new HB1.out)
  go_wp2_with (at_builtin; refine wpList_append_fits_any _ rfl _ _ 23 rfl w1.heap.size 5 i0 1 Yba.underlying23 hi hz1 w1.heap.size 4 (4 + n) _ rfl HO.out ao n c (bcells l) rfl HL.out HD.out.nil HD.out.news (bcells_one l) (Nat.le_refl _) ?_)
  intro w0 hown hgrow
  have HB0 : Hid (Below w1.heap.size w1 w0) := (below_new (Below.refl _ _)).grown hgrow (by simp) (fun k e => by cases e; exact Nat.le_refl _)
  have HP : Hid (Dat w0 (some ⟨w1.heap.size, 0, none⟩) (4 + n) (4 + n) (0 :: 0 :: 0 :: 0 :: l)) := dat_made hd.out.len hown
  have R0 : Hid (w0.heap[w.heap.size]? = some (.cells #[.int .u64 0, .int .u64 0, .pointer none, .int .u16 4500] 33 (0, 0))) := (HB0.out.block _ (by have := HZ.out; omega)).trans Q0.out
  have R1 : Hid (w0.heap[w.heap.size + 1]? = some (.cells #[.int .u64 0, .int .u64 0, .pointer none, .int .u16 rp] 33 (0, 0))) := (HB0.out.block _ (by have := HZ.out; omega)).trans Q1.out
  have R2 : Hid (w0.heap[w.heap.size + 1 + 1]? = some (.cells #[.int .u64 0, .int .u64 0, .pointer none, .int .u16 0, .int .u64 0, .int .u64 0, .pointer none, .int .u16 0, .slice none 0 0] 36 (0, 0))) := (HB0.out.block _ (by have := HZ.out; omega)).trans Q2.out
  clear hown hgrow HO HD HL hmk Q0 Q1 Q2
  have x00 : w0.cell? ⟨w.heap.size, 0, none⟩ = some (.int .u64 0) := cell_of_row w0 (w.heap.size) 0 _ _ _ R0.out
  have x01 : w0.cell? ⟨w.heap.size, 1, none⟩ = some (.int .u64 0) := cell_of_row w0 (w.heap.size) 1 _ _ _ R0.out
  have x02 : w0.cell? ⟨w.heap.size, 2, none⟩ = some (.pointer none) := cell_of_row w0 (w.heap.size) 2 _ _ _ R0.out
  have x03 : w0.cell? ⟨w.heap.size, 3, none⟩ = some (.int .u16 4500) := cell_of_row w0 (w.heap.size) 3 _ _ _ R0.out
  have x10 : w0.cell? ⟨w.heap.size + 1, 0, none⟩ = some (.int .u64 0) := cell_of_row w0 (w.heap.size + 1) 0 _ _ _ R1.out
  have x11 : w0.cell? ⟨w.heap.size + 1, 1, none⟩ = some (.int .u64 0) := cell_of_row w0 (w.heap.size + 1) 1 _ _ _ R1.out
  have x12 : w0.cell? ⟨w.heap.size + 1, 2, none⟩ = some (.pointer none) := cell_of_row w0 (w.heap.size + 1) 2 _ _ _ R1.out
  have x13 : w0.cell? ⟨w.heap.size + 1, 3, none⟩ = some (.int .u16 rp) := cell_of_row w0 (w.heap.size + 1) 3 _ _ _ R1.out
  have x20 : w0.cell? ⟨w.heap.size + 1 + 1, 0, none⟩ = some (.int .u64 0) := cell_of_row w0 (w.heap.size + 1 + 1) 0 _ _ _ R2.out
  have x21 : w0.cell? ⟨w.heap.size + 1 + 1, 1, none⟩ = some (.int .u64 0) := cell_of_row w0 (w.heap.size + 1 + 1) 1 _ _ _ R2.out
  have x22 : w0.cell? ⟨w.heap.size + 1 + 1, 2, none⟩ = some (.pointer none) := cell_of_row w0 (w.heap.size + 1 + 1) 2 _ _ _ R2.out
  have x23 : w0.cell? ⟨w.heap.size + 1 + 1, 3, none⟩ = some (.int .u16 0) := cell_of_row w0 (w.heap.size + 1 + 1) 3 _ _ _ R2.out
  have x24 : w0.cell? ⟨w.heap.size + 1 + 1, 4, none⟩ = some (.int .u64 0) := cell_of_row w0 (w.heap.size + 1 + 1) 4 _ _ _ R2.out
  have x25 : w0.cell? ⟨w.heap.size + 1 + 1, 5, none⟩ = some (.int .u64 0) := cell_of_row w0 (w.heap.size + 1 + 1) 5 _ _ _ R2.out
  have x26 : w0.cell? ⟨w.heap.size + 1 + 1, 6, none⟩ = some (.pointer none) := cell_of_row w0 (w.heap.size + 1 + 1) 6 _ _ _ R2.out
  have x27 : w0.cell? ⟨w.heap.size + 1 + 1, 7, none⟩ = some (.int .u16 0) := cell_of_row w0 (w.heap.size + 1 + 1) 7 _ _ _ R2.out
  have x28 : w0.cell? ⟨w.heap.size + 1 + 1, 8, none⟩ = some (.slice none 0 0) := cell_of_row w0 (w.heap.size + 1 + 1) 8 _ _ _ R2.out
  have f0 : w0.frozen? ⟨w.heap.size + 1 + 1, 0, none⟩ = false := free_of_row R2.out 0
  have f1 : w0.frozen? ⟨w.heap.size + 1 + 1, 1, none⟩ = false := free_of_row R2.out 1
  have f2 : w0.frozen? ⟨w.heap.size + 1 + 1, 2, none⟩ = false := free_of_row R2.out 2
  have f3 : w0.frozen? ⟨w.heap.size + 1 + 1, 3, none⟩ = false := free_of_row R2.out 3
  have f4 : w0.frozen? ⟨w.heap.size + 1 + 1, 4, none⟩ = false := free_of_row R2.out 4
  have f5 : w0.frozen? ⟨w.heap.size + 1 + 1, 5, none⟩ = false := free_of_row R2.out 5
  have f6 : w0.frozen? ⟨w.heap.size + 1 + 1, 6, none⟩ = false := free_of_row R2.out 6
  have f7 : w0.frozen? ⟨w.heap.size + 1 + 1, 7, none⟩ = false := free_of_row R2.out 7
  have f8 : w0.frozen? ⟨w.heap.size + 1 + 1, 8, none⟩ = false := free_of_row R2.out 8
  clear R0 R1 R2
  go_wp2
  refine bodyPost_ret (v := dgram 4500 rp (.slice (some ⟨w1.heap.size, 0, none⟩) (4 + n) (4 + n))) (by simp [results, Yba.results10, go_sem, x20, x21, x22, x23, x24, x25, x26, x27, x28]) rfl ⟨w1.heap.size, rfl, ?_, ?_⟩
  · have hne : w.heap.size + 1 + 1 ≠ w1.heap.size := by have := HZ.out; omega
    exact (((((((((HP.out.set hne _ _).set hne _ _).set hne _ _).set hne _ _).set hne _ _).set hne _ _).set hne _ _).set hne _ _).set hne _ _)
  · have hB : Below w.heap.size w w0 := below_then HB1.out HB0.out
    exact (Below.setCell (Below.setCell (Below.setCell (Below.setCell (Below.setCell (Below.setCell (Below.setCell (Below.setCell (Below.setCell hB (by show w.heap.size ≤ w.heap.size + 1 + 1; omega) _) (by show w.heap.size ≤ w.heap.size + 1 + 1; omega) _) (by show w.heap.size ≤ w.heap.size + 1 + 1; omega) _) (by show w.heap.size ≤ w.heap.size + 1 + 1; omega) _) (by show w.heap.size ≤ w.heap.size + 1 + 1; omega) _) (by show w.heap.size ≤ w.heap.size + 1 + 1; omega) _) (by show w.heap.size ≤ w.heap.size + 1 + 1; omega) _) (by show w.heap.size ≤ w.heap.size + 1 + 1; omega) _) (by show w.heap.size ≤ w.heap.size + 1 + 1; omega) _)
end Go.Proofs.Ybulkaurq
