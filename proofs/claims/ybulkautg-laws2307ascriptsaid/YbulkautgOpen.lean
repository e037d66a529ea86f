import Derived.Test.YbulkautgRows
import Derived.Test.YbulkautgHelp
import Derived.WalkKit
import Derived.ProofKit
import Derived.OpenShut
import Derived.ChangeOld
import Derived.Below
import Derived.Deep.SlicePairs
import Derived.Deep.Strs
namespace Go.Proofs.Ybulkautg
open Go.ChangeShapes Go.WideShapes Go.ChangeAt Go.RowKit

theorem own : ownKnob Yba.prog.godebug = none := by kernel_rfl
theorem laidOut : laidOutB Yba.prog = true := by kernel_rfl

set_option maxRecDepth 100000 in
set_option maxHeartbeats 400000 in
theorem law_long (ao po : Option Addr) (n nc p pc : Nat) (w : World) (h : 256 < n ∨ 256 < p) :
    Calls Yba.prog 3 #[.slice ao n nc, .slice po p pc] w fun e w' => e = .returned (.bool true) ∧ Below w.heap.size w w' := by
  by_cases h1 : (256 : Int) < (n : Int)
  · clear h
    go_enter Yba.func3, Yba.ntmps3
    go_wp2_with fail
    go_ret
    exact ⟨rfl, Below.refl _ _⟩
  · have h2 : (256 : Int) < (p : Int) := by omega
    clear h
    go_enter Yba.func3, Yba.ntmps3
    go_wp2_with fail
    go_ret
    exact ⟨rfl, Below.refl _ _⟩

theorem open_names {H : Type} {en : TypeId × Value → H} {W : World} {ao : Option Addr} {n c : Nat} {d : DataW H} {p : List MemPlace}
    (h : DataW.Trod en Yba.prog W 0 (fun _ => true) true 22 (.slice ao n c) d p) : ∃ Z : Nat → Int, NamesAt W ao n Z ∧ ∀ i, 0 ≤ Z i ∧ Z i ≤ 255 := by
  obtain ⟨fuel, hf⟩ := h
  rcases open_ints (P := Yba.prog) Yba.underlying22 Yba.underlying5 (by kernel_rfl) hf with ⟨hcs, _⟩ | ⟨a, len, cap, zs, hcs, _, hl, _, hm, _, hx, hw⟩
  · simp [Value.cells] at hcs
    obtain ⟨rfl, rfl, rfl⟩ := hcs
    exact ⟨fun _ => 0, fun h => absurd h (Nat.lt_irrefl 0), fun _ => by dsimp only; omega⟩
  · simp [Value.cells] at hcs
    obtain ⟨rfl, rfl, rfl⟩ := hcs
    have hm' : zs.length = c := by simpa using hm
    refine ⟨fun i => zs.getD i 0, fun hn => ?_, fun i => ?_⟩
    · obtain ⟨b, o, spot⟩ := a
      have hspot : spot = none := by simpa [Addr.add] using World.cell?_spot (hx 0 (by omega))
      subst hspot
      refine ⟨b, o, rfl, fun i hi => ?_⟩
      have e0 := hx i (by omega)
      rw [Addr.add_lit] at e0
      exact e0
    · by_cases hi : i < zs.length
      · have wz := hw zs[i] (List.getElem_mem hi)
        have hb : 0 ≤ zs[i] ∧ zs[i] ≤ 255 := by simpa [Lit.wf, IntKind.min, IntKind.max, IntKind.signed, IntKind.bits] using wz
        simpa [List.getD, hi] using hb
      · have e : zs.getD i 0 = 0 := by simp [List.getD, hi]
        show 0 ≤ zs.getD i 0 ∧ zs.getD i 0 ≤ 255
        rw [e]
        decide

theorem open_ops {H : Type} {en : TypeId × Value → H} {W : World} {ao : Option Addr} {n c : Nat} {d : DataW H} {p : List MemPlace}
    (h : DataW.Trod en Yba.prog W 0 (fun _ => true) true 23 (.slice ao n c) d p) : ∃ (Z : Nat → Int) (K V : Nat → ByteArray), OpsAt W ao n Z K V ∧ ∀ i, 0 ≤ Z i ∧ Z i ≤ 255 := by
  obtain ⟨fuel, hf⟩ := h
  have ce : Yba.prog.cellsOf 36 = 3 := by kernel_rfl
  have c5 : Yba.prog.cellsOf 5 = 1 := by kernel_rfl
  have c9 : Yba.prog.cellsOf 9 = 1 := by kernel_rfl
  rcases Deep.open_slice (P := Yba.prog) Yba.underlying23 hf with ⟨hcs, _⟩ | ⟨a, len, cap, m, k, D, Pl, hcs, _, hl, _, hm, _, hx⟩
  · simp [Value.cells] at hcs
    obtain ⟨rfl, rfl, rfl⟩ := hcs
    exact ⟨fun _ => 0, fun _ => ⟨#[]⟩, fun _ => ⟨#[]⟩, fun h => absurd h (Nat.lt_irrefl 0), fun _ => by dsimp only; omega⟩
  · simp [Value.cells] at hcs
    obtain ⟨rfl, rfl, rfl⟩ := hcs
    have hm' : m = c := by simpa using hm
    subst hm'
    rw [ce] at hx
    have each : ∀ i, i < n → ∃ q : Int × ByteArray × ByteArray, (0 ≤ q.1 ∧ q.1 ≤ 255) ∧ W.cell? (a.add (i * 3)) = some (.int .u8 q.1) ∧ W.cell? (a.add (i * 3 + 1)) = some (.string q.2.1) ∧ W.cell? (a.add (i * 3 + 2)) = some (.string q.2.2) := fun i hi => by
      obtain ⟨cs', h1, h2⟩ := hx i (by omega)
      obtain ⟨_, hlen, hcell⟩ := World.cells?_some h1
      obtain ⟨y0, y1, y2, k', _, _, g0, g1, g2⟩ := Deep.trod_struct3 Yba.underlying36 h2
      match cs', hlen with
      | [v0, v1, v2], _ =>
        simp [c5, c9] at g0 g1 g2
        obtain ⟨z, e, _, wz⟩ := DataW.trod_int Yba.underlying5 g0
        obtain ⟨s1, f1, _⟩ := DataW.trod_string Yba.underlying9 g1
        obtain ⟨s2, f2, _⟩ := DataW.trod_string Yba.underlying9 g2
        simp at e f1 f2
        subst e f1 f2
        have hb : 0 ≤ z ∧ z ≤ 255 := by simpa [Lit.wf, IntKind.min, IntKind.max, IntKind.signed, IntKind.bits] using wz
        have e0 := hcell 0 (by omega)
        have e1 := hcell 1 (by omega)
        have e2 := hcell 2 (by omega)
        rw [Deep.add_add] at e0 e1 e2
        exact ⟨(z, s1, s2), hb, by simpa using e0, by simpa using e1, by simpa using e2⟩
    obtain ⟨q, hq⟩ := Deep.choose_lt each
    refine ⟨fun i => if i < n then (q i).1 else 0, fun i => (q i).2.1, fun i => (q i).2.2, fun hn => ?_, fun i => ?_⟩
    · obtain ⟨b, o, spot⟩ := a
      have hspot : spot = none := by simpa [Addr.add] using World.cell?_spot (hq 0 (by omega)).2.1
      subst hspot
      refine ⟨b, o, rfl, fun i hi => ?_⟩
      obtain ⟨_, e0, e1, e2⟩ := hq i hi
      rw [Addr.add_lit] at e0 e1 e2
      refine ⟨?_, ?_, ?_⟩
      · dsimp only; rw [if_pos hi]; exact e0
      · rw [Nat.add_assoc]; exact e1
      · rw [Nat.add_assoc]; exact e2
    · dsimp only
      split
      · rename_i hi; exact (hq i hi).1
      · decide
end Go.Proofs.Ybulkautg
