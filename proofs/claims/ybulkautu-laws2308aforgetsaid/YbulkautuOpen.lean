import Derived.Test.YbulkautuRows
import Derived.Test.YbulkautuLaw
import Derived.WalkKit
import Derived.ProofKit
import Derived.OpenShut
import Derived.ChangeOld
import Derived.Below
import Derived.Deep.SlicePairs
namespace Go.Proofs.Ybulkautu
open Go.ChangeShapes Go.WideShapes Go.ChangeAt Go.RowKit

theorem own : ownKnob Yba.prog.godebug = none := by kernel_rfl
theorem laidOut : laidOutB Yba.prog = true := by kernel_rfl

set_option maxRecDepth 100000 in
set_option maxHeartbeats 400000 in
theorem law_long (ao : Option Addr) (n nc : Nat) (a b c d : Value) (w : World) (h : (1024 : Int) < (n : Int)) :
    Calls Yba.prog 3 #[a, .slice ao n nc, b, c, d] w fun e w' => e = .returned (.bool true) ∧ Below w.heap.size w w' := by
  go_enter Yba.func3, Yba.ntmps3
  go_wp2_with fail
  go_ret
  exact ⟨rfl, Below.refl _ _⟩

theorem open_shares {H : Type} {en : TypeId × Value → H} {W : World} {ao : Option Addr} {n c : Nat} {d : DataW H} {p : List MemPlace}
    (h : DataW.Trod en Yba.prog W 0 (fun _ => true) true 23 (.slice ao n c) d p) : ∃ (O Nn : Nat → Int), SharesAt W ao n O Nn ∧ (ao = none → n = 0) := by
  obtain ⟨fuel, hf⟩ := h
  rcases Deep.open_slice_pairs (P := Yba.prog) Yba.underlying23 Yba.underlying28 (by kernel_rfl) rfl rfl (by kernel_rfl) (by kernel_rfl) hf with ⟨hcs, _⟩ | ⟨a, len, cap, m, k, V0, V1, D0, D1, P0, P1, hcs, _, hl, _, hm, _, hx⟩
  · simp [Value.cells] at hcs
    obtain ⟨rfl, rfl, rfl⟩ := hcs
    exact ⟨fun _ => 0, fun _ => 0, fun h => absurd h (Nat.lt_irrefl 0), fun _ => rfl⟩
  · simp [Value.cells] at hcs
    obtain ⟨rfl, rfl, rfl⟩ := hcs
    have hm' : m = c := by simpa using hm
    subst hm'
    have h0 : ∀ i, i < n → ∃ z : Int, V0 i = .int .i64 z := fun i hi => by
      obtain ⟨z, e, _⟩ := DataW.trod_int Yba.underlying3 (hx i (by omega)).2.2.1
      simp at e
      exact ⟨z, e⟩
    have h1 : ∀ i, i < n → ∃ z : Int, V1 i = .int .u32 z := fun i hi => by
      obtain ⟨z, e, _⟩ := DataW.trod_int Yba.underlying22 (hx i (by omega)).2.2.2
      simp at e
      exact ⟨z, e⟩
    obtain ⟨S, hS⟩ := Deep.choose_lt h0
    obtain ⟨F, hF⟩ := Deep.choose_lt h1
    refine ⟨S, F, fun hn => ?_, fun h => by cases h⟩
    obtain ⟨b, o, spot⟩ := a
    have hspot : spot = none := by simpa [Addr.add] using World.cell?_spot (hx 0 (by omega)).1
    subst hspot
    refine ⟨b, o, rfl, fun i hi => ?_⟩
    have e0 := (hx i (by omega)).1
    have e1 := (hx i (by omega)).2.1
    rw [Addr.add_lit] at e0 e1
    rw [hS i hi] at e0
    rw [hF i hi] at e1
    refine ⟨e0, ?_⟩
    rw [Nat.add_assoc]; exact e1
end Go.Proofs.Ybulkautu
