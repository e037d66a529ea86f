import Derived.Test.YbulkaurqRows
import Derived.Test.YbulkaurqLaw
import Derived.WalkKit
import Derived.ProofKit
import Derived.OpenShut
import Derived.ChangeOld
import Derived.Below
import Derived.Deep.SlicePairs
namespace Go.Proofs.Ybulkaurq
open Go.ChangeShapes Go.WideShapes Go.ChangeAt Go.RowKit

theorem own : ownKnob Yba.prog.godebug = none := by kernel_rfl
theorem laidOut : laidOutB Yba.prog = true := by kernel_rfl

set_option maxHeartbeats 400000 in
theorem law_long (ao po : Option Addr) (n nc p pc : Nat) (w : World) (h : 300 < n ∨ 300 < p) :
    Calls Yba.prog 5 #[.slice ao n nc, .slice po p pc] w fun e w' => e = .returned (.bool true) ∧ Below w.heap.size w w' := by
  by_cases h1 : (300 : Int) < (n : Int)
  · clear h
    go_enter Yba.func5, Yba.ntmps5
    go_wp2_with fail
    go_ret
    exact ⟨rfl, Below.refl _ _⟩
  · have h2 : (300 : Int) < (p : Int) := by omega
    clear h
    go_enter Yba.func5, Yba.ntmps5
    go_wp2_with fail
    go_ret
    exact ⟨rfl, Below.refl _ _⟩

theorem open_steps {H : Type} {en : TypeId × Value → H} {W : World} {ao : Option Addr} {n c : Nat} {d : DataW H} {p : List MemPlace}
    (h : DataW.Trod en Yba.prog W 0 (fun _ => true) true 44 (.slice ao n c) d p) : ∃ (S : Nat → Int) (F : Nat → Bool), StepsAt W ao n S F ∧ ∀ i, 0 ≤ S i ∧ S i < 4294967296 := by
  obtain ⟨fuel, hf⟩ := h
  rcases Deep.open_slice_pairs (P := Yba.prog) Yba.underlying44 Yba.underlying51 (by kernel_rfl) rfl rfl (by kernel_rfl) (by kernel_rfl) hf with ⟨hcs, _⟩ | ⟨a, len, cap, m, k, V0, V1, D0, D1, P0, P1, hcs, _, hl, _, hm, _, hx⟩
  · simp [Value.cells] at hcs
    obtain ⟨rfl, rfl, rfl⟩ := hcs
    exact ⟨fun _ => 0, fun _ => false, fun h => absurd h (Nat.lt_irrefl 0), fun _ => by dsimp only; omega⟩
  · simp [Value.cells] at hcs
    obtain ⟨rfl, rfl, rfl⟩ := hcs
    have hm' : m = c := by simpa using hm
    subst hm'
    have h0 : ∀ i, i < n → ∃ z : Int, V0 i = .int .u32 z ∧ 0 ≤ z ∧ z < 4294967296 := fun i hi => by
      obtain ⟨z, e, _, wz⟩ := DataW.trod_int Yba.underlying45 (hx i (by omega)).2.2.1
      simp at e
      have hb : 0 ≤ z ∧ z ≤ 4294967295 := by simpa [Lit.wf, IntKind.min, IntKind.max, IntKind.signed, IntKind.bits] using wz
      exact ⟨z, e, hb.1, by omega⟩
    have h1 : ∀ i, i < n → ∃ z : Bool, V1 i = .bool z := fun i hi => by
      obtain ⟨z, e, _⟩ := DataW.trod_bool Yba.underlying4 (hx i (by omega)).2.2.2
      simp at e
      exact ⟨z, e⟩
    obtain ⟨S, hS⟩ := Deep.choose_lt h0
    obtain ⟨F, hF⟩ := Deep.choose_lt h1
    refine ⟨fun i => if i < n then S i else 0, F, fun hn => ?_, fun i => ?_⟩
    · obtain ⟨b, o, spot⟩ := a
      have hspot : spot = none := by simpa [Addr.add] using World.cell?_spot (hx 0 (by omega)).1
      subst hspot
      refine ⟨b, o, rfl, fun i hi => ?_⟩
      have e0 := (hx i (by omega)).1
      have e1 := (hx i (by omega)).2.1
      rw [Addr.add_lit] at e0 e1
      rw [(hS i hi).1] at e0
      rw [hF i hi] at e1
      refine ⟨?_, ?_⟩
      · dsimp only; rw [if_pos hi]; exact e0
      · rw [Nat.add_assoc]; exact e1
    · dsimp only
      split
      · rename_i hi; exact (hS i hi).2
      · decide

set_option maxRecDepth 100000 in
theorem model_lifted (os : Os) (started : os.Started) (H : Type) (en : TypeId × Value → H) :
    ReturnsInHanded {} Yba.checked os 5 .any (Rows.lawS2304CModelSpec.pre6 en Yba.prog Yba.f5 Rows.lawS2304CModelRow.domain false) (Rows.lawS2304CModelSpec.post en Yba.prog Yba.f5 false true false false) := by
  refine returnsInHanded_of_change (C := Yba.checked) own started (by kernel_rfl) Yba.func5
    (ChangeSpec.witness6 (enc := en) (C := Yba.checked) false ⟨#[], #[.slice none 0 0, .slice none 0 0], []⟩ 8 (by kernel_rfl) (by kernel_rfl) (by kernel_rfl) (by kernel_rfl)) ?_
  intro W base args ds gs before hval0 hW hcnd _
  have hval : ∀ (j : Nat) t v, Yba.f5.params[j]? = some t → args[j]? = some v → Value.okWide Yba.prog W .any base t v := hval0
  have hW' := hW
  obtain ⟨p, q, hA0, hV, rfl, hfz, hnd⟩ := hW
  have hA : DataW.TrodAll en Yba.prog W 0 (fun _ => true) true Yba.f5.params.toList args.toList ds p := hA0
  rw [Yba.params5] at hA hval
  obtain ⟨v0, vs0, d0, ds0, p0, q0, hargs, rfl, rfl, h0, r0⟩ := trodAll_cons hA
  obtain ⟨v1, vs1, d1, ds1, p1, q1, rfl, rfl, rfl, h1, r1⟩ := trodAll_cons r0
  obtain ⟨rfl, rfl, rfl⟩ := trodAll_nil r1
  obtain rfl : args = #[v0, v1] := by cases args; simp_all
  obtain ⟨rfl, rfl⟩ := trodVars_none hV
  obtain ⟨a0, len0, cap0, rfl⟩ := okWide_slice Yba.underlying44 (hval 0 44 v0 rfl rfl)
  obtain ⟨a1, len1, cap1, rfl⟩ := okWide_slice Yba.underlying44 (hval 1 44 v1 rfl rfl)
  have lt0 : ∀ x ∈ p0, x.block < W.heap.size := by obtain ⟨m, hm⟩ := h0; exact DataW.trod_lt m _ _ _ hm
  have lt1 : ∀ x ∈ p1, x.block < W.heap.size := by obtain ⟨m, hm⟩ := h1; exact DataW.trod_lt m _ _ _ hm
  obtain ⟨S, F, hs, hS⟩ := open_steps h0
  obtain ⟨T, G, ht, hT⟩ := open_steps h1
  clear hA0 hval0
  have walk : Calls Yba.prog 5 #[.slice a0 len0 cap0, .slice a1 len1 cap1] W fun e w' => e = .returned (.bool true) ∧ Below W.heap.size W w' := by
    by_cases hl : len0 ≤ 300 ∧ len1 ≤ 300
    · exact law_walk a0 a1 len0 cap0 len1 cap1 S T F G W hl.1 hl.2 hs ht hS hT
    · exact law_long a0 a1 len0 cap0 len1 cap1 W (by omega)
  refine walk.mono fun e W' ⟨he, bel⟩ => ?_
  subst he
  exact ⟨_, rfl, _, _, _, [], _, [], hW', trodAll_mk1 (shut_bool Yba.underlying4 _), (trodAll_cons_mk (Below.trod laidOut (by kernel_rfl) (of_decide_eq_true (by kernel_rfl)) h0 bel lt0) (trodAll_cons_mk (Below.trod laidOut (by kernel_rfl) (of_decide_eq_true (by kernel_rfl)) h1 bel lt1) trodAll_mk0)), rfl, bel.frame _, fun h => by cases h⟩

theorem model_said : Rows.LawS2304CModelSaid :=
  OpenClaim.holds_of_wide 5 Yba.f5 rfl rfl rfl rfl rfl rfl rfl ⟨rfl, rfl, rfl, rfl, rfl⟩ rfl rfl rfl rfl rfl (by kernel_rfl) Yba.func5 (by kernel_rfl)
    (of_decide_eq_true (by kernel_rfl)) (by unfold Func.isWrapper; first | (rw [if_pos (by decide +kernel)]; kernel_rfl) | (rw [if_neg (by decide +kernel)]; exact ⟨rfl, rfl⟩))
    (fun os started H en _ => model_lifted os started H en)
#print axioms model_said
end Go.Proofs.Ybulkaurq
