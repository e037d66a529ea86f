import Derived.Test.YbulkaurcFmtCards
import Derived.WalkKit
import Derived.ProofKit
import Derived.OpenShut
import Derived.ShutString
import Derived.Below
import Derived.Carry
import Derived.Lib.UnsafeStr
import Derived.Stop.JoinedAt
import Derived.Stop.Texts
import Derived.Stop.JoinedTold
import Derived.SevenToldRow
namespace Go.Proofs.YbulkaurcFmt
open Go.ChangeShapes Go.WideShapes Go.ChangeAt Go.RowKit Go.Kit
open Go.ChangeMaps (open_string shut_string)
open Go.Extern.Stop Go.Stop Go.Extern

theorem own : ownKnob Ybaf.prog.godebug = none := by kernel_rfl
theorem laidOut : laidOutB Ybaf.pinned.checked.prog = true := by kernel_rfl
theorem stopsAre : Ybaf.pinned.checked.prog.stops = ["fmt.errorf"] := by kernel_rfl
theorem knobsAre : Ybaf.pinned.checked.prog.stopKnobs = [] := by kernel_rfl
theorem quietIs (os : Os) : Stop.quiet Ybaf.pinned.checked.prog os := by
  intro k hk
  rw [knobsAre] at hk
  cases hk
theorem cells23 : Ybaf.prog.cellsOf 23 = 32 := by kernel_rfl
theorem cells5 : Ybaf.prog.cellsOf 5 = 1 := by kernel_rfl

/-- An array of 32 bytes that came in: its 32 bytes. -/
theorem open_lay {H : Type} {en : TypeId × Value → H} {W : World} {base : Nat} {v : Value} {d : DataW H} {p : List MemPlace} (hv : Value.okWide Ybaf.prog W .any base 23 v)
    (h : DataW.Trod en Ybaf.prog W 0 (fun _ => true) true 23 v d p) : ∃ lay : List UInt8, lay.length = 32 ∧ v = .agg (Lib.byteCells lay).toArray := by
  obtain ⟨cs, rfl, hsz, _⟩ : ∃ cs, v = .agg cs ∧ cs.size = Ybaf.prog.cellsOf 23 ∧ Row.okWide Ybaf.prog W .any base 23 cs := by
    have := hv
    simpa [Value.okWide, Ybaf.underlying23] using this
  rw [cells23] at hsz
  obtain ⟨fuel, hf⟩ := h
  obtain ⟨xs, m, _, _, _, hxl, hx⟩ := DataW.trod_array Ybaf.underlying23 hf
  rw [cells5] at hx
  simp only [Value.cells, Nat.mul_one] at hx
  have hc : ∀ i, (hi : i < 32) → ∃ b : UInt8, cs[i]'(by omega) = .int .u8 b.toNat := by
    intro i hi
    have h1 := hx i hi
    rw [List.getElem?_eq_getElem (by omega)] at h1
    obtain ⟨z, e0, _, wz⟩ := DataW.trod_int Ybaf.underlying5 h1
    have e1 : (cs.toList.drop i).take 1 = [cs[i]'(by omega)] := by
      rw [List.drop_eq_getElem_cons (by simpa using (by omega : i < cs.size))]
      simp
    rw [e1] at e0
    simp only [List.cons.injEq, and_true] at e0
    have hb : 0 ≤ z ∧ z ≤ 255 := by simpa [Lit.wf, IntKind.min, IntKind.max, IntKind.signed, IntKind.bits] using wz
    refine ⟨z.toNat.toUInt8, ?_⟩
    rw [e0]
    congr 1
    simp [Nat.toUInt8]
    omega
  refine ⟨(List.range 32).map fun i => if hi : i < 32 then (hc i hi).choose else 0, by simp, ?_⟩
  congr 1
  apply Array.ext
  · simp [hsz, Lib.byteCells]
  · intro i h1 h2
    have hi : i < 32 := by omega
    have := (hc i hi).choose_spec
    simp only [Lib.byteCells, List.getElem_toArray, List.getElem_map, List.getElem_range, hi, dif_pos]
    exact this

theorem u64_bd {z : Int} (h : (Lit.int .u64 z).wf = true) : 0 ≤ z ∧ z < 18446744073709551616 := by
  have := h
  simp [Lit.wf, IntKind.min, IntKind.max, IntKind.signed, IntKind.bits] at this
  omega
end Go.Proofs.YbulkaurcFmt
