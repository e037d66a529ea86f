import Derived.Test.YbulkaurqAccept
import Derived.Test.YbulkaurqModel
import Derived.Test.YbulkaurqEq
import Derived.Deep.QuietTactic
import Derived.BigQuiet
namespace Go.Proofs.Ybulkaurq
open Go.RowKit

set_option maxHeartbeats 800000 in
theorem probe_any (b g cap top q : Nat) (bm : Nat → Nat) (seen : List Nat) (w : World) (h : Hid (Win w b top bm)) (hI : Hid (Inv top bm seen)) (hq : q < 4294967296) (hn : seen.length ≤ 1000)
    (hc : Hid (∀ i (hi : i < seen.length), w.cell? ⟨g, i, none⟩ = some (.int .u32 (seen[i] : Int)))) :
    Calls Yba.prog 14 #[.pointer (some ⟨b, 0, none⟩), .int .u32 (top : Int), .slice (some ⟨g, 0, none⟩) seen.length cap, .int .u32 (q : Int)] w fun e w' => e = .returned (.bool true) ∧ Below w.heap.size w w' := by
  have h0 := h.out.top
  have c0 := h.out.word 0 (by decide)
  have c1 := h.out.word 1 (by decide)
  have c2 := h.out.word 2 (by decide)
  have c3 := h.out.word 3 (by decide)
  have c4 := h.out.word 4 (by decide)
  have hbl : b < w.heap.size := World.block_lt_of_cell? w _ h0
  have hbl' : b ≠ w.heap.size := by omega
  have hne := neq_same
  have HW : Hid (Win (w.alloc (.cells #[.int .u32 (top : Int), .int .u64 (bm 0 : Int), .int .u64 (bm 1 : Int), .int .u64 (bm 2 : Int), .int .u64 (bm 3 : Int), .int .u64 (bm 4 : Int)] 48)) b top bm) := by unfold Hid Win; rw [Below.heap_alloc w _ b hbl]; exact h.out
  have HC : Hid (∀ i (hi : i < seen.length), (w.alloc (.cells #[.int .u32 (top : Int), .int .u64 (bm 0 : Int), .int .u64 (bm 1 : Int), .int .u64 (bm 2 : Int), .int .u64 (bm 3 : Int), .int .u64 (bm 4 : Int)] 48)).cell? ⟨g, i, none⟩ = some (.int .u32 (seen[i] : Int))) := fun i hi => by
    have h1 := hc.out i hi
    rw [World.cell?_of_block (w := w) (Below.heap_alloc w _ g (World.block_lt_of_cell? w _ h1))]
    exact h1
  have hcm : checkP top bm q = modelP top seen q := check_model hI.out q
  go_enter Yba.func14, Yba.ntmps14
  go_wp2_with fail
  refine (check_any b top q bm _ HW.out hI.out.top_lt hq hI.out.word_lt).mono ?_
  rintro e w' ⟨rfl, rfl⟩
  go_wp2_with fail
  go_quiet (fail)
  go_wp2_with fail
  refine (model_any g cap top q seen _ (by exact HC) hn hI.out.top_lt hq).mono ?_
  rintro e w' ⟨rfl, rfl⟩
  go_wp2
  go_ret
  exact ⟨rfl, ((Below.refl _ _).alloc (Nat.le_refl _) _).trans ⟨rfl, rfl, rfl, Nat.le_refl _, fun _ _ => rfl⟩⟩
end Go.Proofs.Ybulkaurq
