import Derived.Test.YbulkautuProg
import Derived.Test.YbulkautuInv
import Derived.WalkSpells
import Derived.WalkLawsBesides
import Derived.Deep.QuietTactic
import Derived.BigQuiet
namespace Go.Proofs.Ybulkautu
open Go.RowKit

def shareV (s : Nat) (x : Int) : Value := .agg #[.pointer (some ⟨s, 0, none⟩), .int .u32 x]

variable {bC bT s : Nat} {x o z en : Int} {sv : Value}

theorem clo_keep (w : World) (hs : Hid (SnapAt w s o)) (ho : 0 < o) :
    Calls Yba.prog 6 #[.agg #[.pointer (some ⟨s, 0, none⟩), .int .u32 x], .pointer (some ⟨bC, 0, none⟩)] w fun e w' => e = .returned (.bool false) ∧ w.grownBy w' none := by
  have hc := hs.out.cell
  have hl : s < w.heap.size := World.block_lt_of_cell? w _ hc
  go_enter Yba.func6, Yba.ntmps6
  go_wp2_with fail
  go_ret
  exact ⟨rfl, World.grownBy_alloc _ _ _⟩

theorem clo_drop (w : World) (hs : Hid (SnapAt w s o)) (hC : Hid (BoxAt w bC bT)) (hT : Hid (TalAt w bT z sv en)) (ho : ¬ 0 < o) :
    Calls Yba.prog 6 #[.agg #[.pointer (some ⟨s, 0, none⟩), .int .u32 x], .pointer (some ⟨bC, 0, none⟩)] w fun e w' => e = .returned (.bool true) ∧ (w.setCell ⟨bT, 0, none⟩ (.int .u32 ((z - x) % 4294967296))).grownBy w' none := by
  have hc := hs.out.cell
  have hl : s < w.heap.size := World.block_lt_of_cell? w _ hc
  have hb := hC.out.cell
  have hbl : bC < w.heap.size := World.block_lt_of_cell? w _ hb
  have ht := hT.out.cells.1.1
  have htl : bT < w.heap.size := World.block_lt_of_cell? w _ ht
  have htf := hT.out.cells.2 0
  go_enter Yba.func6, Yba.ntmps6
  go_wp2_with fail
  go_region
  all_goals go_wp2
  all_goals go_ret
  all_goals exact ⟨rfl, grown_trans (World.grownBy_alloc _ _ _) (grown_drew _ 1)⟩
end Go.Proofs.Ybulkautu
