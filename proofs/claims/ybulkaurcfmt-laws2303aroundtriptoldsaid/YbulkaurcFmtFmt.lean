import Derived.Test.YbulkaurcFmtProg
import Derived.Stop.CallBack
import Derived.Stop.IfaceNil
import Derived.Stop.Walk
import Derived.WalkKit
import Derived.RowKitTokens
import GoSem.ClaimData
namespace Go.Proofs.YbulkaurcFmt
open Go.RowKit Go.Extern.Stop Go.Stop Go.Extern

theorem call15 (args : Array Value) (w : World) : (callFunc 15 args).run Ybaf.prog w = ((FmtStop.errorf #[9, 47] #[30] args).run Ybaf.prog w).andThen fun v w' => .ok (.value v) w' :=
  run_callFunc_extern Ybaf.func15 (by kernel_rfl) (by kernel_rfl) (by kernel_rfl) (by kernel_rfl) args w
theorem guardF (name : String) (w : World) : (FmtStop.guard name).run Ybaf.prog w = .ok () w := by kernel_rfl
theorem ptr51 (w : World) : (FmtStop.ptrTo "errors.errorString").run Ybaf.prog w = .ok 51 w := by kernel_rfl
theorem elem51 (w : World) : (elemOf 51).run Ybaf.prog w = .ok 53 w := by kernel_rfl
theorem str51 (w : World) : ∃ nm, (typeStr 51).run Ybaf.prog w = .ok nm w := by
  refine ⟨((Ybaf.prog.typeName? 3 51).getD default), ?_⟩
  kernel_rfl
theorem d51 : Ybaf.t51.desc = .pointer 53 := rfl
theorem d53 : Ybaf.t53.desc = .named "errors.errorString" 52 := rfl
theorem opErr (name : String) (a : Addr) (s : ByteArray) (w : World) (hc : w.cell? a = some (.string s)) :
    ∃ x, (FmtStop.operand name true 118 false (.iface 51 (.pointer (some a)))).run Ybaf.prog w = .ok x w := by
  obtain ⟨nm, h1⟩ := str51 w
  refine ⟨(14 :: FmtStop.pack nm.toUTF8.data.toList, s.data.toList), ?_⟩
  have d2 := d51
  have d3 := d53
  simp [FmtStop.operand, h1, d2, d3, run_load, hc]
theorem op3 (name : String) (x : Int) (w : World) : ∃ y, (FmtStop.operand name true 100 false (.iface 3 (.int .i64 x))).run Ybaf.prog w = .ok y w :=
  ⟨([5, 3, 0, 0, 0, 0, 0, 0, 0, 105, 110, 116], Go.Extern.Stop.digits 8 (x % 2 ^ 64).toNat), by kernel_rfl⟩

theorem pV (w : World) : (FmtDoors.printed ⟨#[104, 101, 108, 108, 111, 58, 32, 118, 101, 114, 115, 105, 111, 110, 58, 32, 37, 118]⟩ 1).run Ybaf.prog w = .ok [(0, 118, false)] w := by kernel_rfl
theorem pN (w : World) : (FmtDoors.printed ⟨#[104, 101, 108, 108, 111, 58, 32, 110, 111, 100, 101, 58, 32, 37, 118]⟩ 1).run Ybaf.prog w = .ok [(0, 118, false)] w := by kernel_rfl
theorem pS (w : World) : (FmtDoors.printed ⟨#[104, 101, 108, 108, 111, 58, 32, 115, 116, 97, 114, 116, 58, 32, 37, 118]⟩ 1).run Ybaf.prog w = .ok [(0, 118, false)] w := by kernel_rfl
theorem pC (w : World) : (FmtDoors.printed ⟨#[104, 101, 108, 108, 111, 58, 32, 99, 111, 110, 102, 105, 114, 109, 101, 100, 58, 32, 37, 118]⟩ 1).run Ybaf.prog w = .ok [(0, 118, false)] w := by kernel_rfl
theorem pP (w : World) : (FmtDoors.printed ⟨#[104, 101, 108, 108, 111, 58, 32, 112, 114, 111, 116, 111, 99, 111, 108, 32, 118, 101, 114, 115, 105, 111, 110, 32, 37, 100, 44, 32, 119, 97, 110, 116, 32, 37, 100]⟩ 2).run Ybaf.prog w = .ok [(0, 100, false), (1, 100, false)] w := by kernel_rfl
theorem pL (w : World) : (FmtDoors.printed ⟨#[104, 101, 108, 108, 111, 58, 32, 108, 97, 121, 111, 117, 116, 32, 111, 102, 32, 37, 100, 32, 98, 121, 116, 101, 115, 44, 32, 119, 97, 110, 116, 32, 37, 100]⟩ 2).run Ybaf.prog w = .ok [(0, 100, false), (1, 100, false)] w := by kernel_rfl

theorem errorf1 (F : Interp) (f : ByteArray) (hp : ∀ w, (FmtDoors.printed f 1).run Ybaf.prog w = .ok [(0, 118, false)] w) (a : Addr) (s : ByteArray) (blk : Nat) (w : World) (hF : F.answers w.tape)
    (hc0 : w.cell? ⟨blk, 0, none⟩ = some (.iface 51 (.pointer (some a)))) (hs : w.cell? a = some (.string s)) :
    Calls Ybaf.prog 11 #[.string f, .slice (some ⟨blk, 0, none⟩) 1 1] w fun e w' =>
      ∃ t, e = .returned (.iface 51 (.pointer (some ⟨w.heap.size, 0, none⟩))) ∧ w' = (w.alloc (.cells #[.string t] 53)).drew := by
  have hF' : ∀ i name reading k range, w.tape i (.extern (word name reading k) range) = F name reading k := hF
  obtain ⟨x, hop⟩ := opErr "fmt.errorf" a s w hs
  have h1 := call15
  have h2 := guardF
  have h3 := ptr51
  have h4 := elem51
  go_enter Ybaf.func11, Ybaf.ntmps11
  go_wp2
  go_ret
  exact ⟨_, rfl, rfl⟩

theorem errorf2 (F : Interp) (f : ByteArray) (hp : ∀ w, (FmtDoors.printed f 2).run Ybaf.prog w = .ok [(0, 100, false), (1, 100, false)] w) (x y : Int) (blk : Nat) (w : World) (hF : F.answers w.tape)
    (hc0 : w.cell? ⟨blk, 0, none⟩ = some (.iface 3 (.int .i64 x))) (hc1 : w.cell? ⟨blk, 1, none⟩ = some (.iface 3 (.int .i64 y))) :
    Calls Ybaf.prog 11 #[.string f, .slice (some ⟨blk, 0, none⟩) 2 2] w fun e w' =>
      ∃ t, e = .returned (.iface 51 (.pointer (some ⟨w.heap.size, 0, none⟩))) ∧ w' = (w.alloc (.cells #[.string t] 53)).drew := by
  have hF' : ∀ i name reading k range, w.tape i (.extern (word name reading k) range) = F name reading k := hF
  obtain ⟨ox, hop⟩ := op3 "fmt.errorf" x w
  obtain ⟨oy, hop'⟩ := op3 "fmt.errorf" y w
  have h1 := call15
  have h2 := guardF
  have h3 := ptr51
  have h4 := elem51
  go_enter Ybaf.func11, Ybaf.ntmps11
  go_wp2
  go_ret
  exact ⟨_, rfl, rfl⟩

/-- errors.New. -/
theorem new_any (s : ByteArray) (w : World) : Calls Ybaf.prog 13 #[.string s] w fun e w' => e = .returned (.iface 51 (.pointer (some ⟨w.heap.size, 0, none⟩))) ∧ w' = w.alloc (.cells #[.string s] 53) := by
  go_enter Ybaf.func13, Ybaf.ntmps13
  go_wp2
  go_ret
  exact ⟨rfl, rfl⟩
end Go.Proofs.YbulkaurcFmt
