import Derived.Test.YbulkaurcFmtField
import Derived.Deep.RegionWith
import Derived.RegionTactic
namespace Go.Proofs.YbulkaurcFmt
open Go.RowKit Go.Extern.Stop Go.Stop Go.Extern

theorem read_none {v : Value} {l : List UInt8} {w0 w : World} (hr : rd l = none) (h : Sl w0 v l) (hb : Below w0.heap.size w0 w) : Calls Ybaf.prog 10 #[v] w (Bad w) := by
  have := read_any v l w0 w h hb
  rw [hr] at this
  exact this
theorem read_some {v : Value} {l r : List UInt8} {x : Nat} {w0 w : World} (hr : rd l = some (x, r)) (h : Sl w0 v l) (hb : Below w0.heap.size w0 w) : Calls Ybaf.prog 10 #[v] w (ReadOk x r w0 w) := by
  have := read_any v l w0 w h hb
  rw [hr] at this
  exact this
theorem str_none {v : Value} {l : List UInt8} {w0 w : World} (hr : rf l = none) (h : Sl w0 v l) (hb : Below w0.heap.size w0 w) : Calls Ybaf.prog 12 #[v] w (BadS w) := by
  have := str_any v l w0 w h hb
  rw [hr] at this
  exact this
theorem str_some {v : Value} {l s r : List UInt8} {w0 w : World} (hr : rf l = some (s, r)) (h : Sl w0 v l) (hb : Below w0.heap.size w0 w) : Calls Ybaf.prog 12 #[v] w (StrOk s r w0 w) := by
  have := str_any v l w0 w h hb
  rw [hr] at this
  exact this
theorem Sl.ofAt {w : World} {g o c : Nat} {l : List UInt8} (h : At w g o c l) : Sl w (.slice (some ⟨g, o, none⟩) l.length c) l := .inr ⟨g, o, c, rfl, h⟩

theorem alloc_drewN (w : World) (n : Nat) (o : Obj) : (w.drewN n).alloc o = (w.alloc o).drewN n := rfl
theorem setCell_drewN (w : World) (n : Nat) (a : Addr) (v : Value) : (w.drewN n).setCell a v = (w.setCell a v).drewN n := rfl
attribute [local go_sem] alloc_drewN setCell_drewN

/-- It was refused. -/
def Refused (w : World) (e : Ending) (w' : World) : Prop :=
  ∃ x0 t x2 x3 a, e = .returned (.tuple #[.agg #[.int .i64 x0, .string t, .int .i64 x2, .int .i64 x3, .slice none 0 0], .iface 51 (.pointer (some a))]) ∧ Below w.heap.size w w'

end Go.Proofs.YbulkaurcFmt
