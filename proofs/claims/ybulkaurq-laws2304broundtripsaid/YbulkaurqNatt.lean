import Derived.Test.YbulkaurqShelf
import Derived.WalkKit
import Derived.WalkSpells
import Derived.WalkLawsBesides
import Derived.Deep.QuietTactic
import Derived.BigQuiet
import Derived.Deep.RegionWith
import Derived.RegionTactic
namespace Go.Proofs.Ybulkaurq
open Go.RowKit

theorem below_new {w W : World} {o : Obj} (h : Below w.heap.size w W) : Below w.heap.size w (W.alloc o) := h.alloc h.size o
theorem below_then {w W W' : World} (h : Below w.heap.size w W) (k : Below W.heap.size W W') : Below w.heap.size w W' := h.trans (k.mono h.size)

/-- netip.AddrPortFrom(netip.Addr{}, port). -/
theorem apf_any (port : Int) (w : World) : Calls Yba.prog 6 #[.agg #[.int .u64 0, .int .u64 0, .pointer none], .int .u16 port] w fun e w' =>
    e = .returned (.agg #[.int .u64 0, .int .u64 0, .pointer none, .int .u16 port]) ∧ Below w.heap.size w w' := by
  go_enter Yba.func6, Yba.ntmps6
  go_wp2
  exact bodyPost_ret (v := .agg #[.int .u64 0, .int .u64 0, .pointer none, .int .u16 port]) (by simp [results, Yba.results6, go_sem]) rfl ⟨rfl, below_new (below_new (Below.refl _ _))⟩

/-- (netip.AddrPort).Port. -/
theorem port_any (port : Int) (w : World) : Calls Yba.prog 15 #[.agg #[.int .u64 0, .int .u64 0, .pointer none, .int .u16 port]] w fun e w' =>
    e = .returned (.int .u16 port) ∧ ∃ o, w' = w.alloc o := by
  go_enter Yba.func15, Yba.ntmps15
  go_wp2
  go_ret
  exact ⟨rfl, _, rfl⟩

theorem carries_short (ao : Option Addr) (n c : Nat) (w : World) (hn : n < 4) : Calls Yba.prog 16 #[.slice ao n c] w fun e w' => e = .returned (.bool false) ∧ Below w.heap.size w w' := by
  go_enter Yba.func16, Yba.ntmps16
  go_wp2
  go_ret
  exact ⟨rfl, Below.refl _ _⟩

/-- The marker: four bytes of zero. -/
def z4 (b0 b1 b2 b3 : UInt8) : Bool := b0 == 0 && (b1 == 0 && (b2 == 0 && b3 == 0))
theorem be_zero (b0 b1 b2 b3 : UInt8) : ((Lib.beNat [b0, b1, b2, b3] : Int) == 0) = z4 b0 b1 b2 b3 := by
  have h0 : (b0 = 0) ↔ b0.toNat = 0 := ⟨fun h => by rw [h]; rfl, fun h => UInt8.toNat_inj.1 h⟩
  have h1 : (b1 = 0) ↔ b1.toNat = 0 := ⟨fun h => by rw [h]; rfl, fun h => UInt8.toNat_inj.1 h⟩
  have h2 : (b2 = 0) ↔ b2.toNat = 0 := ⟨fun h => by rw [h]; rfl, fun h => UInt8.toNat_inj.1 h⟩
  have h3 : (b3 = 0) ↔ b3.toNat = 0 := ⟨fun h => by rw [h]; rfl, fun h => UInt8.toNat_inj.1 h⟩
  rw [Bool.eq_iff_iff]
  simp only [z4, beq_iff_eq, Bool.and_eq_true, h0, h1, h2, h3]
  simp [Lib.beNat, Lib.beFrom]
  omega

set_option maxHeartbeats 400000 in
theorem carries_at (g o n c : Nat) (b0 b1 b2 b3 : UInt8) (w : World) (hn : 4 ≤ n) (c0 : w.cell? ⟨g, o, none⟩ = some (.int .u8 b0.toNat)) (c1 : w.cell? ⟨g, o + 1, none⟩ = some (.int .u8 b1.toNat)) (c2 : w.cell? ⟨g, o + 2, none⟩ = some (.int .u8 b2.toNat)) (c3 : w.cell? ⟨g, o + 3, none⟩ = some (.int .u8 b3.toNat)) :
    Calls Yba.prog 16 #[.slice (some ⟨g, o, none⟩) n c] w fun e w' => e = .returned (.bool (z4 b0 b1 b2 b3)) ∧ Below w.heap.size w w' := by
  have hU : Hid (Calls Yba.prog 19 #[.agg #[], .slice (some ⟨g, o, none⟩) n c] w fun e w' => e = .returned (.int .u32 (Lib.beNat [b0, b1, b2, b3] : Nat)) ∧ Below w.heap.size w w') := Yba.binary_BE_Uint32 g o n c b0 b1 b2 b3 w hn c0 c1 c2 c3
  have hz := be_zero b0 b1 b2 b3
  generalize Lib.beNat [b0, b1, b2, b3] = m at hU hz
  generalize z4 b0 b1 b2 b3 = z at hz
  clear c0 c1 c2 c3
  go_enter Yba.func16, Yba.ntmps16
  go_wp2_with (go_at_call 19; refine hU.out.mono ?_; rintro e w' ⟨rfl, hb⟩)
  go_ret
  exact ⟨rfl, hb⟩

theorem zeros_short (ao : Option Addr) (n c : Nat) (w : World) (hn : n < 4) : Calls Yba.prog 9 #[.slice ao n c] w fun e w' => e = .returned (.bool false) ∧ w' = w := by
  go_enter Yba.func9, Yba.ntmps9
  go_wp2
  go_ret
  exact ⟨rfl, rfl⟩

theorem byte_eq (b : UInt8) : ((b.toNat : Int) == 0) = (b == 0) := by
  have h0 : (b = 0) ↔ b.toNat = 0 := ⟨fun h => by rw [h]; rfl, fun h => UInt8.toNat_inj.1 h⟩
  rw [Bool.eq_iff_iff]
  simp only [beq_iff_eq, h0]
  omega

set_option maxHeartbeats 400000 in
theorem zeros_at (g o n c : Nat) (b0 b1 b2 b3 : UInt8) (w : World) (hn : 4 ≤ n) (c0 : w.cell? ⟨g, o, none⟩ = some (.int .u8 b0.toNat)) (c1 : w.cell? ⟨g, o + 1, none⟩ = some (.int .u8 b1.toNat)) (c2 : w.cell? ⟨g, o + 2, none⟩ = some (.int .u8 b2.toNat)) (c3 : w.cell? ⟨g, o + 3, none⟩ = some (.int .u8 b3.toNat)) :
    Calls Yba.prog 9 #[.slice (some ⟨g, o, none⟩) n c] w fun e w' => e = .returned (.bool (z4 b0 b1 b2 b3)) ∧ w' = w := by
  have e0 := byte_eq b0
  have e1 := byte_eq b1
  have e2 := byte_eq b2
  have e3 := byte_eq b3
  unfold z4
  generalize (b0 == 0) = z0 at e0
  generalize (b1 == 0) = z1 at e1
  generalize (b2 == 0) = z2 at e2
  generalize (b3 == 0) = z3 at e3
  generalize (b0.toNat : Int) = x0 at c0 e0
  generalize (b1.toNat : Int) = x1 at c1 e1
  generalize (b2.toNat : Int) = x2 at c2 e2
  generalize (b3.toNat : Int) = x3 at c3 e3
  cases z0
  · go_enter Yba.func9, Yba.ntmps9
    go_wp2
    go_ret
    exact ⟨rfl, rfl⟩
  cases z1
  · go_enter Yba.func9, Yba.ntmps9
    go_wp2
    go_ret
    exact ⟨rfl, rfl⟩
  cases z2
  · go_enter Yba.func9, Yba.ntmps9
    go_wp2
    go_ret
    exact ⟨rfl, rfl⟩
  cases z3
  · go_enter Yba.func9, Yba.ntmps9
    go_wp2
    go_ret
    exact ⟨rfl, rfl⟩
  · go_enter Yba.func9, Yba.ntmps9
    go_wp2
    go_ret
    exact ⟨rfl, rfl⟩
end Go.Proofs.Ybulkaurq
