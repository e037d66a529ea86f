import Derived.Test.YbulkaurcFmtRefuse
import Derived.Deep.QuietTactic
import Derived.BigQuiet
namespace Go.Proofs.YbulkaurcFmt
open Go.RowKit Go.Extern.Stop Go.Stop Go.Extern

set_option maxHeartbeats 1000000 in
theorem round_long (s c : Int) (node : ByteArray) (lay : List UInt8) (w : World) (hn : 1024 < (node.size : Int)) :
    Calls Ybaf.prog 3 #[.string node, .int .u64 s, .int .u64 c, .agg (Lib.byteCells lay).toArray] w fun e w' => e = .returned (.bool true) ∧ Below w.heap.size w w' := by
  go_enter Ybaf.func3, Ybaf.ntmps3
  go_wp2_with fail
  go_ret
  exact ⟨rfl, below_alloc (Below.refl _ _)⟩

theorem str_back (node : ByteArray) : (⟨node.data.toList.toArray⟩ : ByteArray) = node := rfl

theorem taken_eq {w : World} {lay : List UInt8} {node : ByteArray} {st cf : Nat} {e : Ending} {w' : World} (hl : lay.length = 32) (h : Taken node.data.toList st cf lay w e w') :
    ∃ g o c, e = .returned (.tuple #[.agg #[.int .i64 9, .string node, .int .i64 (st : Int), .int .i64 (cf : Int), .slice (some ⟨g, o, none⟩) 32 c], .nilIface]) ∧ At w g o c lay ∧ Below w.heap.size w w' := by
  obtain ⟨g, o, c, rfl, hA, hb⟩ := h
  exact ⟨g, o, c, by rw [hl], hA, hb⟩

theorem At.bytes {w : World} {g o c : Nat} {l : List UInt8} (h : At w g o c l) (hl : l.length = 32) : Lib.BytesIn w (some ⟨g, o, none⟩) 32 (l.map fun b => (b.toNat : Int)) := by
  refine fun _ => ⟨g, o, rfl, fun i hi => ?_⟩
  have hi' : i < l.length := by omega
  rw [h.cell i hi']
  simp [hi']

theorem equal_lay {w : World} {g o c g' o' c' : Nat} {l : List UInt8} (h : At w g o c l) (h' : At w g' o' c' l) (hl : l.length = 32) :
    Calls Ybaf.prog 8 #[.slice (some ⟨g, o, none⟩) 32 c, .slice (some ⟨g', o', none⟩) 32 c'] w fun e w' => e = .returned (.bool true) ∧ w' = w := by
  refine (Ybaf.bytes_Equal_all _ _ 32 c 32 c' _ _ w (by simpa using hl) (by simpa using hl) (h.bytes hl) (h'.bytes hl)).mono ?_
  rintro e w' ⟨rfl, rfl⟩
  exact ⟨by simp, rfl⟩

set_option maxHeartbeats 1000000 in
theorem round_some (s c st : Nat) (node : ByteArray) (lay : List UInt8) (w : World) (hn : node.size ≤ 1024) (hl : Hid (lay.length = 32)) (hc : c < 18446744073709551616) (hs2 : (s : Int) / 2 = (st : Int)) (hst0 : ((st : Int) == 0) = false) (hst1 : st < 9223372036854775808) :
    Calls Ybaf.prog 3 #[.string node, .int .u64 (s : Int), .int .u64 (c : Int), .agg (Lib.byteCells lay).toArray] w fun e w' => e = .returned (.bool true) ∧ Below w.heap.size w w' := by
  obtain ⟨cf, hcf, hcf1⟩ := half c hc
  have en : node.data.toList.length = node.size := by rw [Array.length_toList]; rfl
  have hh : Hid (hello (enc 9 node.data.toList st cf lay) = some (node.data.toList, st, cf, lay)) := hello_enc _ _ _ _ (by omega) hst1 (by simp at hst0; omega) hcf1 hl.out
  clear en
  go_enter Ybaf.func3, Ybaf.ntmps3
  go_wp2_with fail
  refine (enc_any 9 st cf node w.heap.size lay _ (by omega) hn (by omega) (by omega) hl.out (At.boxed w lay hl.out)).mono ?_
  rintro e w1 ⟨v1, rfl, ho, hb⟩
  have HB : Hid (Below w.heap.size w w1) := (below_alloc (Below.refl _ _)).trans (hb.mono (by simp))
  have HL : Hid (At w1 w.heap.size 0 32 lay) := (At.boxed w lay hl.out).below hb
  have R : Hid (Calls Ybaf.prog 7 #[v1] w1 (Taken node.data.toList st cf lay w1)) := parse_taken v1 _ w1 (sl_owned ho) hh.out
  clear ho hb hh
  go_wp2_with fail
  refine R.out.mono ?_
  rintro e w2 ht
  obtain ⟨g, o, cp, rfl, hA, hb2⟩ := taken_eq hl.out ht
  have HB2 : Hid (Below w.heap.size w w2) := HB.out.trans (hb2.mono HB.out.size)
  have HL2 : Hid (At w2 w.heap.size 0 32 lay) := HL.out.below hb2
  have HA2 : Hid (At w2 g o cp lay) := hA.below hb2
  clear ht hb2 HB R hA HL
  go_wp2_with fail
  go_quiet ((go_at_call 8; exact Calls.quiet_of_same (equal_lay (HA2.out.below (by repeat (first | exact Below.refl _ _ | apply Below.drew | apply below_alloc | apply below_draws))) (HL2.out.below (by repeat (first | exact Below.refl _ _ | apply Below.drew | apply below_alloc | apply below_draws))) hl.out)))
  go_wp2
  go_ret
  exact ⟨rfl, below_draws (below_alloc HB2.out)⟩
set_option maxHeartbeats 1000000 in
theorem round_one (s c : Nat) (node : ByteArray) (lay : List UInt8) (w : World) (hn : node.size ≤ 1024) (hl : Hid (lay.length = 32)) (hc : c < 18446744073709551616) (hs2 : (s : Int) / 2 = 0) :
    Calls Ybaf.prog 3 #[.string node, .int .u64 (s : Int), .int .u64 (c : Int), .agg (Lib.byteCells lay).toArray] w fun e w' => e = .returned (.bool true) ∧ Below w.heap.size w w' := by
  obtain ⟨cf, hcf, hcf1⟩ := half c hc
  have en : node.data.toList.length = node.size := by rw [Array.length_toList]; rfl
  have hh : Hid (hello (enc 9 node.data.toList 1 cf lay) = some (node.data.toList, 1, cf, lay)) := hello_enc _ _ _ _ (by omega) (by omega) (by omega) hcf1 hl.out
  clear en
  go_enter Ybaf.func3, Ybaf.ntmps3
  go_wp2_with fail
  refine (enc_any 9 1 cf node w.heap.size lay _ (by omega) hn (by omega) (by omega) hl.out (At.boxed w lay hl.out)).mono ?_
  rintro e w1 ⟨v1, rfl, ho, hb⟩
  have HB : Hid (Below w.heap.size w w1) := (below_alloc (Below.refl _ _)).trans (hb.mono (by simp))
  have HL : Hid (At w1 w.heap.size 0 32 lay) := (At.boxed w lay hl.out).below hb
  have R : Hid (Calls Ybaf.prog 7 #[v1] w1 (Taken node.data.toList 1 cf lay w1)) := parse_taken v1 _ w1 (sl_owned ho) hh.out
  clear ho hb hh
  go_wp2_with fail
  refine R.out.mono ?_
  rintro e w2 ht
  obtain ⟨g, o, cp, rfl, hA, hb2⟩ := taken_eq hl.out ht
  have HB2 : Hid (Below w.heap.size w w2) := HB.out.trans (hb2.mono HB.out.size)
  have HL2 : Hid (At w2 w.heap.size 0 32 lay) := HL.out.below hb2
  have HA2 : Hid (At w2 g o cp lay) := hA.below hb2
  clear ht hb2 HB R hA HL
  go_wp2_with fail
  go_quiet ((go_at_call 8; exact Calls.quiet_of_same (equal_lay (HA2.out.below (by repeat (first | exact Below.refl _ _ | apply Below.drew | apply below_alloc | apply below_draws))) (HL2.out.below (by repeat (first | exact Below.refl _ _ | apply Below.drew | apply below_alloc | apply below_draws))) hl.out)))
  go_wp2
  go_ret
  exact ⟨rfl, below_draws (below_alloc HB2.out)⟩

/-- wire.LawS2303ARoundTrip. -/
theorem round_walk (s c : Int) (node : ByteArray) (lay : List UInt8) (w : World) (hl : lay.length = 32) (hs : 0 ≤ s ∧ s < 18446744073709551616) (hc : 0 ≤ c ∧ c < 18446744073709551616) :
    Calls Ybaf.prog 3 #[.string node, .int .u64 s, .int .u64 c, .agg (Lib.byteCells lay).toArray] w fun e w' => e = .returned (.bool true) ∧ Below w.heap.size w w' := by
  by_cases hn : node.size ≤ 1024
  · obtain ⟨s, rfl⟩ := Int.eq_ofNat_of_zero_le hs.1
    obtain ⟨c, rfl⟩ := Int.eq_ofNat_of_zero_le hc.1
    by_cases h0 : (s : Int) / 2 = 0
    · exact round_one s c node lay w hn hl (by omega) h0
    · exact round_some s c (s / 2) node lay w hn hl (by omega) (by omega) (by simp; omega) (by omega)
  · exact round_long s c node lay w (by omega)
end Go.Proofs.YbulkaurcFmt
