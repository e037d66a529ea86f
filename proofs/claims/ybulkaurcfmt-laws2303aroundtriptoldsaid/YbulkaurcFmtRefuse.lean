import Derived.Test.YbulkaurcFmtAny
namespace Go.Proofs.YbulkaurcFmt
open Go.RowKit Go.Extern.Stop Go.Stop Go.Extern

theorem At.boxed (w : World) (lay : List UInt8) (hl : lay.length = 32) : At (w.alloc (.cells (Lib.byteCells lay).toArray 23)) w.heap.size 0 32 lay := by
  refine ⟨by omega, by decide, fun j hj => ?_⟩
  rw [cell_of_row _ w.heap.size (0 + j) (Lib.byteCells lay).toArray 23 (0, 0) (heap_alloc_new w _)]
  simp [Lib.byteCells, hj]

set_option maxHeartbeats 1000000 in
theorem refuse_long (v s c mode : Int) (node : ByteArray) (lay : List UInt8) (w : World) (hn : 1024 < (node.size : Int)) :
    Calls Ybaf.prog 5 #[.int .u64 v, .string node, .int .u64 s, .int .u64 c, .int .u8 mode, .agg (Lib.byteCells lay).toArray] w fun e w' => e = .returned (.bool true) ∧ Below w.heap.size w w' := by
  go_enter Ybaf.func5, Ybaf.ntmps5
  go_wp2_with fail
  go_ret
  exact ⟨rfl, below_alloc (Below.refl _ _)⟩

theorem or_one (s : Nat) (hs : s < 18446744073709551616) : ∃ st : Nat, bits .or .u64 ((s : Int) / 2) 1 = (st : Int) ∧ st ≠ 0 ∧ st < 9223372036854775808 := by
  refine ⟨s / 2 ||| 1, ?_, ?_, ?_⟩
  · have h := (bits_nat .u64 64 (by decide) wraps_u64 (s / 2) 1 (by omega) (by decide)).2
    have e : ((s / 2 : Nat) : Int) = (s : Int) / 2 := by omega
    rw [e] at h
    exact h
  · have := @Nat.right_le_or (s / 2) 1
    omega
  · exact Nat.or_lt_two_pow (n := 63) (by omega) (by decide)
theorem half (c : Nat) (hc : c < 18446744073709551616) : ∃ cf : Nat, (c : Int) / 2 = (cf : Int) ∧ cf < 9223372036854775808 := ⟨c / 2, by omega, by omega⟩

/-- The encoding's call, whatever the world: at the boxed layout. -/
theorem enc_box (v st c : Nat) (node : ByteArray) (lay : List UInt8) (w : World) (hv : v < 18446744073709551616) (hn : node.size ≤ 1024) (hs : st < 18446744073709551616) (hc : c < 18446744073709551616) (hl : lay.length = 32) :
    Calls Ybaf.prog 6 #[.int .u64 (v : Int), .string node, .int .u64 (st : Int), .int .u64 (c : Int), .slice (some ⟨w.heap.size, 0, none⟩) 32 32] (w.alloc (.cells (Lib.byteCells lay).toArray 23)) fun e w' =>
      ∃ v' B, e = .returned v' ∧ w'.ownsRow B 5 1 v' (enc v node.data.toList st c lay).length (Lib.byteCells (enc v node.data.toList st c lay)) ∧ Below w.heap.size w w' := by
  refine (enc_any v st c node w.heap.size lay _ hv hn hs hc hl (At.boxed w lay hl)).mono ?_
  rintro e w' ⟨v', rfl, ho, hb⟩
  exact ⟨v', _, rfl, ho, (below_alloc (Below.refl _ _)).trans (hb.mono (by simp))⟩

set_option maxHeartbeats 1000000 in
theorem refuse_even (F : Interp) (v s c mode : Nat) (node : ByteArray) (lay : List UInt8) (w : World) (hF : F.answers w.tape) (hn : node.size ≤ 1024) (hl : Hid (lay.length = 32)) (hv : v < 18446744073709551616) (hs : s < 18446744073709551616) (hc : c < 18446744073709551616) (hm : (mode : Int) % 2 = 0)
    (h9 : ((v : Int) != 9) = true) :
    Calls Ybaf.prog 5 #[.int .u64 (v : Int), .string node, .int .u64 (s : Int), .int .u64 (c : Int), .int .u8 (mode : Int), .agg (Lib.byteCells lay).toArray] w fun e w' => e = .returned (.bool true) ∧ Below w.heap.size w w' := by
  obtain ⟨st, hst, hst0, hst1⟩ := or_one s hs
  obtain ⟨cf, hcf, hcf1⟩ := half c hc
  go_enter Ybaf.func5, Ybaf.ntmps5
  go_wp2_with fail
  refine (enc_box v st cf node lay w hv hn (by omega) (by omega) hl.out).mono ?_
  rintro e w1 ⟨v1, B, rfl, ho, hb⟩
  have hh : hello (enc v node.data.toList st cf lay) = none := hello_ver v _ _ _ _ (by simp at h9; omega) hv
  have R : Hid (Calls Ybaf.prog 7 #[v1] w1 (Refused w1)) := parse_refused F v1 _ w1 (by rw [hb.tape]; exact hF) (sl_owned ho) hh
  have HB : Hid (Below w.heap.size w w1) := hb
  clear ho hb hh
  go_wp2_with fail
  refine R.out.mono ?_
  rintro e w2 ⟨x0, t, x2, x3, a, rfl, hb2⟩
  have HB2 : Hid (Below w.heap.size w w2) := HB.out.trans (hb2.mono HB.out.size)
  clear hb2 HB R
  go_wp2
  go_ret
  exact ⟨rfl, below_alloc HB2.out⟩

set_option maxHeartbeats 1000000 in
theorem refuse_nine (s c mode : Nat) (node : ByteArray) (lay : List UInt8) (w : World) (hn : node.size ≤ 1024) (hl : Hid (lay.length = 32)) (hs : s < 18446744073709551616) (hc : c < 18446744073709551616) (hm : (mode : Int) % 2 = 0) :
    Calls Ybaf.prog 5 #[.int .u64 9, .string node, .int .u64 (s : Int), .int .u64 (c : Int), .int .u8 (mode : Int), .agg (Lib.byteCells lay).toArray] w fun e w' => e = .returned (.bool true) ∧ Below w.heap.size w w' := by
  obtain ⟨st, hst, hst0, hst1⟩ := or_one s hs
  obtain ⟨cf, hcf, hcf1⟩ := half c hc
  have en : node.data.toList.length = node.size := by rw [Array.length_toList]; rfl
  have hh : Hid (hello (enc 9 node.data.toList st cf lay) = some (node.data.toList, st, cf, lay)) := hello_enc _ _ _ _ (by omega) hst1 hst0 hcf1 hl.out
  clear en
  go_enter Ybaf.func5, Ybaf.ntmps5
  go_wp2_with fail
  refine (enc_box 9 st cf node lay w (by omega) hn (by omega) (by omega) hl.out).mono ?_
  rintro e w1 ⟨v1, B, rfl, ho, hb⟩
  have R : Hid (Calls Ybaf.prog 7 #[v1] w1 (Taken node.data.toList st cf lay w1)) := parse_taken v1 _ w1 (sl_owned ho) hh.out
  have HB : Hid (Below w.heap.size w w1) := hb
  clear ho hb hh
  go_wp2_with fail
  refine R.out.mono ?_
  rintro e w2 ⟨g, o, c, rfl, hA, hb2⟩
  have HB2 : Hid (Below w.heap.size w w2) := HB.out.trans (hb2.mono HB.out.size)
  clear hb2 HB R hA
  go_wp2
  go_ret
  exact ⟨rfl, below_alloc HB2.out⟩

set_option maxHeartbeats 1000000 in
theorem refuse_odd (F : Interp) (v s c mode : Nat) (node : ByteArray) (lay : List UInt8) (w : World) (hF : F.answers w.tape) (hn : node.size ≤ 1024) (hl : Hid (lay.length = 32)) (hc : c < 18446744073709551616) (hm : (mode : Int) % 2 = 1) :
    Calls Ybaf.prog 5 #[.int .u64 (v : Int), .string node, .int .u64 (s : Int), .int .u64 (c : Int), .int .u8 (mode : Int), .agg (Lib.byteCells lay).toArray] w fun e w' => e = .returned (.bool true) ∧ Below w.heap.size w w' := by
  obtain ⟨cf, hcf, hcf1⟩ := half c hc
  have en : node.data.toList.length = node.size := by rw [Array.length_toList]; rfl
  have hh : Hid (hello (enc 9 node.data.toList 0 cf lay) = none) := hello_zero _ _ _ (by omega)
  clear en
  go_enter Ybaf.func5, Ybaf.ntmps5
  go_wp2_with fail
  refine (enc_box 9 0 cf node lay w (by omega) hn (by omega) (by omega) hl.out).mono ?_
  rintro e w1 ⟨v1, B, rfl, ho, hb⟩
  have R : Hid (Calls Ybaf.prog 7 #[v1] w1 (Refused w1)) := parse_refused F v1 _ w1 (by rw [hb.tape]; exact hF) (sl_owned ho) hh.out
  have HB : Hid (Below w.heap.size w w1) := hb
  clear ho hb hh
  go_wp2_with fail
  refine R.out.mono ?_
  rintro e w2 ⟨x0, t, x2, x3, a, rfl, hb2⟩
  have HB2 : Hid (Below w.heap.size w w2) := HB.out.trans (hb2.mono HB.out.size)
  clear hb2 HB R
  go_wp2
  go_ret
  exact ⟨rfl, below_alloc HB2.out⟩

/-- wire.LawS2303ARefuse. -/
theorem refuse_walk (F : Interp) (v s c mode : Int) (node : ByteArray) (lay : List UInt8) (w : World) (hF : F.answers w.tape) (hl : lay.length = 32) (hv : 0 ≤ v ∧ v < 18446744073709551616) (hs : 0 ≤ s ∧ s < 18446744073709551616) (hc : 0 ≤ c ∧ c < 18446744073709551616) (hm : 0 ≤ mode) :
    Calls Ybaf.prog 5 #[.int .u64 v, .string node, .int .u64 s, .int .u64 c, .int .u8 mode, .agg (Lib.byteCells lay).toArray] w fun e w' => e = .returned (.bool true) ∧ Below w.heap.size w w' := by
  by_cases hn : node.size ≤ 1024
  · obtain ⟨v, rfl⟩ := Int.eq_ofNat_of_zero_le hv.1
    obtain ⟨s, rfl⟩ := Int.eq_ofNat_of_zero_le hs.1
    obtain ⟨c, rfl⟩ := Int.eq_ofNat_of_zero_le hc.1
    obtain ⟨mode, rfl⟩ := Int.eq_ofNat_of_zero_le hm
    by_cases he : (mode : Int) % 2 = 0
    · by_cases h9 : v = 9
      · subst h9
        exact refuse_nine s c mode node lay w hn hl (by omega) (by omega) he
      · exact refuse_even F v s c mode node lay w hF hn hl (by omega) (by omega) (by omega) he (by simp; omega)
    · exact refuse_odd F v s c mode node lay w hF hn hl (by omega) (by omega)
  · exact refuse_long v s c mode node lay w (by omega)
end Go.Proofs.YbulkaurcFmt
