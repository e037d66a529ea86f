import Derived.Test.YbulkaurcFmtRefuse
namespace Go.Proofs.YbulkaurcFmt
open Go.RowKit Go.Extern.Stop Go.Stop Go.Extern

theorem enc_own (v st c : Nat) (node : ByteArray) (lay : List UInt8) (w : World) (hv : v < 18446744073709551616) (hn : node.size ≤ 1024) (hs : st < 18446744073709551616) (hc : c < 18446744073709551616) (hl : lay.length = 32) :
    Calls Ybaf.prog 6 #[.int .u64 (v : Int), .string node, .int .u64 (st : Int), .int .u64 (c : Int), .slice (some ⟨w.heap.size, 0, none⟩) 32 32] (w.alloc (.cells (Lib.byteCells lay).toArray 23)) fun e w' =>
      ∃ v', e = .returned v' ∧ w'.ownsRow (w.heap.size + 1) 5 1 v' (enc v node.data.toList st c lay).length (Lib.byteCells (enc v node.data.toList st c lay)) ∧ Below w.heap.size w w' ∧ w.heap.size + 1 ≤ w'.heap.size := by
  refine (enc_any v st c node w.heap.size lay _ hv hn hs hc hl (At.boxed w lay hl)).mono ?_
  rintro e w' ⟨v', rfl, ho, hb⟩
  exact ⟨v', rfl, by simpa using ho, (below_alloc (Below.refl _ _)).trans (hb.mono (by simp)), by simpa using hb.size⟩

set_option maxHeartbeats 1000000 in
theorem length_long (s c d : Int) (node : ByteArray) (lay : List UInt8) (w : World) (hn : 1024 < (node.size : Int)) :
    Calls Ybaf.prog 4 #[.string node, .int .u64 s, .int .u64 c, .agg (Lib.byteCells lay).toArray, .int .i8 d] w fun e w' => e = .returned (.bool true) ∧ Below w.heap.size w w' := by
  go_enter Ybaf.func4, Ybaf.ntmps4
  go_wp2_with fail
  go_ret
  exact ⟨rfl, below_alloc (Below.refl _ _)⟩

theorem sl_head {w : World} {g o c : Nat} {l : List UInt8} (h : At w g o c l) (m : Nat) (hm : m ≤ l.length) : Sl w (.slice (some ⟨g, o, none⟩) m c) (l.take m) := by
  have := h.take m
  have e : (l.take m).length = m := by simp [hm]
  refine .inr ⟨g, o, c, ?_, this⟩
  rw [e]

/-- What is owned and not empty lies at a block's head. -/
theorem own_at {w : World} {B : Nat} {v : Value} {l : List UInt8} (h : w.ownsRow B 5 1 v l.length (Lib.byteCells l)) (hl : 0 < l.length) : ∃ g c, v = .slice (some ⟨g, 0, none⟩) l.length c ∧ At w g 0 c l := by
  rcases sl_owned h with ⟨rfl, rfl⟩ | ⟨g, o, c, rfl, hA⟩
  · simp at hl
  · rcases h.2 with ⟨hv, h0⟩ | ⟨g', cap, cur, hv, _⟩
    · omega
    · simp only [Value.slice.injEq, Option.some.injEq, Addr.mk.injEq] at hv
      obtain ⟨⟨rfl, rfl, _⟩, _, rfl⟩ := hv
      exact ⟨g, c, rfl, hA⟩

set_option maxHeartbeats 1000000 in
/-- Cut short: k bytes, k no more than there are. -/
theorem length_neg (F : Interp) (s c k : Nat) (node : ByteArray) (lay : List UInt8) (w : World) (hF : F.answers w.tape) (hn : node.size ≤ 1024) (hl : Hid (lay.length = 32)) (hs : s < 18446744073709551616) (hc : c < 18446744073709551616) (hk : 0 < k) (hk' : k ≤ 128) :
    Calls Ybaf.prog 4 #[.string node, .int .u64 (s : Int), .int .u64 (c : Int), .agg (Lib.byteCells lay).toArray, .int .i8 (-(k : Int))] w fun e w' => e = .returned (.bool true) ∧ Below w.heap.size w w' := by
  obtain ⟨st, hst, hst0, hst1⟩ := or_one s hs
  obtain ⟨cf, hcf, hcf1⟩ := half c hc
  have en : node.data.toList.length = node.size := by rw [Array.length_toList]; rfl
  have el := enc_len 9 node.data.toList lay st cf (by omega) (by omega) (by omega) (by omega)
  have hless : Hid (∀ m, m < (enc 9 node.data.toList st cf lay).length → hello ((enc 9 node.data.toList st cf lay).take m) = none) := fun m hm => hello_less _ _ _ _ m (by omega) hst1 hst0 hcf1 hl.out hm
  rw [hl.out, en] at el
  clear en
  go_enter Ybaf.func4, Ybaf.ntmps4
  go_wp2_with fail
  refine (enc_own 9 st cf node lay w (by omega) hn (by omega) (by omega) hl.out).mono ?_
  rintro e w1 ⟨v1, rfl, ho, hb, hz⟩
  obtain ⟨g, cp, rfl, hA⟩ := own_at ho (by omega)
  have HA : Hid (At w1 g 0 cp (enc 9 node.data.toList st cf lay)) := hA
  have hroom := hA.room
  have HB : Hid (Below w.heap.size w w1) := hb
  clear ho hb hA hz
  generalize (enc 9 node.data.toList st cf lay) = E at HA hroom hless el
  by_cases hkE : k ≤ E.length
  · have R : Hid (Calls Ybaf.prog 7 #[.slice (some ⟨g, 0, none⟩) (E.length - k) cp] w1 (Refused w1)) := parse_refused F _ _ w1 (by rw [HB.out.tape]; exact hF) (sl_head HA.out (E.length - k) (by omega)) (hless.out _ (by omega))
    go_wp2_with fail
    refine R.out.mono ?_
    rintro e w2 ⟨x0, t, x2, x3, a, rfl, hb2⟩
    have HB2 : Hid (Below w.heap.size w w2) := HB.out.trans (hb2.mono HB.out.size)
    have hd : ((-(k : Int)) == 0) = false := by simp; omega
    clear hb2 HB R
    go_wp2
    go_ret
    exact ⟨rfl, below_alloc HB2.out⟩
  · have R : Hid (Calls Ybaf.prog 7 #[.slice (some ⟨g, 0, none⟩) 0 cp] w1 (Refused w1)) := parse_refused F _ _ w1 (by rw [HB.out.tape]; exact hF) (sl_head HA.out 0 (by omega)) (hless.out _ (by omega))
    go_wp2_with fail
    refine R.out.mono ?_
    rintro e w2 ⟨x0, t, x2, x3, a, rfl, hb2⟩
    have HB2 : Hid (Below w.heap.size w w2) := HB.out.trans (hb2.mono HB.out.size)
    have hd : ((-(k : Int)) == 0) = false := by simp; omega
    clear hb2 HB R
    go_wp2
    go_ret
    exact ⟨rfl, below_alloc HB2.out⟩

/-- What is added behind. -/
def tl (k : Nat) : List UInt8 := (List.range k).map Nat.toUInt8
theorem tl_length (k : Nat) : (tl k).length = k := by simp [tl]
theorem tl_succ (k : Nat) : tl (k + 1) = tl k ++ [k.toUInt8] := by simp [tl, List.range_succ]
theorem cells_snoc (E : List UInt8) (k : Nat) (hk : k < 256) : Lib.byteCells (E ++ tl k) ++ [.int .u8 (k : Int)] = Lib.byteCells (E ++ tl (k + 1)) := by
  rw [tl_succ, ← List.append_assoc]
  simp only [Lib.byteCells, List.map_append, List.map_cons, List.map_nil]
  rw [toNat_u8 hk]

set_option maxHeartbeats 1000000 in
/-- Bytes added. -/
theorem length_pos (F : Interp) (s c d : Nat) (node : ByteArray) (lay : List UInt8) (w : World) (hF : F.answers w.tape) (hn : node.size ≤ 1024) (hl : Hid (lay.length = 32)) (hs : s < 18446744073709551616) (hc : c < 18446744073709551616) (hd' : d ≤ 127) :
    Calls Ybaf.prog 4 #[.string node, .int .u64 (s : Int), .int .u64 (c : Int), .agg (Lib.byteCells lay).toArray, .int .i8 (d : Int)] w fun e w' => e = .returned (.bool true) ∧ Below w.heap.size w w' := by
  obtain ⟨i0, hi, hz0, hz1, hz2⟩ := info_parts info5
  obtain ⟨st, hst, hst0, hst1⟩ := or_one s hs
  obtain ⟨cf, hcf, hcf1⟩ := half c hc
  have en : node.data.toList.length = node.size := by rw [Array.length_toList]; rfl
  have el := enc_len 9 node.data.toList lay st cf (by omega) (by omega) (by omega) (by omega)
  have hmore : Hid (0 < d → hello (enc 9 node.data.toList st cf lay ++ tl d) = none) := fun h => hello_more _ _ _ _ _ (by omega) hst1 hst0 hcf1 hl.out (fun e => by have := tl_length d; rw [e] at this; simp at this; omega)
  have hsame : Hid (hello (enc 9 node.data.toList st cf lay) = some (node.data.toList, st, cf, lay)) := hello_enc _ _ _ _ (by omega) hst1 hst0 hcf1 hl.out
  rw [hl.out, en] at el
  clear en
  go_enter Ybaf.func4, Ybaf.ntmps4
  go_wp2_with fail
  refine (enc_own 9 st cf node lay w (by omega) hn (by omega) (by omega) hl.out).mono ?_
  rintro e w1 ⟨v1, rfl, ho, hb, hz⟩
  generalize (enc 9 node.data.toList st cf lay) = E at ho hmore hsame el
  have HO : Hid (w1.ownsRow (w.heap.size + 1) 5 1 v1 (E.length + 0) (Lib.byteCells (E ++ tl 0))) := by unfold Hid; simpa [tl] using ho
  have HB : Hid (Below w.heap.size w w1) := hb
  have HZ : Hid (w.heap.size + 1 ≤ w1.heap.size) := hz
  clear ho hb hz
  go_wp2_with fail
  go_loopw [14, 17] (fun v i wr => ∃ k : Nat, k ≤ d ∧ i = .int .i64 k ∧ Hid (wr.ownsRow (w.heap.size + 1) 5 1 v (E.length + k) (Lib.byteCells (E ++ tl k))) ∧ Hid (Below w.heap.size w wr) ∧ Hid (w.heap.size + 1 ≤ wr.heap.size))
    (fun _ i _ => d - (intOf i).toNat)
  case atStart => exact ⟨0, Nat.zero_le _, rfl, HO, HB, HZ⟩
  case round =>
    obtain ⟨k, hk, rfl, hown, hbel, hsz⟩ := hrel
    by_cases hlt : k < d
    · go_wp2_with (at_builtin; refine wpList_append_own _ rfl _ _ 25 rfl (w.heap.size + 1) 5 i0 (.int .u8 0) 1 1 Ybaf.underlying25 hi hz0 hz1 hz2 rfl (by decide) _ _ _ rfl (hown.out.alloc _) ⟨wr.heap.size, 0, none⟩ 1 1 [.int .u8 (k : Int)] rfl rfl ?c1 ?c2 ?c3 ?c4 ?c5 ?_)
      case c1 => exact cell_one_new _ _ _
      case c2 => intro u hu; simp at hu; subst hu; rfl
      case c3 => unfold maxLen; omega
      case c4 => omega
      case c5 => have := hsz.out; simp; omega
      intro v' w2 hown' hgrow _
      have R1 : Hid (w2.ownsRow (w.heap.size + 1) 5 1 v' (E.length + (k + 1)) (Lib.byteCells (E ++ tl (k + 1)))) := by
        unfold Hid
        rw [← cells_snoc E k (by omega)]
        exact hown'
      have R2 : Hid (Below w.heap.size w w2) := grown_below (below_alloc hbel.out) (Nat.le_refl _) hgrow (fun j hj => by have := (hown.out.lt j hj).1; omega)
      have R3 : Hid (w.heap.size + 1 ≤ w2.heap.size) := by unfold Hid; have q1 := hgrow.size; have q2 := hsz.out; simp at q1; omega
      clear hown' hgrow hown hbel hsz
      go_wp2
      go_roundw
      case rel => exact ⟨k + 1, by omega, by go_num, R1, R2, R3⟩
      case measure => simp [intOf]; omega
    · have hkd : k = d := by omega
      subst hkd
      have el2 : (E ++ tl k).length = E.length + k := by rw [List.length_append, tl_length]
      rw [← el2] at hown
      clear el2
      by_cases h0 : k = 0
      · subst h0
        have e0 : E ++ tl 0 = E := by simp [tl]
        rw [e0] at hown
        have R : Hid (Calls Ybaf.prog 7 #[u14] wr (Taken node.data.toList st cf lay wr)) := parse_taken _ _ wr (sl_owned hown.out) hsame.out
        clear e0 hown
        go_wp2_with fail
        refine R.out.mono ?_
        rintro e w2 ⟨g, o, c, rfl, hA, hb2⟩
        have HB2 : Hid (Below w.heap.size w w2) := hbel.out.trans (hb2.mono hbel.out.size)
        clear hb2 hbel R hA
        go_wp2
        go_ret
        exact ⟨rfl, below_alloc HB2.out⟩
      · have R : Hid (Calls Ybaf.prog 7 #[u14] wr (Refused wr)) := parse_refused F _ _ wr (by rw [hbel.out.tape]; exact hF) (sl_owned hown.out) (hmore.out (by omega))
        have hd : ((k : Int) == 0) = false := by simp; omega
        clear hown
        go_wp2_with fail
        refine R.out.mono ?_
        rintro e w2 ⟨x0, t, x2, x3, a, rfl, hb2⟩
        have HB2 : Hid (Below w.heap.size w w2) := hbel.out.trans (hb2.mono hbel.out.size)
        clear hb2 hbel R
        go_wp2
        go_ret
        exact ⟨rfl, below_alloc HB2.out⟩

/-- wire.LawS2303ALength. -/
theorem length_walk (F : Interp) (s c d : Int) (node : ByteArray) (lay : List UInt8) (w : World) (hF : F.answers w.tape) (hl : lay.length = 32) (hs : 0 ≤ s ∧ s < 18446744073709551616) (hc : 0 ≤ c ∧ c < 18446744073709551616) (hd : -128 ≤ d ∧ d ≤ 127) :
    Calls Ybaf.prog 4 #[.string node, .int .u64 s, .int .u64 c, .agg (Lib.byteCells lay).toArray, .int .i8 d] w fun e w' => e = .returned (.bool true) ∧ Below w.heap.size w w' := by
  by_cases hn : node.size ≤ 1024
  · obtain ⟨s, rfl⟩ := Int.eq_ofNat_of_zero_le hs.1
    obtain ⟨c, rfl⟩ := Int.eq_ofNat_of_zero_le hc.1
    by_cases h0 : 0 ≤ d
    · obtain ⟨d, rfl⟩ := Int.eq_ofNat_of_zero_le h0
      exact length_pos F s c d node lay w hF hn hl (by omega) (by omega) (by omega)
    · obtain ⟨k, hk⟩ := Int.eq_ofNat_of_zero_le (show 0 ≤ -d by omega)
      obtain rfl : d = -(k : Int) := by omega
      exact length_neg F s c k node lay w hF hn hl (by omega) (by omega) (by omega) (by omega)
  · exact length_long s c d node lay w (by omega)
end Go.Proofs.YbulkaurcFmt
