import Derived.Test.YbulkaurcFmtParse
import Derived.Lib.AppendStr
namespace Go.Proofs.YbulkaurcFmt
open Go.RowKit Go.Extern.Stop Go.Stop Go.Extern

theorem info5 : (Ybaf.prog.info? 5).map (fun i => (i.zero, i.size, i.bytes)) = some (some (.int .u8 0), 1, 1) := by kernel_rfl

theorem grown_below {B : Nat} {a w w' : World} {row : Option Nat} (h : Below B a w) (hB : B ≤ a.heap.size) (hg : w.grownBy w' row) (hr : ∀ k, row = some k → B ≤ k) : Below B a w' :=
  h.grown hg (Nat.le_trans hB h.size) hr

theorem cells_one (l : List UInt8) : ∀ u ∈ Lib.byteCells l, u.oneCell' = true := by
  intro u hu
  simp only [Lib.byteCells, List.mem_map] at hu
  obtain ⟨b, _, rfl⟩ := hu
  rfl

theorem At.news {w : World} {g c : Nat} {l : List UInt8} (h : At w g 0 c l) : ∀ j u, (Lib.byteCells l)[j]? = some u → w.cell? ((⟨g, 0, none⟩ : Addr).add j) = some u := by
  intro j u hu
  have hj : j < l.length := by
    have := (List.getElem?_eq_some_iff.1 hu).1
    simpa [Lib.byteCells] using this
  have := h.cell j hj
  rw [Addr.add_lit]
  rw [this]
  simp [Lib.byteCells, hj] at hu
  rw [hu]

set_option maxHeartbeats 2000000 in
theorem enc_any (v st c : Nat) (node : ByteArray) (lb : Nat) (lay : List UInt8) (w : World) (hv : v < 18446744073709551616) (hn : node.size ≤ 1024) (hs : st < 18446744073709551616) (hc : c < 18446744073709551616) (hl : lay.length = 32)
    (hA : At w lb 0 32 lay) :
    Calls Ybaf.prog 6 #[.int .u64 (v : Int), .string node, .int .u64 (st : Int), .int .u64 (c : Int), .slice (some ⟨lb, 0, none⟩) 32 32] w fun e w' =>
      ∃ v', e = .returned v' ∧ w'.ownsRow w.heap.size 5 1 v' (enc v node.data.toList st c lay).length (Lib.byteCells (enc v node.data.toList st c lay)) ∧ Below w.heap.size w w' := by
  obtain ⟨i0, hi, hz0, hz1, hz2⟩ := info_parts info5
  have HA : Hid (At w lb 0 32 lay) := hA
  have HL : Hid (lay.length = 32) := hl
  clear hA hl
  have b1 := Lib.uvarint_length64 hv
  have b2 := Lib.uvarint_length64 (show node.size < 18446744073709551616 by omega)
  have b3 := Lib.uvarint_length64 hs
  have b4 := Lib.uvarint_length64 hc
  go_enter Ybaf.func6, Ybaf.ntmps6
  go_wp2_with fail
  refine (Ybaf.binary_AppendUvarint w.heap.size 0 v hv (.slice none 0 0) [] w (World.ownsRow_nil _ _ _ _) (Nat.le_refl _) (by omega)).mono ?_
  rintro e w1 ⟨v1, rfl, ho1, hb1⟩
  have H1 : Hid (w1.ownsRow w.heap.size 5 1 v1 (0 + (Lib.uvarint v).length) ([] ++ Lib.byteCells (Lib.uvarint v))) := ho1
  have HB1 : Hid (Below w.heap.size w w1) := hb1
  clear ho1 hb1
  go_wp2_with fail
  refine (Ybaf.binary_AppendUvarint w.heap.size _ node.size (by omega) v1 _ w1 H1.out HB1.out.size (by omega)).mono ?_
  rintro e w2 ⟨v2, rfl, ho2, hb2⟩
  have H2 : Hid (w2.ownsRow w.heap.size 5 1 v2 (0 + (Lib.uvarint v).length + (Lib.uvarint node.size).length) ([] ++ Lib.byteCells (Lib.uvarint v) ++ Lib.byteCells (Lib.uvarint node.size))) := ho2
  have HB2 : Hid (Below w.heap.size w w2) := HB1.out.trans hb2
  clear ho2 hb2 H1 HB1
  go_wp2_with (at_builtin; refine Lib.wpList_append_own_string _ rfl _ _ 25 9 rfl w.heap.size 5 i0 Ybaf.underlying25 Ybaf.underlying9 hi hz0 hz1 hz2 _ _ _ rfl H2.out node rfl (by unfold maxLen; omega) (by omega) HB2.out.size ?_)
  intro v3 w3 ho3 hg3 _
  have H3 : Hid (w3.ownsRow w.heap.size 5 1 v3 (0 + (Lib.uvarint v).length + (Lib.uvarint node.size).length + node.size) ([] ++ Lib.byteCells (Lib.uvarint v) ++ Lib.byteCells (Lib.uvarint node.size) ++ Lib.strCells node)) := by unfold Hid; simpa using ho3
  have HB3 : Hid (Below w.heap.size w w3) := grown_below HB2.out (Nat.le_refl _) hg3 (fun k hk => (H2.out.lt k hk).1)
  clear ho3 hg3 H2 HB2
  go_wp2_with fail
  refine (Ybaf.binary_AppendUvarint w.heap.size _ st hs v3 _ w3 H3.out HB3.out.size (by omega)).mono ?_
  rintro e w4 ⟨v4, rfl, ho4, hb4⟩
  have H4 : Hid (w4.ownsRow w.heap.size 5 1 v4 (0 + (Lib.uvarint v).length + (Lib.uvarint node.size).length + node.size + (Lib.uvarint st).length) ([] ++ Lib.byteCells (Lib.uvarint v) ++ Lib.byteCells (Lib.uvarint node.size) ++ Lib.strCells node ++ Lib.byteCells (Lib.uvarint st))) := ho4
  have HB4 : Hid (Below w.heap.size w w4) := HB3.out.trans hb4
  clear ho4 hb4 H3 HB3
  go_wp2_with fail
  refine (Ybaf.binary_AppendUvarint w.heap.size _ c hc v4 _ w4 H4.out HB4.out.size (by omega)).mono ?_
  rintro e w5 ⟨v5, rfl, ho5, hb5⟩
  have H5 : Hid (w5.ownsRow w.heap.size 5 1 v5 (0 + (Lib.uvarint v).length + (Lib.uvarint node.size).length + node.size + (Lib.uvarint st).length + (Lib.uvarint c).length) ([] ++ Lib.byteCells (Lib.uvarint v) ++ Lib.byteCells (Lib.uvarint node.size) ++ Lib.strCells node ++ Lib.byteCells (Lib.uvarint st) ++ Lib.byteCells (Lib.uvarint c))) := ho5
  have HB5 : Hid (Below w.heap.size w w5) := HB4.out.trans hb5
  clear ho5 hb5 H4 HB4
  have HA5 : Hid (At w5 lb 0 32 lay) := HA.out.below HB5.out
  go_wp2_with (at_builtin; refine wpList_append_own _ rfl _ _ 25 rfl w.heap.size 5 i0 (.int .u8 0) 1 1 Ybaf.underlying25 hi hz0 hz1 hz2 rfl (by decide) _ _ _ rfl H5.out ⟨lb, 0, none⟩ 32 32 (Lib.byteCells lay) rfl (by simp [Lib.byteCells, HL.out]) HA5.out.news (cells_one lay) (by unfold maxLen; omega) (by omega) HB5.out.size ?_)
  intro v6 w6 ho6 hg6 _
  have HB6 : Hid (Below w.heap.size w w6) := grown_below HB5.out (Nat.le_refl _) hg6 (fun k hk => (H5.out.lt k hk).1)
  have H6 : Hid (w6.ownsRow w.heap.size 5 1 v6 (enc v node.data.toList st c lay).length (Lib.byteCells (enc v node.data.toList st c lay))) := by
    unfold Hid
    have en : node.data.toList.length = node.size := by rw [Array.length_toList]; rfl
    have e1 : (enc v node.data.toList st c lay).length = (Lib.uvarint v).length + (Lib.uvarint node.size).length + node.size + (Lib.uvarint st).length + (Lib.uvarint c).length + 32 := by
      simp only [enc, List.length_append, en, HL.out]; omega
    have e2 : Lib.byteCells (enc v node.data.toList st c lay) = Lib.byteCells (Lib.uvarint v) ++ (Lib.byteCells (Lib.uvarint node.size) ++ (Lib.strCells node ++ (Lib.byteCells (Lib.uvarint st) ++ (Lib.byteCells (Lib.uvarint c) ++ Lib.byteCells lay)))) := by
      simp only [enc, Lib.byteCells, Lib.strCells, en, List.map_append]
    rw [e1, e2]
    exact ho6
  clear ho6 hg6 H5 HB5 HA5
  go_wp2
  go_ret
  exact ⟨_, rfl, H6.out, HB6.out⟩
end Go.Proofs.YbulkaurcFmt
