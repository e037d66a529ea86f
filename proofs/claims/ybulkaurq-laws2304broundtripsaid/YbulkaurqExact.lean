import Derived.Test.YbulkaurqUnframe
import Derived.Lib.SliceRun
import Derived.OwnWalk
namespace Go.Proofs.Ybulkaurq
open Go.RowKit

/-- The slice value '.slice ao n c' leads to the bytes l. -/
structure Dat (w : World) (ao : Option Addr) (n c : Nat) (l : List UInt8) : Prop where
  len : l.length = n
  room : n ≤ c
  nil : ao = none → n = 0 ∧ c = 0
  cells : 0 < n → ∃ g o, ao = some ⟨g, o, none⟩ ∧ ∀ i (hi : i < l.length), w.cell? ⟨g, o + i, none⟩ = some (.int .u8 (l[i]).toNat)

theorem Dat.below {w w' : World} {ao : Option Addr} {n c : Nat} {l : List UInt8} (h : Dat w ao n c l) (hb : Below w.heap.size w w') : Dat w' ao n c l := by
  refine ⟨h.len, h.room, h.nil, fun hn => ?_⟩
  obtain ⟨g, o, e, hc⟩ := h.cells hn
  refine ⟨g, o, e, fun i hi => ?_⟩
  have := hc i hi
  rw [hb.cell (p := ⟨g, o + i, none⟩) (World.block_lt_of_cell? w _ this)]
  exact this

theorem Dat.bytes {w : World} {ao : Option Addr} {n c : Nat} {l : List UInt8} (h : Dat w ao n c l) : Lib.BytesIn w ao n (l.map fun b => (b.toNat : Int)) := by
  intro hn
  obtain ⟨g, o, e, hc⟩ := h.cells hn
  refine ⟨g, o, e, fun i hi => ?_⟩
  have hi' : i < l.length := by rw [h.len]; exact hi
  rw [hc i hi']
  simp [hi']

theorem Dat.same {w : World} {ao ao' : Option Addr} {n c n' c' : Nat} {l : List UInt8} (h : Dat w ao n c l) (h' : Dat w ao' n' c' l) :
    Calls Yba.prog 8 #[.slice ao n c, .slice ao' n' c'] w fun e w' => e = .returned (.bool true) ∧ w' = w := by
  refine (Yba.bytes_Equal_all ao ao' n c n' c' _ _ w (by simpa using h.len) (by simpa using h'.len) h.bytes h'.bytes).mono ?_
  rintro e w' ⟨rfl, rfl⟩
  exact ⟨by simp, rfl⟩

theorem Dat.carries_no {w : World} {ao : Option Addr} {n c : Nat} {l : List UInt8} (_h : Dat w ao n c l) (hn : n < 4) : Carries w (.slice ao n c) false := fun W _ => carries_short ao n c W hn

theorem Dat.four {w : World} {ao : Option Addr} {n c : Nat} {l : List UInt8} (h : Dat w ao n c l) (hn : 4 ≤ n) : ∃ g o b0 b1 b2 b3 r, ao = some ⟨g, o, none⟩ ∧ l = b0 :: b1 :: b2 :: b3 :: r ∧
    w.cell? ⟨g, o, none⟩ = some (.int .u8 b0.toNat) ∧ w.cell? ⟨g, o + 1, none⟩ = some (.int .u8 b1.toNat) ∧ w.cell? ⟨g, o + 2, none⟩ = some (.int .u8 b2.toNat) ∧ w.cell? ⟨g, o + 3, none⟩ = some (.int .u8 b3.toNat) := by
  obtain ⟨g, o, e, hc⟩ := h.cells (by omega)
  have hl := h.len
  match l, hl, hc with
  | b0 :: b1 :: b2 :: b3 :: r, _, hc => exact ⟨g, o, b0, b1, b2, b3, r, e, rfl, hc 0 (by simp), hc 1 (by simp), hc 2 (by simp), hc 3 (by simp)⟩
  | [], hl, _ => simp at hl; omega
  | [_], hl, _ => simp at hl; omega
  | [_, _], hl, _ => simp at hl; omega
  | [_, _, _], hl, _ => simp at hl; omega

theorem carry_cell {w W : World} (hb : Below w.heap.size w W) {a : Addr} {v : Value} (h : w.cell? a = some v) : W.cell? a = some v := by
  rw [hb.cell (p := a) (World.block_lt_of_cell? w _ h)]
  exact h

theorem carries_of {w : World} {g o n c : Nat} {b0 b1 b2 b3 : UInt8} (hn : 4 ≤ n) (c0 : w.cell? ⟨g, o, none⟩ = some (.int .u8 b0.toNat)) (c1 : w.cell? ⟨g, o + 1, none⟩ = some (.int .u8 b1.toNat)) (c2 : w.cell? ⟨g, o + 2, none⟩ = some (.int .u8 b2.toNat)) (c3 : w.cell? ⟨g, o + 3, none⟩ = some (.int .u8 b3.toNat)) :
    Carries w (.slice (some ⟨g, o, none⟩) n c) (z4 b0 b1 b2 b3) := fun W hb => carries_at g o n c b0 b1 b2 b3 W hn (carry_cell hb c0) (carry_cell hb c1) (carry_cell hb c2) (carry_cell hb c3)

/-- Off port 4500, the payload as it came. -/
def Post (w : World) (e : Ending) (w' : World) : Prop := e = .returned (.bool true) ∧ Below w.heap.size w w'

theorem eql_nil (a : Option Addr) (n c : Nat) (w : World) : (binOp .eql 23 (.slice a n c) (.slice none 0 0)).run Yba.prog w = .ok (.bool a.isNone) w := Lib.run_eql_slice_nil w 23 5 a n c 0 0 Yba.underlying23

set_option maxHeartbeats 800000 in
theorem exact_other (port : Int) (ao : Option Addr) (n c : Nat) (l : List UInt8) (w : World) (hn : n ≤ 1024) (hd : Hid (Dat w ao n c l)) (hp : (port != 4500) = true) :
    Calls Yba.prog 3 #[.int .u16 port, .bool false, .bool false, .slice ao n c] w (Post w) := by
  have hen := eql_nil
  go_enter Yba.func3, Yba.ntmps3
  go_wp2_with fail
  refine (apf_any port _).mono ?_
  rintro e w1 ⟨rfl, hb1⟩
  have HB1 : Hid (Below w.heap.size w w1) := hb1
  clear hb1
  go_wp2_with fail
  refine (unf_other port 0 ao n c _ hp).mono ?_
  rintro e w2 ⟨rfl, hb2⟩
  have HB2 : Hid (Below w.heap.size w w2) := below_then (below_new HB1.out) hb2
  clear hb2
  have HD : Hid (Dat w2 ao n c l) := hd.out.below HB2.out
  go_wp2_with fail
  refine (HD.out.same HD.out).mono ?_
  rintro e w3 ⟨rfl, rfl⟩
  go_wp2
  go_ret
  exact ⟨rfl, HB2.out⟩
theorem neq_nil (a : Option Addr) (n c : Nat) (w : World) : (binOp .neq 23 (.slice a n c) (.slice none 0 0)).run Yba.prog w = .ok (.bool (!a.isNone)) w := run_neq_slice_nil_any w 23 5 a n c 0 0 Yba.underlying23

theorem Carries.below {w W : World} {v : Value} {z : Bool} (h : Carries w v z) (hb : Below w.heap.size w W) : Carries W v z := fun W' hb' => h W' (below_then hb hb')

/-- What zzs2304bzeros answers of v, in every world beyond w. -/
def Zeros (w : World) (v : Value) (z : Bool) : Prop := ∀ W, Below w.heap.size w W → Calls Yba.prog 9 #[v] W fun e w' => e = .returned (.bool z) ∧ w' = W
theorem zeros_of {w : World} {g o n c : Nat} {b0 b1 b2 b3 : UInt8} (hn : 4 ≤ n) (c0 : w.cell? ⟨g, o, none⟩ = some (.int .u8 b0.toNat)) (c1 : w.cell? ⟨g, o + 1, none⟩ = some (.int .u8 b1.toNat)) (c2 : w.cell? ⟨g, o + 2, none⟩ = some (.int .u8 b2.toNat)) (c3 : w.cell? ⟨g, o + 3, none⟩ = some (.int .u8 b3.toNat)) :
    Zeros w (.slice (some ⟨g, o, none⟩) n c) (z4 b0 b1 b2 b3) := fun W hb => zeros_at g o n c b0 b1 b2 b3 W hn (carry_cell hb c0) (carry_cell hb c1) (carry_cell hb c2) (carry_cell hb c3)

theorem Dat.tail {w : World} {g o n c : Nat} {l : List UInt8} (h : Dat w (some ⟨g, o, none⟩) n c l) (hn : 4 ≤ n) (o' : Nat) (ho : 4 < c → o' = o + 4) : Dat w (some ⟨g, o', none⟩) (n - 4) (c - 4) (l.drop 4) := by
  have hl := h.len
  have hr := h.room
  refine ⟨by simp; omega, by omega, fun e => by simp at e, fun h0 => ?_⟩
  obtain ⟨g1, o1, e, hc⟩ := h.cells (by omega)
  simp only [Option.some.injEq, Addr.mk.injEq, and_true] at e
  obtain ⟨rfl, rfl⟩ := e
  refine ⟨g, o', rfl, fun i hi => ?_⟩
  have hi' : 4 + i < l.length := by simp at hi; omega
  rw [ho (by omega), Nat.add_assoc, hc (4 + i) hi']
  simp

set_option maxHeartbeats 800000 in
theorem exact_no_natt (port : Int) (ao : Option Addr) (n c : Nat) (w : World) (hn : n ≤ 1024) (hC : Hid (Carries w (.slice ao n c) false)) (hZ : Hid (Zeros w (.slice ao n c) false)) :
    Calls Yba.prog 3 #[.int .u16 port, .bool true, .bool false, .slice ao n c] w (Post w) := by
  have hen := eql_nil
  have hnn := neq_nil
  go_enter Yba.func3, Yba.ntmps3
  go_wp2_with fail
  refine (apf_any 4500 _).mono ?_
  rintro e w1 ⟨rfl, hb1⟩
  have HB1 : Hid (Below w.heap.size w w1) := hb1
  clear hb1
  go_wp2_with fail
  refine (unf_no 0 ao n c _ (hC.out.below (below_new HB1.out))).mono ?_
  rintro e w2 ⟨rfl, hb2⟩
  have HB2 : Hid (Below w.heap.size w w2) := below_then (below_new HB1.out) hb2
  clear hb2
  go_wp2_with fail
  refine (hZ.out w2 HB2.out).mono ?_
  rintro e w3 ⟨rfl, rfl⟩
  go_wp2
  go_ret
  exact ⟨rfl, HB2.out⟩

set_option maxHeartbeats 800000 in
theorem exact_yes_natt (port : Int) (g o n c : Nat) (l : List UInt8) (w : World) (hn : n ≤ 1024) (h4 : 4 ≤ n) (hnc : n ≤ c) (hd : Hid (Dat w (some ⟨g, o, none⟩) n c l)) (hC : Hid (Carries w (.slice (some ⟨g, o, none⟩) n c) true)) (hZ : Hid (Zeros w (.slice (some ⟨g, o, none⟩) n c) true)) :
    Calls Yba.prog 3 #[.int .u16 port, .bool true, .bool false, .slice (some ⟨g, o, none⟩) n c] w (Post w) := by
  have hen := eql_nil
  have hnn := neq_nil
  go_enter Yba.func3, Yba.ntmps3
  go_wp2_with fail
  refine (apf_any 4500 _).mono ?_
  rintro e w1 ⟨rfl, hb1⟩
  have HB1 : Hid (Below w.heap.size w w1) := hb1
  clear hb1
  go_wp2_with fail
  refine (unf_yes 0 g o n c _ h4 (hC.out.below (below_new HB1.out))).mono ?_
  rintro e w2 ⟨o', c', rfl, hc', ho', ho2, hb2⟩
  have HB2 : Hid (Below w.heap.size w w2) := below_then (below_new HB1.out) hb2
  have HD : Hid (Dat w2 (some ⟨g, o, none⟩) n c l) := hd.out.below HB2.out
  have HT : Hid (Dat w2 (some ⟨g, o', none⟩) (n - 4) c' (l.drop 4)) := by
    rw [hc']
    exact HD.out.tail h4 o' ho'
  clear hb2 hc' ho' ho2
  go_wp2_with fail
  refine (hZ.out w2 HB2.out).mono ?_
  rintro e w3 ⟨rfl, rfl⟩
  by_cases hc4 : c = 4
  · subst hc4
    obtain rfl : n = 4 := by omega
    have HX : Hid (Dat w3 (some ⟨g, o, none⟩) 0 0 (l.drop 4)) := HD.out.tail h4 o (fun h => by omega)
    have HY : Hid (Dat w3 (some ⟨g, o', none⟩) 0 c' (l.drop 4)) := HT
    go_wp2_with fail
    refine (HY.out.same HX.out).mono ?_
    rintro e w4 ⟨rfl, rfl⟩
    go_wp2
    go_ret
    exact ⟨rfl, HB2.out⟩
  · have HX : Hid (Dat w3 (some ⟨g, o + 4, none⟩) (n - 4) (c - 4) (l.drop 4)) := HD.out.tail h4 (o + 4) (fun _ => rfl)
    go_wp2_with fail
    refine (HT.out.same HX.out).mono ?_
    rintro e w4 ⟨rfl, rfl⟩
    go_wp2
    go_ret
    exact ⟨rfl, HB2.out⟩

set_option maxHeartbeats 800000 in
theorem exact_no_port (ao : Option Addr) (n c : Nat) (w : World) (hn : n ≤ 1024) (hC : Hid (Carries w (.slice ao n c) false)) (hZ : Hid (Zeros w (.slice ao n c) false)) :
    Calls Yba.prog 3 #[.int .u16 4500, .bool false, .bool false, .slice ao n c] w (Post w) := by
  have hen := eql_nil
  have hnn := neq_nil
  go_enter Yba.func3, Yba.ntmps3
  go_wp2_with fail
  refine (apf_any 4500 _).mono ?_
  rintro e w1 ⟨rfl, hb1⟩
  have HB1 : Hid (Below w.heap.size w w1) := hb1
  clear hb1
  go_wp2_with fail
  refine (unf_no 0 ao n c _ (hC.out.below (below_new HB1.out))).mono ?_
  rintro e w2 ⟨rfl, hb2⟩
  have HB2 : Hid (Below w.heap.size w w2) := below_then (below_new HB1.out) hb2
  clear hb2
  go_wp2_with fail
  refine (hZ.out w2 HB2.out).mono ?_
  rintro e w3 ⟨rfl, rfl⟩
  go_wp2
  go_ret
  exact ⟨rfl, HB2.out⟩

set_option maxHeartbeats 800000 in
theorem exact_yes_port (g o n c : Nat) (l : List UInt8) (w : World) (hn : n ≤ 1024) (h4 : 4 ≤ n) (hnc : n ≤ c) (hd : Hid (Dat w (some ⟨g, o, none⟩) n c l)) (hC : Hid (Carries w (.slice (some ⟨g, o, none⟩) n c) true)) (hZ : Hid (Zeros w (.slice (some ⟨g, o, none⟩) n c) true)) :
    Calls Yba.prog 3 #[.int .u16 4500, .bool false, .bool false, .slice (some ⟨g, o, none⟩) n c] w (Post w) := by
  have hen := eql_nil
  have hnn := neq_nil
  go_enter Yba.func3, Yba.ntmps3
  go_wp2_with fail
  refine (apf_any 4500 _).mono ?_
  rintro e w1 ⟨rfl, hb1⟩
  have HB1 : Hid (Below w.heap.size w w1) := hb1
  clear hb1
  go_wp2_with fail
  refine (unf_yes 0 g o n c _ h4 (hC.out.below (below_new HB1.out))).mono ?_
  rintro e w2 ⟨o', c', rfl, hc', ho', ho2, hb2⟩
  have HB2 : Hid (Below w.heap.size w w2) := below_then (below_new HB1.out) hb2
  have HD : Hid (Dat w2 (some ⟨g, o, none⟩) n c l) := hd.out.below HB2.out
  have HT : Hid (Dat w2 (some ⟨g, o', none⟩) (n - 4) c' (l.drop 4)) := by
    rw [hc']
    exact HD.out.tail h4 o' ho'
  clear hb2 hc' ho' ho2
  go_wp2_with fail
  refine (hZ.out w2 HB2.out).mono ?_
  rintro e w3 ⟨rfl, rfl⟩
  by_cases hc4 : c = 4
  · subst hc4
    obtain rfl : n = 4 := by omega
    have HX : Hid (Dat w3 (some ⟨g, o, none⟩) 0 0 (l.drop 4)) := HD.out.tail h4 o (fun h => by omega)
    have HY : Hid (Dat w3 (some ⟨g, o', none⟩) 0 c' (l.drop 4)) := HT
    go_wp2_with fail
    refine (HY.out.same HX.out).mono ?_
    rintro e w4 ⟨rfl, rfl⟩
    go_wp2
    go_ret
    exact ⟨rfl, HB2.out⟩
  · have HX : Hid (Dat w3 (some ⟨g, o + 4, none⟩) (n - 4) (c - 4) (l.drop 4)) := HD.out.tail h4 (o + 4) (fun _ => rfl)
    go_wp2_with fail
    refine (HT.out.same HX.out).mono ?_
    rintro e w4 ⟨rfl, rfl⟩
    go_wp2
    go_ret
    exact ⟨rfl, HB2.out⟩

end Go.Proofs.Ybulkaurq
