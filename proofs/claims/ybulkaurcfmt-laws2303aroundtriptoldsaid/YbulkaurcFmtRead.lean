import Derived.Test.YbulkaurcFmtFmt
import Derived.Test.YbulkaurcFmtShelf
import Derived.Test.YbulkaurcFmtPlain
import Derived.WalkKit
import Derived.WalkSpells
import Derived.Deep.QuietTactic
import Derived.BigQuiet
namespace Go.Proofs.YbulkaurcFmt
open Go.RowKit Go.Extern.Stop Go.Stop Go.Extern

/-- What fails leaves. -/
def Bad (w : World) (e : Ending) (w' : World) : Prop :=
  ∃ s, e = .returned (.tuple #[.int .i64 0, .slice none 0 0, .iface 51 (.pointer (some ⟨w.heap.size, 0, none⟩))]) ∧ w' = w.alloc (.cells #[.string s] 53)

set_option maxHeartbeats 400000 in
theorem read_zero (ao : Option Addr) (n c x : Nat) (w : World) (hU : Hid (Calls Ybaf.prog 14 #[.slice ao n c] w fun e w' => e = .returned (.tuple #[.int .u64 x, .int .i64 0]) ∧ w' = w)) :
    Calls Ybaf.prog 10 #[.slice ao n c] w (Bad w) := by
  go_enter Ybaf.func10, Ybaf.ntmps10
  go_wp2_with (first | (go_at_call 14; refine hU.out.mono ?_; rintro e w' ⟨rfl, rfl⟩) | (go_at_call 13; refine (new_any _ _).mono ?_; rintro e w' ⟨rfl, rfl⟩))
  go_ret3
  exact ⟨_, rfl, rfl⟩

set_option maxHeartbeats 400000 in
theorem read_neg (ao : Option Addr) (n c x : Nat) (k : Int) (hk : k < 0) (w : World) (hU : Hid (Calls Ybaf.prog 14 #[.slice ao n c] w fun e w' => e = .returned (.tuple #[.int .u64 x, .int .i64 k]) ∧ w' = w)) :
    Calls Ybaf.prog 10 #[.slice ao n c] w (Bad w) := by
  go_enter Ybaf.func10, Ybaf.ntmps10
  go_wp2_with (first | (go_at_call 14; refine hU.out.mono ?_; rintro e w' ⟨rfl, rfl⟩) | (go_at_call 13; refine (new_any _ _).mono ?_; rintro e w' ⟨rfl, rfl⟩))
  go_ret3
  exact ⟨_, rfl, rfl⟩

set_option maxHeartbeats 400000 in
theorem read_large (ao : Option Addr) (n c : Nat) (x k : Int) (hk : 0 < k) (hx : 9223372036854775807 < x) (w : World) (hU : Hid (Calls Ybaf.prog 14 #[.slice ao n c] w fun e w' => e = .returned (.tuple #[.int .u64 x, .int .i64 k]) ∧ w' = w)) :
    Calls Ybaf.prog 10 #[.slice ao n c] w (Bad w) := by
  go_enter Ybaf.func10, Ybaf.ntmps10
  go_wp2_with (first | (go_at_call 14; refine hU.out.mono ?_; rintro e w' ⟨rfl, rfl⟩) | (go_at_call 13; refine (new_any _ _).mono ?_; rintro e w' ⟨rfl, rfl⟩))
  go_ret3
  exact ⟨_, rfl, rfl⟩

set_option maxHeartbeats 400000 in
theorem read_long (g o n c : Nat) (x : Int) (k : Nat) (hk : 1 < k) (hkn : k ≤ n) (hn : n ≤ 9223372036854775807) (hx : x ≤ 9223372036854775807) (w : World)
    (hc : w.cell? ⟨g, o + (k - 1), none⟩ = some (.int .u8 0)) (hU : Hid (Calls Ybaf.prog 14 #[.slice (some ⟨g, o, none⟩) n c] w fun e w' => e = .returned (.tuple #[.int .u64 x, .int .i64 k]) ∧ w' = w)) :
    Calls Ybaf.prog 10 #[.slice (some ⟨g, o, none⟩) n c] w (Bad w) := by
  go_enter Ybaf.func10, Ybaf.ntmps10
  go_wp2_with (first | (go_at_call 14; refine hU.out.mono ?_; rintro e w' ⟨rfl, rfl⟩) | (go_at_call 13; refine (new_any _ _).mono ?_; rintro e w' ⟨rfl, rfl⟩))
  go_ret3
  exact ⟨_, rfl, rfl⟩

/-- What goes well leaves. -/
def Good (g o n c : Nat) (x : Int) (k : Nat) (w : World) (e : Ending) (w' : World) : Prop :=
  ∃ o' c', e = .returned (.tuple #[.int .i64 x, .slice (some ⟨g, o', none⟩) (n - k) c', .nilIface]) ∧ c' = c - k ∧ (k < n → o' = o + k) ∧ ∃ q, w' = w.drewN q

set_option maxHeartbeats 400000 in
theorem read_one (g o n c : Nat) (x : Int) (hkn : 1 ≤ n) (hnc : n ≤ c) (hx0 : 0 ≤ x) (hx : x ≤ 9223372036854775807) (w : World)
    (hU : Hid (Calls Ybaf.prog 14 #[.slice (some ⟨g, o, none⟩) n c] w fun e w' => e = .returned (.tuple #[.int .u64 x, .int .i64 1]) ∧ w' = w)) :
    Calls Ybaf.prog 10 #[.slice (some ⟨g, o, none⟩) n c] w (Good g o n c x 1 w) := by
  go_enter Ybaf.func10, Ybaf.ntmps10
  go_wp2_with (first | (go_at_call 14; refine hU.out.mono ?_; rintro e w' ⟨rfl, rfl⟩) | (go_at_call 13; refine (new_any _ _).mono ?_; rintro e w' ⟨rfl, rfl⟩))
  go_quiet (fail)
  go_wp2
  all_goals
    go_ret3
    exact ⟨_, _, rfl, by omega, fun _ => by first | rfl | omega, _, rfl⟩

set_option maxHeartbeats 400000 in
theorem read_more (g o n c : Nat) (x z : Int) (k : Nat) (hk : 1 < k) (hkn : k ≤ n) (hnc : n ≤ c) (hn : c ≤ 9223372036854775807) (hx0 : 0 ≤ x) (hx : x ≤ 9223372036854775807) (w : World)
    (hc : w.cell? ⟨g, o + (k - 1), none⟩ = some (.int .u8 z)) (hz : (z == 0) = false)
    (hU : Hid (Calls Ybaf.prog 14 #[.slice (some ⟨g, o, none⟩) n c] w fun e w' => e = .returned (.tuple #[.int .u64 x, .int .i64 k]) ∧ w' = w)) :
    Calls Ybaf.prog 10 #[.slice (some ⟨g, o, none⟩) n c] w (Good g o n c x k w) := by
  go_enter Ybaf.func10, Ybaf.ntmps10
  go_wp2_with (first | (go_at_call 14; refine hU.out.mono ?_; rintro e w' ⟨rfl, rfl⟩) | (go_at_call 13; refine (new_any _ _).mono ?_; rintro e w' ⟨rfl, rfl⟩))
  go_quiet (fail)
  go_wp2
  all_goals
    go_ret3
    exact ⟨_, _, rfl, by omega, fun _ => by first | rfl | omega, _, rfl⟩

/-- The cells from ⟨g, o⟩ on, room for c of them, hold the bytes l. -/
structure At (w : World) (g o c : Nat) (l : List UInt8) : Prop where
  room : l.length ≤ c
  most : c ≤ 9223372036854775807
  cell : ∀ j (hj : j < l.length), w.cell? ⟨g, o + j, none⟩ = some (.int .u8 (l[j]).toNat)

/-- The slice value v leads to the bytes l. -/
def Sl (w : World) (v : Value) (l : List UInt8) : Prop :=
  (v = .slice none 0 0 ∧ l = []) ∨ ∃ g o c, v = .slice (some ⟨g, o, none⟩) l.length c ∧ At w g o c l

theorem At.upto {w w' : World} {g o c : Nat} {l : List UInt8} {B : Nat} (h : At w g o c l) (hB : w.heap.size ≤ B) (hb : ∀ a : Addr, a.block < B → w'.cell? a = w.cell? a) : At w' g o c l := by
  refine ⟨h.room, h.most, fun j hj => ?_⟩
  have := h.cell j hj
  rw [hb ⟨g, o + j, none⟩ (Nat.lt_of_lt_of_le (World.block_lt_of_cell? w _ this) hB)]
  exact this

theorem Sl.upto {w w' : World} {v : Value} {l : List UInt8} {B : Nat} (h : Sl w v l) (hB : w.heap.size ≤ B) (hb : ∀ a : Addr, a.block < B → w'.cell? a = w.cell? a) : Sl w' v l := by
  rcases h with h | ⟨g, o, c, rfl, h1⟩
  · exact .inl h
  · exact .inr ⟨g, o, c, rfl, h1.upto hB hb⟩

theorem At.below {w w' : World} {g o c : Nat} {l : List UInt8} (h : At w g o c l) (hb : Below w.heap.size w w') : At w' g o c l :=
  h.upto (Nat.le_refl _) fun a ha => hb.cell (p := a) ha

theorem Sl.below {w w' : World} {v : Value} {l : List UInt8} (h : Sl w v l) (hb : Below w.heap.size w w') : Sl w' v l :=
  h.upto (Nat.le_refl _) fun a ha => hb.cell (p := a) ha

theorem At.drop {w : World} {g o c : Nat} {l : List UInt8} (h : At w g o c l) (k o' : Nat) (ho : k < l.length → o' = o + k) : At w g o' (c - k) (l.drop k) := by
  have h1 := h.room
  have h2 := h.most
  refine ⟨by simp; omega, by omega, fun j hj => ?_⟩
  have hj' : k + j < l.length := by simp at hj; omega
  rw [ho (by omega), Nat.add_assoc, h.cell (k + j) hj']
  simp

theorem At.take {w : World} {g o c : Nat} {l : List UInt8} (h : At w g o c l) (k : Nat) : At w g o c (l.take k) := by
  have h1 := h.room
  have h2 := h.most
  refine ⟨by simp; omega, by omega, fun j hj => ?_⟩
  have hj' : j < l.length := by simp at hj; omega
  rw [h.cell j hj']
  simp

theorem world_drewN_below (w : World) (q : Nat) : Below w.heap.size w (w.drewN q) := ⟨rfl, rfl, rfl, Nat.le_refl _, fun _ _ => rfl⟩

/-- varint.Read by the plain function: an error, or the number and the rest. -/
theorem read_any (v : Value) (l : List UInt8) (w0 w : World) (h : Sl w0 v l) (hb : Below w0.heap.size w0 w) : Calls Ybaf.prog 10 #[v] w fun e w' =>
    match rd l with
    | none => Bad w e w'
    | some (x, r) => ∃ g o c q, e = .returned (.tuple #[.int .i64 (x : Int), .slice (some ⟨g, o, none⟩) r.length c, .nilIface]) ∧ At w0 g o c r ∧ w' = w.drewN q := by
  rcases h with ⟨rfl, rfl⟩ | ⟨g, o, c, rfl, hA⟩
  · have e : rd [] = none := by simp [rd, Lib.uvarintDec, Lib.uvarintFrom]
    rw [e]
    exact read_zero none 0 0 0 w (Ybaf.binary_Uvarint_empty none 0 w)
  obtain ⟨h1, h2, hc⟩ := hA.below hb
  have hU := Ybaf.binary_Uvarint g o l.length c l w rfl hc
  have hlt := Lib.uvarintDec_lt l
  have hpos : 0 < (Lib.uvarintDec l).2 → (Lib.uvarintDec l).2 ≤ (l.length : Int) := fun hp => by
    have := (from_pos l 0 0 hp).2
    unfold Lib.uvarintDec
    omega
  unfold rd
  generalize Lib.uvarintDec l = p at hU hlt hpos ⊢
  obtain ⟨x, k⟩ := p
  dsimp only at hU hlt hpos ⊢
  by_cases hk0 : k = 0
  · subst hk0
    rw [if_pos (by omega)]
    exact read_zero _ _ _ x w hU
  by_cases hkn : k < 0
  · rw [if_pos (by omega)]
    exact read_neg _ _ _ x k hkn w hU
  have hkp : 0 < k := by omega
  rw [if_neg (by omega)]
  by_cases hx : 9223372036854775807 < x
  · rw [if_pos hx]
    exact read_large _ _ _ x k hkp (by omega) w hU
  rw [if_neg hx]
  obtain ⟨m, rfl⟩ := Int.eq_ofNat_of_zero_le (show 0 ≤ k by omega)
  have hml := hpos hkp
  have fin : ∀ e w', Good g o l.length c x m w e w' → ∃ g o c q, e = .returned (.tuple #[.int .i64 (x : Int), .slice (some ⟨g, o, none⟩) (l.drop m).length c, .nilIface]) ∧ At w0 g o c (l.drop m) ∧ w' = w.drewN q := by
    rintro e w' ⟨o', c', rfl, rfl, ho, q, rfl⟩
    exact ⟨g, o', c - m, q, by simp, hA.drop m o' ho, rfl⟩
  by_cases hm1 : m = 1
  · subst hm1
    rw [if_neg (by omega)]
    refine (read_one g o l.length c x (by omega) h1 (by omega) (by omega) w hU).mono ?_
    simpa using fin
  · have hcm := hc (m - 1) (by omega)
    have eg : l.getD (m - 1) 0 = l[m - 1] := by simp [List.getD_eq_getElem?_getD, show m - 1 < l.length by omega]
    simp only [Int.toNat_natCast, eg]
    by_cases hz : l[m - 1] = 0
    · rw [if_pos ⟨by omega, hz⟩]
      rw [hz] at hcm
      exact read_long g o l.length c x m (by omega) (by omega) (by omega) (by omega) w hcm hU
    · rw [if_neg (fun h => hz h.2)]
      refine (read_more g o l.length c x _ m (by omega) (by omega) h1 h2 (by omega) (by omega) w hcm ?_ hU).mono fin
      simp only [beq_eq_false_iff_ne, ne_eq]
      intro h
      apply hz
      apply UInt8.toNat_inj.1
      simpa using h
end Go.Proofs.YbulkaurcFmt
