import Derived.Lib.Varint
import Derived.Lib.VarintDec
namespace Go.Proofs.YbulkaurcFmt
open Go.Lib

theorem toNat_u8 {x : Nat} (h : x < 256) : (x.toUInt8).toNat = x := by
  simp [Nat.toUInt8, Nat.mod_eq_of_lt h]

theorem from_enc (r : List UInt8) : ∀ (j i x acc : Nat), i + j = 9 → x < 2 ^ (1 + 7 * j) →
    uvarintFrom i acc (uvarint x ++ r) = (acc + x * 2 ^ (7 * i), (i : Int) + (uvarint x).length)
  | 0, i, x, acc, hi, hx => by
    have hx2 : x < 2 := by simpa using hx
    rw [uvarint_small (by omega)]
    have hb : (x.toUInt8).toNat = x := toNat_u8 (by omega)
    simp only [List.cons_append, List.nil_append, uvarintFrom, hb]
    rw [if_neg (by omega), if_pos (by omega), if_neg (by omega)]
    simp
  | j + 1, i, x, acc, hi, hx => by
    by_cases h : x < 128
    · rw [uvarint_small h]
      have hb : (x.toUInt8).toNat = x := toNat_u8 (by omega)
      simp only [List.cons_append, List.nil_append, uvarintFrom, hb]
      rw [if_neg (by omega), if_pos h, if_neg (by omega)]
      simp
    · rw [uvarint_big (by omega)]
      have hb : ((x % 128 + 128).toUInt8).toNat = x % 128 + 128 := toNat_u8 (by omega)
      simp only [List.cons_append, uvarintFrom, hb]
      rw [if_neg (by omega), if_neg (by omega)]
      have hx' : x / 128 < 2 ^ (1 + 7 * j) := by
        have e : 2 ^ (1 + 7 * (j + 1)) = 128 * 2 ^ (1 + 7 * j) := by
          rw [show 1 + 7 * (j + 1) = (1 + 7 * j) + 7 by omega, Nat.pow_add]; omega
        rw [e] at hx
        exact Nat.div_lt_of_lt_mul hx
      rw [from_enc r j (i + 1) (x / 128) _ (by omega) hx']
      have e : 2 ^ (7 * (i + 1)) = 128 * 2 ^ (7 * i) := by
        rw [show 7 * (i + 1) = 7 * i + 7 by omega, Nat.pow_add]; omega
      rw [e]
      have e2 : (x % 128 + 128) % 128 = x % 128 := by omega
      rw [e2]
      have e3 : x % 128 * 2 ^ (7 * i) + x / 128 * (128 * 2 ^ (7 * i)) = x * 2 ^ (7 * i) := by
        rw [← Nat.mul_assoc, ← Nat.add_mul]
        congr 1
        omega
      simp only [List.length_cons, Prod.mk.injEq]
      constructor
      · omega
      · omega

theorem dec_enc (x : Nat) (h : x < 18446744073709551616) (r : List UInt8) : uvarintDec (uvarint x ++ r) = (x, ((uvarint x).length : Int)) := by
  have := from_enc r 9 0 x 0 rfl (by simpa using h)
  unfold uvarintDec
  rw [this]
  simp

theorem last_ne : ∀ (k x : Nat), x < 128 ^ (k + 1) → x ≠ 0 → (uvarint x).getD ((uvarint x).length - 1) 0 ≠ 0
  | 0, x, h, h0 => by
    have h1 : x < 128 := by simpa using h
    rw [uvarint_small h1]
    intro he
    have := congrArg UInt8.toNat he
    simp only [List.length_cons, List.length_nil, Nat.zero_add, Nat.sub_self, List.getD_cons_zero] at this
    rw [toNat_u8 (by omega)] at this
    exact h0 this
  | k + 1, x, h, h0 => by
    by_cases hx : x < 128
    · rw [uvarint_small hx]
      intro he
      have := congrArg UInt8.toNat he
      simp only [List.length_cons, List.length_nil, Nat.zero_add, Nat.sub_self, List.getD_cons_zero] at this
      rw [toNat_u8 (by omega)] at this
      exact h0 this
    · rw [uvarint_big (by omega)]
      have hp := uvarint_pos (x / 128)
      have hl : ((x % 128 + 128).toUInt8 :: uvarint (x / 128)).length - 1 = ((uvarint (x / 128)).length - 1) + 1 := by
        simp only [List.length_cons]; omega
      rw [hl, List.getD_cons_succ]
      exact last_ne k (x / 128) (by rw [Nat.pow_succ] at h; exact Nat.div_lt_of_lt_mul (by rw [Nat.mul_comm]; exact h)) (by omega)

theorem from_pos : ∀ (l : List UInt8) (i acc : Nat), 0 < (uvarintFrom i acc l).2 → (i : Int) < (uvarintFrom i acc l).2 ∧ (uvarintFrom i acc l).2 ≤ (i : Int) + l.length
  | [], i, acc, h => by simp [uvarintFrom] at h
  | b :: r, i, acc, h => by
    simp only [uvarintFrom] at h ⊢
    split
    · rename_i h1; rw [if_pos h1] at h; dsimp only at h; omega
    · rename_i h1
      rw [if_neg h1] at h
      split
      · rename_i h2
        rw [if_pos h2] at h
        split
        · rename_i h3; rw [if_pos h3] at h; dsimp only at h; omega
        · simp only [List.length_cons]; omega
      · rename_i h2
        rw [if_neg h2] at h
        have := from_pos r _ _ h
        simp only [List.length_cons]
        omega

theorem from_app (t : List UInt8) : ∀ (l : List UInt8) (i acc : Nat), 0 < (uvarintFrom i acc l).2 → uvarintFrom i acc (l ++ t) = uvarintFrom i acc l
  | [], i, acc, h => by simp [uvarintFrom] at h
  | b :: r, i, acc, h => by
    simp only [List.cons_append, uvarintFrom] at h ⊢
    split
    · rfl
    · rename_i h1
      rw [if_neg h1] at h
      split
      · rfl
      · rename_i h2
        rw [if_neg h2] at h
        exact from_app t r _ _ h

def rd (l : List UInt8) : Option (Nat × List UInt8) :=
  if (uvarintDec l).2 ≤ 0 then none
  else if 9223372036854775807 < (uvarintDec l).1 then none
  else if 1 < (uvarintDec l).2 ∧ l.getD ((uvarintDec l).2.toNat - 1) 0 = 0 then none
  else some ((uvarintDec l).1, l.drop (uvarintDec l).2.toNat)

theorem rd_app {l r : List UInt8} {x : Nat} (t : List UInt8) (h : rd l = some (x, r)) : rd (l ++ t) = some (x, r ++ t) := by
  unfold rd at h ⊢
  split at h
  · cases h
  rename_i h1
  have hp : 0 < (uvarintDec l).2 := by omega
  have hb := from_pos l 0 0 hp
  have ha : uvarintDec (l ++ t) = uvarintDec l := from_app t l 0 0 hp
  have hb' : (uvarintDec l).2 ≤ l.length := by have := hb.2; unfold uvarintDec; omega
  rw [ha, if_neg h1]
  split at h
  · cases h
  rename_i h2
  rw [if_neg h2]
  have e : (l ++ t).getD ((uvarintDec l).2.toNat - 1) 0 = l.getD ((uvarintDec l).2.toNat - 1) 0 := by
    simp only [List.getD_eq_getElem?_getD]
    rw [List.getElem?_append_left (by omega)]
  rw [e]
  split at h
  · cases h
  rename_i h3
  rw [if_neg h3]
  simp only [Option.some.injEq, Prod.mk.injEq] at h ⊢
  refine ⟨h.1, ?_⟩
  rw [List.drop_append_of_le_length (by omega), h.2]

theorem rd_enc (x : Nat) (h : x < 9223372036854775808) (r : List UInt8) : rd (uvarint x ++ r) = some (x, r) := by
  have hp := uvarint_pos x
  unfold rd
  rw [dec_enc x (by omega) r]
  dsimp only
  rw [if_neg (by omega), if_neg (by omega)]
  rw [if_neg]
  · simp
  · rintro ⟨h1, h2⟩
    have hx : x ≠ 0 := by
      rintro rfl
      rw [uvarint_small (by omega)] at h1
      simp at h1
    refine last_ne 9 x (Nat.lt_of_lt_of_le h (by decide)) hx (Eq.trans ?_ h2)
    simp only [Int.toNat_natCast, List.getD_eq_getElem?_getD]
    rw [List.getElem?_append_left (by omega)]

theorem rd_enc_big (x : Nat) (h0 : 9223372036854775808 ≤ x) (h : x < 18446744073709551616) (r : List UInt8) : rd (uvarint x ++ r) = none := by
  have hp := uvarint_pos x
  unfold rd
  rw [dec_enc x h r]
  dsimp only
  rw [if_neg (by omega), if_pos (by omega)]

theorem rd_bd {l r : List UInt8} {x : Nat} (h : rd l = some (x, r)) : x ≤ 9223372036854775807 ∧ r.length ≤ l.length := by
  unfold rd at h
  split at h
  · cases h
  split at h
  · cases h
  split at h
  · cases h
  simp only [Option.some.injEq, Prod.mk.injEq] at h
  obtain ⟨rfl, rfl⟩ := h
  exact ⟨by omega, by simp only [List.length_drop]; omega⟩

def rf (l : List UInt8) : Option (List UInt8 × List UInt8) :=
  match rd l with
  | none => none
  | some (n, r) => if r.length < n then none else some (r.take n, r.drop n)

theorem rf_app {l s r : List UInt8} (t : List UInt8) (h : rf l = some (s, r)) : rf (l ++ t) = some (s, r ++ t) := by
  unfold rf at h ⊢
  cases hr : rd l with
  | none => rw [hr] at h; cases h
  | some p =>
    obtain ⟨n, q⟩ := p
    rw [hr] at h
    rw [rd_app t hr]
    dsimp only at h ⊢
    split at h
    · cases h
    rename_i h1
    simp only [Option.some.injEq, Prod.mk.injEq] at h
    rw [if_neg (by simp only [List.length_append]; omega), List.take_append_of_le_length (by omega), List.drop_append_of_le_length (by omega), h.1, h.2]

theorem rf_enc (s r : List UInt8) (h : s.length < 9223372036854775808) : rf (uvarint s.length ++ (s ++ r)) = some (s, r) := by
  unfold rf
  rw [rd_enc _ h]
  dsimp only
  rw [if_neg (by simp only [List.length_append]; omega)]
  simp

/-- The hello without the look at what is left. -/
def hello0 (l : List UInt8) : Option ((List UInt8 × Nat × Nat) × List UInt8) :=
  match rd l with
  | none => none
  | some (v, l1) =>
    if v ≠ 9 then none else
    match rf l1 with
    | none => none
    | some (s, l2) =>
      match rd l2 with
      | none => none
      | some (st, l3) =>
        if st = 0 then none else
        match rd l3 with
        | none => none
        | some (c, l4) => some ((s, st, c), l4)

def hello (l : List UInt8) : Option (List UInt8 × Nat × Nat × List UInt8) :=
  match hello0 l with
  | none => none
  | some ((s, st, c), r) => if r.length = 32 then some (s, st, c, r) else none

theorem hello0_app {l r : List UInt8} {x : List UInt8 × Nat × Nat} (t : List UInt8) (h : hello0 l = some (x, r)) : hello0 (l ++ t) = some (x, r ++ t) := by
  unfold hello0 at h ⊢
  cases h1 : rd l with
  | none => rw [h1] at h; cases h
  | some p =>
    obtain ⟨v, l1⟩ := p
    rw [h1] at h
    rw [rd_app t h1]
    dsimp only at h ⊢
    split at h
    · cases h
    rename_i hv
    rw [if_neg hv]
    cases h2 : rf l1 with
    | none => rw [h2] at h; cases h
    | some p =>
      obtain ⟨s, l2⟩ := p
      rw [h2] at h
      rw [rf_app t h2]
      dsimp only at h ⊢
      cases h3 : rd l2 with
      | none => rw [h3] at h; cases h
      | some p =>
        obtain ⟨st, l3⟩ := p
        rw [h3] at h
        rw [rd_app t h3]
        dsimp only at h ⊢
        split at h
        · cases h
        rename_i hs
        rw [if_neg hs]
        cases h4 : rd l3 with
        | none => rw [h4] at h; cases h
        | some p =>
          obtain ⟨c, l4⟩ := p
          rw [h4] at h
          rw [rd_app t h4]
          dsimp only at h ⊢
          simp only [Option.some.injEq, Prod.mk.injEq] at h ⊢
          exact ⟨h.1, by rw [h.2]⟩

/-- The encoding. -/
def enc (v : Nat) (node : List UInt8) (st c : Nat) (lay : List UInt8) : List UInt8 :=
  uvarint v ++ (uvarint node.length ++ (node ++ (uvarint st ++ (uvarint c ++ lay))))

theorem hello0_enc (node lay : List UInt8) (st c : Nat) (hn : node.length < 9223372036854775808) (hs : st < 9223372036854775808) (h0 : st ≠ 0) (hc : c < 9223372036854775808) :
    hello0 (enc 9 node st c lay) = some ((node, st, c), lay) := by
  unfold hello0 enc
  rw [rd_enc 9 (by omega)]
  dsimp only
  rw [if_neg (by omega), rf_enc node _ hn]
  dsimp only
  rw [rd_enc st hs]
  dsimp only
  rw [if_neg h0, rd_enc c hc]

theorem hello_enc (node lay : List UInt8) (st c : Nat) (hn : node.length < 9223372036854775808) (hs : st < 9223372036854775808) (h0 : st ≠ 0) (hc : c < 9223372036854775808) (hl : lay.length = 32) :
    hello (enc 9 node st c lay) = some (node, st, c, lay) := by
  unfold hello
  rw [hello0_enc node lay st c hn hs h0 hc]
  dsimp only
  rw [if_pos hl]

theorem hello_more (node lay t : List UInt8) (st c : Nat) (hn : node.length < 9223372036854775808) (hs : st < 9223372036854775808) (h0 : st ≠ 0) (hc : c < 9223372036854775808) (hl : lay.length = 32) (ht : t ≠ []) :
    hello (enc 9 node st c lay ++ t) = none := by
  unfold hello
  rw [hello0_app t (hello0_enc node lay st c hn hs h0 hc)]
  dsimp only
  have : 0 < t.length := List.length_pos_iff.2 ht
  rw [if_neg (by simp only [List.length_append]; omega)]

theorem hello_less (node lay : List UInt8) (st c m : Nat) (hn : node.length < 9223372036854775808) (hs : st < 9223372036854775808) (h0 : st ≠ 0) (hc : c < 9223372036854775808) (hl : lay.length = 32) (hm : m < (enc 9 node st c lay).length) :
    hello ((enc 9 node st c lay).take m) = none := by
  cases h : hello ((enc 9 node st c lay).take m) with
  | none => rfl
  | some p =>
    exfalso
    unfold hello at h
    cases h1 : hello0 ((enc 9 node st c lay).take m) with
    | none => rw [h1] at h; cases h
    | some q =>
      obtain ⟨x, r⟩ := q
      rw [h1] at h
      dsimp only at h
      split at h
      · rename_i hr
        have ha := hello0_app ((enc 9 node st c lay).drop m) h1
        rw [List.take_append_drop, hello0_enc node lay st c hn hs h0 hc] at ha
        simp only [Option.some.injEq, Prod.mk.injEq] at ha
        have := congrArg List.length ha.2
        simp only [List.length_append, List.length_drop] at this
        omega
      · cases h

theorem hello_ver (v : Nat) (node lay : List UInt8) (st c : Nat) (h : v ≠ 9) (hv : v < 18446744073709551616) : hello (enc v node st c lay) = none := by
  unfold hello hello0 enc
  by_cases hb : v < 9223372036854775808
  · rw [rd_enc v hb]
    dsimp only
    rw [if_pos h]
  · rw [rd_enc_big v (by omega) hv]

theorem hello_zero (node lay : List UInt8) (c : Nat) (hn : node.length < 9223372036854775808) : hello (enc 9 node 0 c lay) = none := by
  unfold hello hello0 enc
  rw [rd_enc 9 (by omega)]
  dsimp only
  rw [if_neg (by omega), rf_enc node _ hn]
  dsimp only
  rw [rd_enc 0 (by omega)]
  dsimp only
  rw [if_pos rfl]

theorem enc_len (v : Nat) (node lay : List UInt8) (st c : Nat) (hv : v < 18446744073709551616) (hn : node.length < 18446744073709551616) (hs : st < 18446744073709551616) (hc : c < 18446744073709551616) :
    lay.length + 4 ≤ (enc v node st c lay).length ∧ (enc v node st c lay).length ≤ node.length + lay.length + 40 := by
  unfold enc
  have a1 := uvarint_pos v
  have a2 := uvarint_pos node.length
  have a3 := uvarint_pos st
  have a4 := uvarint_pos c
  have b1 := uvarint_length64 hv
  have b2 := uvarint_length64 hn
  have b3 := uvarint_length64 hs
  have b4 := uvarint_length64 hc
  simp only [List.length_append]
  omega

end Go.Proofs.YbulkaurcFmt
