namespace Go.Proofs.Ybulkaurq

/-- One word of the bitmap anew. -/
def upd (bm : Nat → Nat) (i v : Nat) : Nat → Nat := fun j => if j = i then v else bm j

/-- The bit of q. -/
def has (bm : Nat → Nat) (q : Nat) : Bool := (bm (q / 64 % 5)).testBit (q % 64)

/-- (*replayWindow).check. -/
def checkP (top : Nat) (bm : Nat → Nat) (q : Nat) : Bool :=
  if q = 0 then false else if top < q then true else if 256 ≤ top - q then false else !(has bm q)

/-- The model. -/
def modelP (top : Nat) (seen : List Nat) (q : Nat) : Bool :=
  if q = 0 then false else if top < q then true else if 256 ≤ top - q then false else !(seen.contains q)

/-- The words from a on, n of them, cleared. -/
def clear (bm : Nat → Nat) (a : Nat) : Nat → (Nat → Nat)
  | 0 => bm
  | n + 1 => upd (clear bm a n) ((a + n) % 5) 0

/-- The bitmap once the window has moved to q. -/
def moved (top : Nat) (bm : Nat → Nat) (q : Nat) : Nat → Nat :=
  if top < q then (if 5 ≤ q / 64 - top / 64 then fun _ => 0 else clear bm (top / 64 + 1) (q / 64 - top / 64)) else bm

/-- The bit of q set. -/
def mark (bm : Nat → Nat) (q : Nat) : Nat → Nat := upd bm (q / 64 % 5) (bm (q / 64 % 5) ||| 2 ^ (q % 64))

def topP (top q : Nat) : Nat := if top < q then q else top

structure Inv (top : Nat) (bm : Nat → Nat) (seen : List Nat) : Prop where
  top_lt : top < 4294967296
  word_lt : ∀ i, bm i < 18446744073709551616
  le : ∀ x ∈ seen, x ≤ top
  bit : ∀ q, q / 64 ≤ top / 64 → top / 64 < q / 64 + 5 → (has bm q = true ↔ q ∈ seen)

theorem inv_start : Inv 0 (fun _ => 0) [] :=
  ⟨by decide, fun _ => by decide, fun x hx => by simp at hx, fun q _ _ => by simp [has]⟩

theorem check_model {top : Nat} {bm : Nat → Nat} {seen : List Nat} (h : Inv top bm seen) (q : Nat) : checkP top bm q = modelP top seen q := by
  unfold checkP modelP
  split
  · rfl
  split
  · rfl
  split
  · rfl
  have hb := h.bit q (by omega) (by omega)
  congr 1
  rw [Bool.eq_iff_iff, hb]
  simp

theorem clear_at (bm : Nat → Nat) (a : Nat) : ∀ (n i : Nat), (∃ k, k < n ∧ (a + k) % 5 = i) → clear bm a n i = 0
  | 0, i, h => by obtain ⟨k, hk, _⟩ := h; omega
  | n + 1, i, h => by
    unfold clear upd
    split
    · rfl
    · rename_i hne
      obtain ⟨k, hk, e⟩ := h
      refine clear_at bm a n i ⟨k, ?_, e⟩
      have : k ≠ n := by rintro rfl; exact hne e.symm
      omega

theorem clear_not (bm : Nat → Nat) (a : Nat) : ∀ (n i : Nat), (∀ k, k < n → (a + k) % 5 ≠ i) → clear bm a n i = bm i
  | 0, i, h => rfl
  | n + 1, i, h => by
    unfold clear upd
    rw [if_neg (fun e => h n (by omega) e.symm)]
    exact clear_not bm a n i (fun k hk => h k (by omega))

theorem clear_lt (bm : Nat → Nat) (a : Nat) (h : ∀ i, bm i < 18446744073709551616) : ∀ (n i : Nat), clear bm a n i < 18446744073709551616
  | 0, i => h i
  | n + 1, i => by
    unfold clear upd
    split
    · decide
    · exact clear_lt bm a h n i

/-- The window moved: nothing is lost, nothing is gained. -/
theorem moved_inv {top : Nat} {bm : Nat → Nat} {seen : List Nat} (h : Inv top bm seen) (q : Nat) (hq : q < 4294967296) : Inv (topP top q) (moved top bm q) seen := by
  unfold topP moved
  by_cases hlt : top < q
  · rw [if_pos hlt, if_pos hlt]
    by_cases hfar : 5 ≤ q / 64 - top / 64
    · rw [if_pos hfar]
      refine ⟨hq, fun _ => by decide, fun x hx => by have := h.le x hx; omega, fun p hp hp' => ?_⟩
      simp only [has, Nat.zero_testBit, Bool.false_eq_true, false_iff]
      intro hx
      have := h.le p hx
      omega
    · rw [if_neg hfar]
      refine ⟨hq, clear_lt bm _ h.word_lt _, fun x hx => by have := h.le x hx; omega, fun p hp hp' => ?_⟩
      by_cases hw : p / 64 ≤ top / 64
      · have hb := h.bit p hw (by omega)
        rw [← hb]
        unfold has
        rw [clear_not bm (top / 64 + 1) (q / 64 - top / 64) (p / 64 % 5) (fun k hk => by omega)]
      · unfold has
        rw [clear_at bm (top / 64 + 1) (q / 64 - top / 64) (p / 64 % 5) ⟨p / 64 - (top / 64 + 1), by omega, by congr 1; omega⟩]
        simp only [Nat.zero_testBit, Bool.false_eq_true, false_iff]
        intro hx
        have := h.le p hx
        omega
  · rw [if_neg hlt, if_neg hlt]
    exact h

/-- The bit set: q has been seen. -/
theorem mark_inv {top : Nat} {bm : Nat → Nat} {seen : List Nat} (h : Inv top bm seen) (q : Nat) (hq : q ≤ top) (hq' : top / 64 < q / 64 + 5) : Inv top (mark bm q) (seen ++ [q]) := by
  refine ⟨h.top_lt, fun i => ?_, fun x hx => ?_, fun p hp hp' => ?_⟩
  · unfold mark upd
    split
    · exact Nat.or_lt_two_pow (n := 64) (h.word_lt _) (Nat.pow_lt_pow_right (by decide) (by omega))
    · exact h.word_lt i
  · simp only [List.mem_append, List.mem_cons, List.not_mem_nil, or_false] at hx
    rcases hx with hx | rfl
    · exact h.le x hx
    · exact hq
  · have hb := h.bit p hp hp'
    simp only [List.mem_append, List.mem_cons, List.not_mem_nil, or_false]
    rw [← hb]
    unfold has mark upd
    by_cases hs : p / 64 % 5 = q / 64 % 5
    · rw [if_pos hs, Nat.testBit_or, Nat.testBit_two_pow, ← hs]
      have hw : p / 64 = q / 64 := by omega
      by_cases hbit : q % 64 = p % 64
      · have : p = q := by omega
        simp [hbit, this]
      · have : p ≠ q := by rintro rfl; exact hbit rfl
        simp [hbit, this]
    · rw [if_neg hs]
      have : p ≠ q := by rintro rfl; exact hs rfl
      simp [this]

/-- One step of the script. -/
theorem step_inv {top : Nat} {bm : Nat → Nat} {seen : List Nat} (h : Inv top bm seen) (q : Nat) (hq : q < 4294967296) (hc : checkP top bm q = true) :
    Inv (topP top q) (mark (moved top bm q) q) (seen ++ [q]) := by
  refine mark_inv (moved_inv h q hq) q ?_ ?_
  · unfold topP; split <;> omega
  · unfold topP
    split
    · omega
    · rename_i hle
      unfold checkP at hc
      split at hc
      · cases hc
      split at hc
      · cases hc
      omega
end Go.Proofs.Ybulkaurq
