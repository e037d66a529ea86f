import Derived.Test.YbulkaurcFmtRead
import Derived.WalkSmall
namespace Go.Proofs.YbulkaurcFmt
open Go.RowKit Go.Extern.Stop Go.Stop Go.Extern

theorem below_alloc {w W : World} {o : Obj} (h : Below w.heap.size w W) : Below w.heap.size w (W.alloc o) := h.alloc h.size o
theorem below_draws {w W : World} {q : Nat} (h : Below w.heap.size w W) : Below w.heap.size w (W.drewN q) := h.trans ⟨rfl, rfl, rfl, Nat.le_refl _, fun _ _ => rfl⟩
def BadF (w : World) (e : Ending) (w' : World) : Prop :=
  ∃ s q, e = .returned (.tuple #[.slice none 0 0, .slice none 0 0, .iface 51 (.pointer (some ⟨w.heap.size, 0, none⟩))]) ∧ w' = (w.alloc (.cells #[.string s] 53)).drewN q

/-- What Read leaves where it goes well. -/
def ReadOk (x : Nat) (r : List UInt8) (w0 w : World) (e : Ending) (w' : World) : Prop :=
  ∃ g o c q, e = .returned (.tuple #[.int .i64 (x : Int), .slice (some ⟨g, o, none⟩) r.length c, .nilIface]) ∧ At w0 g o c r ∧ w' = w.drewN q

set_option maxHeartbeats 400000 in
theorem field_bad (v : Value) (w : World) (hU : Hid (Calls Ybaf.prog 10 #[v] w (Bad w))) :
    Calls Ybaf.prog 16 #[v] w (BadF w) := by
  go_enter Ybaf.func16, Ybaf.ntmps16
  go_wp2_with (first | (go_at_call 10; refine hU.out.mono ?_; rintro e w' ⟨s, rfl, rfl⟩))
  go_ret3
  exact ⟨_, 0, rfl, rfl⟩

set_option maxHeartbeats 400000 in
theorem field_short (v : Value) (x : Nat) (r : List UInt8) (hn : r.length < x) (w0 w : World) (hU : Hid (Calls Ybaf.prog 10 #[v] w (ReadOk x r w0 w))) :
    Calls Ybaf.prog 16 #[v] w (BadF w) := by
  go_enter Ybaf.func16, Ybaf.ntmps16
  go_wp2_with (first | (go_at_call 10; refine hU.out.mono ?_; rintro e w' ⟨g, o, c, q, rfl, hA, rfl⟩) | (go_at_call 13; refine (new_any _ _).mono ?_; rintro e w' ⟨rfl, rfl⟩))
  go_ret3
  exact ⟨_, q, rfl, rfl⟩

/-- What readField leaves where it goes well. -/
def FieldOk (s r : List UInt8) (w0 w : World) (e : Ending) (w' : World) : Prop :=
  ∃ g o c o' c' q, e = .returned (.tuple #[.slice (some ⟨g, o, none⟩) s.length c, .slice (some ⟨g, o', none⟩) r.length c', .nilIface]) ∧ At w0 g o c s ∧ At w0 g o' c' r ∧ w' = w.drewN q

set_option maxHeartbeats 400000 in
theorem field_ok (v : Value) (k : Nat) (r : List UInt8) (hk : k ≤ r.length) (w0 w : World)
    (hU : Hid (Calls Ybaf.prog 10 #[v] w (ReadOk k r w0 w))) :
    Calls Ybaf.prog 16 #[v] w (FieldOk (r.take k) (r.drop k) w0 w) := by
  have E1 : Hid ((r.take k).length = k) := by unfold Hid; simp [hk]
  have E2 : Hid ((r.drop k).length = r.length - k) := by unfold Hid; simp
  go_enter Ybaf.func16, Ybaf.ntmps16
  go_wp2_with (first | (go_at_call 10; refine hU.out.mono ?_; rintro e w' ⟨g, o, c, q, rfl, hA, rfl⟩; have h1 := hA.room) | (go_at_call 13; refine (new_any _ _).mono ?_; rintro e w' ⟨rfl, rfl⟩))
  go_quiet (fail)
  go_wp2
  all_goals
    go_ret3
    unfold FieldOk
    rw [E1.out, E2.out]
    refine ⟨_, _, _, _, _, _, rfl, by first | exact hA.take k | (have := hA.take k; rwa [show c = k by omega] at this), ?_, rfl⟩
    first
      | exact hA.drop k _ (fun _ => rfl)
      | (have := hA.drop k o (fun h => by omega); rwa [show c - k = 0 by omega] at this)

/-- readField by the plain function. -/
theorem field_any (v : Value) (l : List UInt8) (w0 w : World) (h : Sl w0 v l) (hb : Below w0.heap.size w0 w) : Calls Ybaf.prog 16 #[v] w fun e w' =>
    match rf l with
    | none => BadF w e w'
    | some (s, r) => FieldOk s r w0 w e w' := by
  have hR := read_any v l w0 w h hb
  unfold rf
  cases hr : rd l with
  | none =>
    rw [hr] at hR
    exact field_bad v w hR
  | some p =>
    obtain ⟨x, r⟩ := p
    rw [hr] at hR
    dsimp only at hR ⊢
    by_cases hx : r.length < x
    · rw [if_pos hx]
      exact field_short v x r hx w0 w hR
    · rw [if_neg hx]
      exact field_ok v x r (by omega) w0 w hR

theorem conv_nil (w : World) : (convert 25 9 (.slice none 0 0)).run Ybaf.prog w = .ok (.string ⟨#[]⟩) w :=
  run_convert_bytes_nil (P := Ybaf.prog) w 25 5 Ybaf.underlying25 Ybaf.underlying5 0 0 9 Ybaf.underlying9

theorem str_of (l : List UInt8) : strOfNums (l.map fun b => (b.toNat : Int)) = ⟨l.toArray⟩ := by
  simp [strOfNums, Function.comp_def]

theorem conv_at {w : World} {g o c : Nat} {l : List UInt8} (h : At w g o c l) (q : Nat) : (convert 25 9 (.slice (some ⟨g, o, none⟩) l.length c)).run Ybaf.prog (w.drewN q) = .ok (.string ⟨l.toArray⟩) (w.drewN q) := by
  have := run_convert_bytes_arg (P := Ybaf.prog) (w.drewN q) 25 5 Ybaf.underlying25 Ybaf.underlying5 g o l.length c (l.map fun b => (b.toNat : Int)) (by simp)
    (fun i hi => by
      have := h.cell i hi
      simp only [List.getD_eq_getElem?_getD, List.getElem?_map, List.getElem?_eq_getElem hi, Option.map_some, Option.getD_some]
      exact this) 9 Ybaf.underlying9
  rw [str_of] at this
  exact this

def BadS (w : World) (e : Ending) (w' : World) : Prop :=
  ∃ t s q, e = .returned (.tuple #[.string t, .slice none 0 0, .iface 51 (.pointer (some ⟨w.heap.size, 0, none⟩))]) ∧ w' = (w.alloc (.cells #[.string s] 53)).drewN q

def StrOk (s r : List UInt8) (w0 w : World) (e : Ending) (w' : World) : Prop :=
  ∃ g o c q, e = .returned (.tuple #[.string ⟨s.toArray⟩, .slice (some ⟨g, o, none⟩) r.length c, .nilIface]) ∧ At w0 g o c r ∧ w' = w.drewN q

set_option maxHeartbeats 400000 in
theorem str_bad (v : Value) (w : World) (hU : Hid (Calls Ybaf.prog 16 #[v] w (BadF w))) :
    Calls Ybaf.prog 12 #[v] w (BadS w) := by
  have hcn := conv_nil
  go_enter Ybaf.func12, Ybaf.ntmps12
  go_wp2_with (first | (go_at_call 16; refine hU.out.mono ?_; rintro e w' ⟨s, q, rfl, rfl⟩))
  go_ret3
  exact ⟨_, _, q, rfl, rfl⟩

set_option maxHeartbeats 400000 in
theorem str_ok (v : Value) (s r : List UInt8) (w0 w : World) (hb : Hid (Below w0.heap.size w0 w)) (hU : Hid (Calls Ybaf.prog 16 #[v] w (FieldOk s r w0 w))) :
    Calls Ybaf.prog 12 #[v] w (StrOk s r w0 w) := by
  go_enter Ybaf.func12, Ybaf.ntmps12
  go_wp2_with (first | (go_at_call 16; refine hU.out.mono ?_; rintro e w' ⟨g, o, c, o', c', q, rfl, hA, hA', rfl⟩; have hcv := conv_at (hA.below hb.out) q))
  go_ret3
  exact ⟨_, _, _, _, rfl, hA', rfl⟩

/-- readString by the plain function. -/
theorem str_any (v : Value) (l : List UInt8) (w0 w : World) (h : Sl w0 v l) (hb : Below w0.heap.size w0 w) : Calls Ybaf.prog 12 #[v] w fun e w' =>
    match rf l with
    | none => BadS w e w'
    | some (s, r) => StrOk s r w0 w e w' := by
  have hR := field_any v l w0 w h hb
  cases hr : rf l with
  | none =>
    rw [hr] at hR
    exact str_bad v w hR
  | some p =>
    obtain ⟨s, r⟩ := p
    rw [hr] at hR
    exact str_ok v s r w0 w hb hR
end Go.Proofs.YbulkaurcFmt
