import Derived.Test.YbulkaurcFmtParse1
import Derived.Test.YbulkaurcFmtParse2
import Derived.Test.YbulkaurcFmtParse3
import Derived.Test.YbulkaurcFmtParse4
import Derived.Test.YbulkaurcFmtParse5
import Derived.Test.YbulkaurcFmtParse6
import Derived.Test.YbulkaurcFmtParse7
import Derived.Test.YbulkaurcFmtParse8
import Derived.Test.YbulkaurcFmtEnc
namespace Go.Proofs.YbulkaurcFmt
open Go.RowKit Go.Extern.Stop Go.Stop Go.Extern

/-- It was taken. -/
def Taken (s : List UInt8) (st cf : Nat) (r : List UInt8) (w : World) (e : Ending) (w' : World) : Prop :=
  ∃ g o c, e = .returned (.tuple #[.agg #[.int .i64 9, .string ⟨s.toArray⟩, .int .i64 (st : Int), .int .i64 (cf : Int), .slice (some ⟨g, o, none⟩) r.length c], .nilIface]) ∧ At w g o c r ∧ Below w.heap.size w w'

theorem parse_refused (F : Interp) (v : Value) (l : List UInt8) (w : World) (hF : F.answers w.tape) (h : Sl w v l) (hh : hello l = none) : Calls Ybaf.prog 7 #[v] w (Refused w) := by
  unfold hello hello0 at hh
  cases h1 : rd l with
  | none => exact parse1 F v l w hF h h1
  | some p =>
    obtain ⟨x, l1⟩ := p
    rw [h1] at hh
    dsimp only at hh
    by_cases hx : x = 9
    · subst hx
      rw [if_neg (by simp)] at hh
      cases h2 : rf l1 with
      | none => exact parse3 F v l w hF h l1 h1 h2
      | some p =>
        obtain ⟨s, l2⟩ := p
        rw [h2] at hh
        dsimp only at hh
        cases h3 : rd l2 with
        | none => exact parse4 F v l w hF h l1 h1 s l2 h2 h3
        | some p =>
          obtain ⟨st, l3⟩ := p
          rw [h3] at hh
          dsimp only at hh
          by_cases hs : st = 0
          · exact parse5 v l w h l1 h1 s l2 h2 st l3 h3 (by simp [hs])
          · rw [if_neg hs] at hh
            cases h4 : rd l3 with
            | none => exact parse6 F v l w hF h l1 h1 s l2 h2 st l3 h3 (by simp; omega) h4
            | some p =>
              obtain ⟨cf, l4⟩ := p
              rw [h4] at hh
              dsimp only at hh
              by_cases hl : l4.length = 32
              · rw [if_pos hl] at hh
                cases hh
              · exact parse7 F v l w hF h l1 h1 s l2 h2 st l3 h3 (by simp; omega) cf l4 h4 (by simp; omega)
    · exact parse2 F v l w hF h x l1 h1 (by simp; omega)

theorem parse_taken (v : Value) (l : List UInt8) (w : World) (h : Sl w v l) {s r : List UInt8} {st cf : Nat} (hh : hello l = some (s, st, cf, r)) : Calls Ybaf.prog 7 #[v] w (Taken s st cf r w) := by
  unfold hello hello0 at hh
  cases h1 : rd l with
  | none => rw [h1] at hh; cases hh
  | some p =>
    obtain ⟨x, l1⟩ := p
    rw [h1] at hh
    dsimp only at hh
    by_cases hx : x = 9
    · subst hx
      rw [if_neg (by simp)] at hh
      cases h2 : rf l1 with
      | none => rw [h2] at hh; cases hh
      | some p =>
        obtain ⟨s', l2⟩ := p
        rw [h2] at hh
        dsimp only at hh
        cases h3 : rd l2 with
        | none => rw [h3] at hh; cases hh
        | some p =>
          obtain ⟨st', l3⟩ := p
          rw [h3] at hh
          dsimp only at hh
          by_cases hs : st' = 0
          · rw [if_pos hs] at hh; cases hh
          · rw [if_neg hs] at hh
            cases h4 : rd l3 with
            | none => rw [h4] at hh; cases hh
            | some p =>
              obtain ⟨cf', l4⟩ := p
              rw [h4] at hh
              dsimp only at hh
              by_cases hl : l4.length = 32
              · rw [if_pos hl] at hh
                simp only [Option.some.injEq, Prod.mk.injEq] at hh
                obtain ⟨rfl, rfl, rfl, rfl⟩ := hh
                exact parse8 v l w h l1 h1 s' l2 h2 st' l3 h3 (by simp; omega) cf' l4 h4 (by simp; omega)
              · rw [if_neg hl] at hh; cases hh
    · rw [if_pos hx] at hh; cases hh

theorem sl_owned {w : World} {B : Nat} {v : Value} {l : List UInt8} (h : w.ownsRow B 5 1 v l.length (Lib.byteCells l)) : Sl w v l := by
  rcases h.2 with ⟨hv, h0⟩ | ⟨g, cap, cur, hv, hb, hg, h1, h2, h3, h4⟩
  · exact .inl ⟨hv, List.eq_nil_of_length_eq_zero h0⟩
  · refine .inr ⟨g, 0, cap, hv, h1, by simpa [maxLen] using h2, fun j hj => ?_⟩
    have hc := h.cells (g := g) (by rw [hv]; rfl) j (.int .u8 (l[j]).toNat) (by simp [Lib.byteCells, hj])
    rw [Addr.add_lit] at hc
    exact hc
end Go.Proofs.YbulkaurcFmt
