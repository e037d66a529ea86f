import Derived.Test.YbulkaurcFmtParse
namespace Go.Proofs.YbulkaurcFmt
open Go.RowKit Go.Extern.Stop Go.Stop Go.Extern
attribute [local go_sem] alloc_drewN setCell_drewN

set_option maxHeartbeats 2000000 in
theorem parse5 (v : Value) (l : List UInt8) (w : World) (h : Hid (Sl w v l)) (l1 : List UInt8) (h1 : Hid (rd l = some (9, l1))) (s l2 : List UInt8) (h2 : Hid (rf l1 = some (s, l2))) (st : Nat) (l3 : List UInt8) (h3 : Hid (rd l2 = some (st, l3))) (hs : ((st : Int) == 0) = true) :
    Calls Ybaf.prog 7 #[v] w (Refused w) := by
  go_enter Ybaf.func7, Ybaf.ntmps7
  go_wp2_with fail
  refine (read_some h1.out h.out (by repeat (first | exact Below.refl _ _ | apply Below.drew | apply below_alloc | apply below_draws))).mono ?_
  rintro e w' ⟨g1, o1, c1, q1, rfl, hA1, rfl⟩
  go_wp2_with fail
  refine (str_some h2.out (Sl.ofAt hA1) (by repeat (first | exact Below.refl _ _ | apply Below.drew | apply below_alloc | apply below_draws))).mono ?_
  rintro e w' ⟨g2, o2, c2, q2, rfl, hA2, rfl⟩
  go_wp2_with fail
  refine (read_some h3.out (Sl.ofAt hA2) (by repeat (first | exact Below.refl _ _ | apply Below.drew | apply below_alloc | apply below_draws))).mono ?_
  rintro e w' ⟨g3, o3, c3, q3, rfl, hA3, rfl⟩
  go_wp2_with fail
  go_region_with (go_at_call 13; refine (new_any _ _).mono ?_; rintro e w' ⟨rfl, rfl⟩)
  all_goals go_wp2
  all_goals refine bodyPost_ret (v := .tuple #[.agg #[.int .i64 9, .string ⟨s.toArray⟩, .int .i64 (st : Int), .int .i64 0, .slice none 0 0], .iface 51 (.pointer (some ⟨w.heap.size + 1 + 1, 0, none⟩))]) (by simp [results, Ybaf.results7, go_sem]) rfl ⟨_, _, _, _, _, rfl, ?_⟩
  all_goals repeat (first | exact Below.refl _ _ | apply Below.drew | apply below_alloc | apply below_draws)
end Go.Proofs.YbulkaurcFmt
