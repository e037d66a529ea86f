import Derived.Test.YbulkaurqWin
namespace Go.Proofs.Ybulkaurq
open Go.RowKit

theorem not_take_succ {seen : List Nat} {q k : Nat} (hk : k < seen.length) (h : ¬ q ∈ seen.take k) (hne : ¬ seen[k] = q) : ¬ q ∈ seen.take (k + 1) := by
  rw [List.take_succ_eq_append_getElem hk]
  simp only [List.mem_append, List.mem_cons, List.not_mem_nil, or_false]
  rintro (h1 | h1)
  · exact h h1
  · exact hne h1.symm

set_option maxHeartbeats 400000 in
theorem model_any (g cap top q : Nat) (seen : List Nat) (w : World) (hc : Hid (∀ i (hi : i < seen.length), w.cell? ⟨g, i, none⟩ = some (.int .u32 (seen[i] : Int)))) (hn : seen.length ≤ 1000) (ht : top < 4294967296) (hq : q < 4294967296) :
    Calls Yba.prog 12 #[.int .u32 (top : Int), .slice (some ⟨g, 0, none⟩) seen.length cap, .int .u32 (q : Int)] w fun e w' => e = .returned (.bool (modelP top seen q)) ∧ w' = w := by
  by_cases c1 : q = 0
  · have e : modelP top seen q = false := by simp [modelP, c1]
    rw [e]
    subst c1
    clear e
    go_enter Yba.func12, Yba.ntmps12
    go_wp2_with fail
    go_ret
    exact ⟨rfl, rfl⟩
  by_cases c2 : top < q
  · have e : modelP top seen q = true := by simp [modelP, c1, c2]
    rw [e]
    have d1 : ((q : Int) == 0) = false := by simp; omega
    have d2 : (top : Int) < (q : Int) := by omega
    clear e
    go_enter Yba.func12, Yba.ntmps12
    go_wp2_with fail
    go_ret
    exact ⟨rfl, rfl⟩
  by_cases c3 : 256 ≤ top - q
  · have e : modelP top seen q = false := by simp [modelP, c1, c2, c3]
    rw [e]
    have d1 : ((q : Int) == 0) = false := by simp; omega
    have d2 : ¬ ((top : Int) < (q : Int)) := by omega
    have d3 : (256 : Int) ≤ (top : Int) - (q : Int) := by omega
    clear e
    go_enter Yba.func12, Yba.ntmps12
    go_wp2_with fail
    go_ret
    exact ⟨rfl, rfl⟩
  · have e : Hid (modelP top seen q = !(seen.contains q)) := by simp [Hid, modelP, c1, c2, c3]
    have d1 : ((q : Int) == 0) = false := by simp; omega
    have d2 : ¬ ((top : Int) < (q : Int)) := by omega
    have d3 : ¬ ((256 : Int) ≤ (top : Int) - (q : Int)) := by omega
    go_enter Yba.func12, Yba.ntmps12
    go_wp2
    go_loop [20] (fun i => ∃ k : Nat, k ≤ seen.length ∧ i = .int .i64 k ∧ ¬ q ∈ seen.take k) (fun i => seen.length - (intOf i).toNat)
    case atStart => exact ⟨0, Nat.zero_le _, rfl, by simp⟩
    case round =>
      obtain ⟨k, hk, rfl, hnot⟩ := hrel
      have HN : Hid (¬ q ∈ seen.take k) := hnot
      clear hnot
      by_cases hlt : k < seen.length
      · have hcell := hc.out k hlt
        by_cases heq : seen[k] = q
        · have hb : (((seen[k] : Nat) : Int) == (q : Int)) = true := by simp [heq]
          have hin : Hid (seen.contains q = true) := by
            unfold Hid
            rw [List.contains_iff_mem, ← heq]
            exact List.getElem_mem hlt
          clear heq
          go_wp2
          go_ret
          exact ⟨by rw [e.out, hin.out]; rfl, rfl⟩
        · have hb : (((seen[k] : Nat) : Int) == (q : Int)) = false := by simp; omega
          have HS : Hid (¬ q ∈ seen.take (k + 1)) := not_take_succ hlt HN.out heq
          clear heq
          go_wp2
          go_round
          case rel => exact ⟨k + 1, by omega, by go_num, HS.out⟩
          case measure => simp [intOf]; omega
      · have hin : Hid (seen.contains q = false) := by
          unfold Hid
          have := HN.out
          rw [List.take_of_length_le (by omega)] at this
          simpa using this
        go_wp2
        go_ret
        exact ⟨by rw [e.out, hin.out]; rfl, rfl⟩
end Go.Proofs.Ybulkaurq
