/-
  shiftKey and the law's own model of it.
-/
import Derived.Test.YbulkbhhoProg
import Derived.WalkKit
import Derived.OpenShut
namespace Go.Proofs.Ybulkbhho
open Go.RowKit

/-- What shiftKey answers. -/
def sk (rank assoc : Int) : Int := if rank = 0 then -2147483648 else if assoc = 2 ∨ assoc = 4 then wrap64 (wrap64 (2 * rank) + 1) else wrap64 (wrap64 (2 * rank) + 2)

theorem sk_zero (assoc : Int) : sk 0 assoc = -2147483648 := rfl
theorem sk_right {rank : Int} (h : ¬ rank = 0) {assoc : Int} (ha : assoc = 2 ∨ assoc = 4) : sk rank assoc = wrap64 (wrap64 (2 * rank) + 1) := by simp [sk, h, ha]
theorem sk_left {rank : Int} (h : ¬ rank = 0) {assoc : Int} (ha : ¬ (assoc = 2 ∨ assoc = 4)) : sk rank assoc = wrap64 (wrap64 (2 * rank) + 2) := by simp [sk, h, ha]

set_option maxRecDepth 100000 in
set_option maxHeartbeats 400000 in
theorem shift_any (rank assoc : Int) (w : World) :
    Calls Yba.prog 6 #[.agg #[.int .i64 rank, .int .i8 assoc]] w fun e w' => e = .returned (.int .i64 (sk rank assoc)) ∧ ∃ cs, w.alloc (.cells cs 25) = w' := by
  by_cases h0 : rank = 0
  · subst h0
    go_enter Yba.func6, Yba.ntmps6
    go_wp2
    go_ret
    exact ⟨rfl, _, rfl⟩
  · by_cases h2 : assoc = 2
    · subst h2
      rw [sk_right h0 (.inl rfl)]
      go_enter Yba.func6, Yba.ntmps6
      go_wp2
      go_ret
      exact ⟨rfl, _, rfl⟩
    · by_cases h4 : assoc = 4
      · subst h4
        rw [sk_right h0 (.inr rfl)]
        go_enter Yba.func6, Yba.ntmps6
        go_wp2
        go_ret
        exact ⟨rfl, _, rfl⟩
      · rw [sk_left h0 (by omega)]
        have b2 : (assoc == 2) = false := by simpa using h2
        have b4 : (assoc == 4) = false := by simpa using h4
        go_enter Yba.func6, Yba.ntmps6
        go_wp2
        go_ret
        exact ⟨rfl, _, rfl⟩

set_option maxRecDepth 100000 in
set_option maxHeartbeats 400000 in
theorem model_any (rank assoc : Int) (w : World) :
    Calls Yba.prog 7 #[.int .i64 rank, .int .i8 assoc] w fun e w' => e = .returned (.int .i64 (sk rank assoc)) ∧ w = w' := by
  by_cases h0 : rank = 0
  · subst h0
    go_enter Yba.func7, Yba.ntmps7
    go_wp2
    go_ret
    exact ⟨rfl, rfl⟩
  · by_cases h2 : assoc = 2
    · subst h2
      rw [sk_right h0 (.inl rfl)]
      go_enter Yba.func7, Yba.ntmps7
      go_wp2
      go_ret
      exact ⟨rfl, rfl⟩
    · by_cases h4 : assoc = 4
      · subst h4
        rw [sk_right h0 (.inr rfl)]
        go_enter Yba.func7, Yba.ntmps7
        go_wp2
        go_ret
        exact ⟨rfl, rfl⟩
      · rw [sk_left h0 (by omega)]
        go_enter Yba.func7, Yba.ntmps7
        go_wp2
        go_ret
        exact ⟨rfl, rfl⟩
end Go.Proofs.Ybulkbhho
