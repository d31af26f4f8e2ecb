/-
  CONTRACTS of the functions that only reckon with numbers.
-/
import Derived.Test.YtfcdedcffmpjjaaRows
import Derived.Test.YtfcdedcffmpjjaaPlain
import Derived.WalkKit
import Derived.ProofKit
namespace Go.Proofs.Ytfcdedcffmpjjaa
open Go.RowKit

theorem round4_pub (n : Int) (w : World) (h0 : 0 ≤ n) (h1 : n ≤ 1099511627776) : Calls Try.prog 36 #[.int .i64 n] w fun e w' => e = .returned (.int .i64 ((n + 3) / 4 * 4)) ∧ w = w' := by
  have hb := Plain.i64_andNot3 (n + 3) (by omega) (by omega)
  go_enter Try.func36, Try.ntmps36
  go_wp2
  go_ret
  exact ⟨rfl, rfl⟩
theorem round4_impl (n : Int) (w : World) (h0 : 0 ≤ n) (h1 : n ≤ 1099511627776) : Calls Try.prog 15 #[.int .i64 n] w fun e w' => e = .returned (.int .i64 ((n + 3) / 4 * 4)) ∧ w = w' := by
  go_enter Try.func15, Try.ntmps15
  go_wp2_with (go_at_call 36; refine (round4_pub _ _ (by omega) (by omega)).mono ?_; rintro e w' ⟨rfl, rfl⟩)
  go_ret
  exact ⟨rfl, rfl⟩
theorem round4_law (n : Int) (w : World) : Calls Try.prog 3 #[.int .i64 n] w fun e w' => e = .returned (.bool true) ∧ w = w' := by
  by_cases h0 : n < 0
  · go_enter Try.func3, Try.ntmps3
    go_wp2
    go_ret
    exact ⟨rfl, rfl⟩
  · by_cases h1 : 1099511627776 < n
    · go_enter Try.func3, Try.ntmps3
      go_wp2
      go_ret
      exact ⟨rfl, rfl⟩
    · have g0 : 0 ≤ n := by omega
      have g1 : n ≤ 1099511627776 := by omega
      have g2 : n ≤ (n + 3) / 4 * 4 := by omega
      have g3 : (n + 3) / 4 * 4 < n + 4 := by omega
      have g4 : ((n + 3) / 4 * 4 % 4 == 0) = true := by rw [beq_iff_eq]; omega
      go_enter Try.func3, Try.ntmps3
      go_wp2_with (go_at_call 15; refine (round4_impl _ _ (by omega) (by omega)).mono ?_; rintro e w' ⟨rfl, rfl⟩)
      go_ret
      exact ⟨rfl, rfl⟩
end Go.Proofs.Ytfcdedcffmpjjaa
