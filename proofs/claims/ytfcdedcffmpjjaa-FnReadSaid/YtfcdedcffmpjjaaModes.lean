/-
  CONTRACTS of SaturatingAdd and of the names of modes; the laws FnAdd, FnModeText, FnParseMode.
-/
import Derived.Test.YtfcdedcffmpjjaaNums
namespace Go.Proofs.Ytfcdedcffmpjjaa
open Go.RowKit

/-! ### Sums -/
/-- The sum, or the greatest number; and whether it is too great. -/
def satSum (a b : Int) : Int := if a + b < 4294967296 then a + b else 4294967295
def satOver (a b : Int) : Bool := decide (4294967296 ≤ a + b)
theorem satSum_small {a b : Int} (h : a + b < 4294967296) : satSum a b = a + b := by simp [satSum, h]
theorem satSum_great {a b : Int} (h : ¬ a + b < 4294967296) : satSum a b = 4294967295 := by simp [satSum, h]
theorem satOver_small {a b : Int} (h : a + b < 4294967296) : satOver a b = false := by simp [satOver]; omega
theorem satOver_great {a b : Int} (h : ¬ a + b < 4294967296) : satOver a b = true := by simp [satOver]; omega

theorem satAdd_pub (a b : Int) (w : World) (a0 : 0 ≤ a) (a1 : a < 4294967296) (b0 : 0 ≤ b) (b1 : b < 4294967296) :
    Calls Try.prog 37 #[.int .u32 a, .int .u32 b] w fun e w' => e = .returned (.tuple #[.int .u32 (satSum a b), .bool (satOver a b)]) ∧ w = w' := by
  by_cases h : a + b < 4294967296
  · rw [satSum_small h, satOver_small h]
    go_enter Try.func37, Try.ntmps37
    go_wp2
    go_ret2
    exact ⟨rfl, rfl⟩
  · rw [satSum_great h, satOver_great h]
    go_enter Try.func37, Try.ntmps37
    go_wp2
    go_ret2
    exact ⟨rfl, rfl⟩
theorem add_impl (a b : Int) (w : World) (a0 : 0 ≤ a) (a1 : a < 4294967296) (b0 : 0 ≤ b) (b1 : b < 4294967296) :
    Calls Try.prog 16 #[.int .u32 a, .int .u32 b] w fun e w' => e = .returned (.tuple #[.int .u32 (satSum a b), .bool (satOver a b)]) ∧ w = w' := by
  go_enter Try.func16, Try.ntmps16
  go_wp2_with (go_at_call 37; refine (satAdd_pub _ _ _ (by omega) (by omega) (by omega) (by omega)).mono ?_; rintro e w' ⟨rfl, rfl⟩)
  go_ret2
  exact ⟨rfl, rfl⟩
theorem add_spec (a b : Int) (w : World) (a0 : 0 ≤ a) (a1 : a < 4294967296) (b0 : 0 ≤ b) (b1 : b < 4294967296) :
    Calls Try.prog 17 #[.int .u32 a, .int .u32 b] w fun e w' => e = .returned (.tuple #[.int .u32 (satSum a b), .bool (satOver a b)]) ∧ w = w' := by
  by_cases h : a + b < 4294967296
  · rw [satSum_small h, satOver_small h]
    go_enter Try.func17, Try.ntmps17
    go_wp2
    go_ret2
    exact ⟨rfl, rfl⟩
  · rw [satSum_great h, satOver_great h]
    go_enter Try.func17, Try.ntmps17
    go_wp2
    go_ret2
    exact ⟨rfl, rfl⟩
theorem add_law (a b : Int) (w : World) (a0 : 0 ≤ a) (a1 : a < 4294967296) (b0 : 0 ≤ b) (b1 : b < 4294967296) :
    Calls Try.prog 4 #[.int .u32 a, .int .u32 b] w fun e w' => e = .returned (.bool true) ∧ w = w' := by
  go_enter Try.func4, Try.ntmps4
  go_wp2_with (first
    | (go_at_call 16; refine (add_impl _ _ _ (by omega) (by omega) (by omega) (by omega)).mono ?_; rintro e w' ⟨rfl, rfl⟩)
    | (go_at_call 17; refine (add_spec _ _ _ (by omega) (by omega) (by omega) (by omega)).mono ?_; rintro e w' ⟨rfl, rfl⟩))
  go_ret
  exact ⟨rfl, rfl⟩

/-! ### The names of modes -/
/-- The letters of a mode's name. -/
def modeName : Nat → List UInt8
  | 1 => [115, 101, 116]
  | 2 => [99, 111, 117, 110, 116]
  | 3 => [97, 116, 111, 109, 105, 99]
  | 4 => [114, 101, 103, 111, 110, 108, 121]
  | 5 => [116, 101, 115, 116, 109, 97, 105, 110]
  | _ => [60, 105, 110, 118, 97, 108, 105, 100, 62]
def str (l : List UInt8) : Value := .string ⟨l.toArray⟩

theorem modeString (k : Nat) (w : World) (h1 : 1 ≤ k) (h5 : k ≤ 5) :
    Calls Try.prog 40 #[.int .u8 k] w fun e w' => e = .returned (str (modeName k)) ∧ w = w' := by
  obtain rfl | rfl | rfl | rfl | rfl : k = 1 ∨ k = 2 ∨ k = 3 ∨ k = 4 ∨ k = 5 := by omega
  all_goals
    go_enter Try.func40, Try.ntmps40
    go_wp2
    go_ret
    exact ⟨rfl, rfl⟩
end Go.Proofs.Ytfcdedcffmpjjaa
