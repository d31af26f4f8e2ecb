/-
  CONTRACTS of the names of modes, second part: the laws FnModeText, FnParseMode.
-/
import Derived.Test.YtfcdedcffmpjjaaModes
namespace Go.Proofs.Ytfcdedcffmpjjaa
open Go.RowKit
/-- The number of the mode of a name; 0 where it is none. -/
def parseMode (l : List UInt8) : Int :=
  if l == [115, 101, 116] then 1 else if l == [99, 111, 117, 110, 116] then 2 else if l == [97, 116, 111, 109, 105, 99] then 3
  else if l == [114, 101, 103, 111, 110, 108, 121] then 4 else if l == [116, 101, 115, 116, 109, 97, 105, 110] then 5 else 0
theorem parseMode_bd (l : List UInt8) : 0 ≤ parseMode l ∧ parseMode l ≤ 5 := by
  unfold parseMode
  repeat' split
  all_goals omega
theorem ret_int {k : IntKind} {a b : Int} (h : a = b) : Ending.returned (.int k a) = .returned (.int k b) := by rw [h]
theorem ret_bool {a b : Bool} (h : a = b) : Ending.returned (.bool a) = .returned (.bool b) := by rw [h]

theorem parse_pub (s : ByteArray) (w : World) :
    Calls Try.prog 39 #[.string s] w fun e w' => e = .returned (.int .u8 (parseMode s.toList)) ∧ w = w' := by
  go_enter Try.func39, Try.ntmps39
  go_wp2
  all_goals
    go_ret
    exact ⟨ret_int (by simp only [parseMode, *, if_true, Bool.false_eq_true, if_false]), rfl⟩
theorem parse_impl (s : ByteArray) (w : World) :
    Calls Try.prog 21 #[.string s] w fun e w' => e = .returned (.int .i64 (parseMode s.toList)) ∧ w = w' := by
  have hb := parseMode_bd s.toList
  have H := parse_pub s
  generalize parseMode s.toList = p at *
  have H' := Hid.out (p := ∀ w, Calls Try.prog 39 #[.string s] w fun e w' => e = .returned (.int .u8 p) ∧ w = w') H
  clear H
  go_enter Try.func21, Try.ntmps21
  go_wp2_with (go_at_call 39; refine (H' _).mono ?_; rintro e w' ⟨rfl, rfl⟩)
  go_ret
  exact ⟨rfl, rfl⟩
theorem modeText_law (m : Int) (w : World) :
    Calls Try.prog 7 #[.int .i64 m] w fun e w' => e = .returned (.bool true) ∧ Below w.heap.size w w' := by
  by_cases h0 : m < 1
  · go_enter Try.func7, Try.ntmps7
    go_wp2
    go_ret
    exact ⟨rfl, Below.refl _ _⟩
  by_cases h1 : 5 < m
  · go_enter Try.func7, Try.ntmps7
    go_wp2
    go_ret
    exact ⟨rfl, Below.refl _ _⟩
  obtain rfl | rfl | rfl | rfl | rfl : m = 1 ∨ m = 2 ∨ m = 3 ∨ m = 4 ∨ m = 5 := by omega
  all_goals
    clear h0 h1
    go_enter Try.func7, Try.ntmps7
    go_wp2
    go_ret
    exact ⟨rfl, (Below.refl _ _).alloc (Nat.le_refl _) _⟩
/-- What is found among the first k names. -/
def parseTo (l : List UInt8) : Nat → Int
  | 0 => 0
  | k + 1 => if l == modeName (k + 1) then k + 1 else parseTo l k
theorem parseTo_five (l : List UInt8) : parseTo l 5 = parseMode l := by
  unfold parseMode
  simp only [parseTo, modeName]
  by_cases h1 : l = [115, 101, 116]
  · subst h1; decide
  by_cases h2 : l = [99, 111, 117, 110, 116]
  · subst h2; decide
  by_cases h3 : l = [97, 116, 111, 109, 105, 99]
  · subst h3; decide
  by_cases h4 : l = [114, 101, 103, 111, 110, 108, 121]
  · subst h4; decide
  by_cases h5 : l = [116, 101, 115, 116, 109, 97, 105, 110]
  · subst h5; decide
  simp [h1, h2, h3, h4, h5]
set_option maxHeartbeats 1000000 in
theorem parseMode_law (s : ByteArray) (w : World) (hs : s.size ≤ maxLen) :
    Calls Try.prog 6 #[.string s] w fun e w' => e = .returned (.bool true) ∧ Below w.heap.size w w' := by
  unfold maxLen at hs
  have e5 := parseTo_five s.toList
  have H5 : Hid (parseTo s.toList 5 = parseMode s.toList) := e5
  clear e5
  by_cases h0 : 300 < s.size
  · go_enter Try.func6, Try.ntmps6
    go_wp2
    all_goals
      go_ret
      exact ⟨rfl, Below.refl _ _⟩
  go_enter Try.func6, Try.ntmps6
  go_wp2
  go_loop [3, 14] (fun t i => ∃ k : Nat, k ≤ 5 ∧ i = .int .i64 k ∧ t = .int .i64 (parseTo s.toList k)) (fun _ i => 5 - (intOf i).toNat)
  case atStart => exact ⟨0, by omega, rfl, rfl⟩
  case round =>
    obtain ⟨k, hk, rfl, rfl⟩ := hrel
    obtain rfl | rfl | rfl | rfl | rfl | rfl : k = 0 ∨ k = 1 ∨ k = 2 ∨ k = 3 ∨ k = 4 ∨ k = 5 := by omega
    · go_wp2
      all_goals exact ⟨⟨1, by omega, rfl, by simp [parseTo, modeName, *]⟩, by simp [intOf]⟩
    · go_wp2
      all_goals exact ⟨⟨2, by omega, rfl, by simp [parseTo, modeName, *]⟩, by simp [intOf]⟩
    · go_wp2
      all_goals exact ⟨⟨3, by omega, rfl, by simp [parseTo, modeName, *]⟩, by simp [intOf]⟩
    · go_wp2
      all_goals exact ⟨⟨4, by omega, rfl, by simp [parseTo, modeName, *]⟩, by simp [intOf]⟩
    · go_wp2
      all_goals exact ⟨⟨5, by omega, rfl, by simp [parseTo, modeName, *]⟩, by simp [intOf]⟩
    · go_wp2_with (go_at_call 21; refine (parse_impl _ _).mono ?_; rintro e w' ⟨rfl, rfl⟩)
      go_ret
      rw [H5.out]
      exact ⟨ret_bool (by simp), (Below.refl _ _).alloc (Nat.le_refl _) _⟩
end Go.Proofs.Ytfcdedcffmpjjaa
