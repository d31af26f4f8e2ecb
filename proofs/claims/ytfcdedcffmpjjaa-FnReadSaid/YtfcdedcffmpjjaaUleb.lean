/-
  NUMBERS BY SEVEN BITS: the plain function, and the contract of AppendUleb128.
-/
import Derived.Test.YtfcdedcffmpjjaaRows
import Derived.Test.YtfcdedcffmpjjaaPlain
import Derived.Test.YtfcdedcffmpjjaaMem
namespace Go.Proofs.Ytfcdedcffmpjjaa
open Go.RowKit

/-- A number by seven bits, the least ones first. -/
def uleb (v : Nat) : List UInt8 := if v < 128 then [UInt8.ofNat v] else UInt8.ofNat (v % 128 + 128) :: uleb (v / 128)
termination_by v
decreasing_by omega
theorem uleb_small {v : Nat} (h : v < 128) : uleb v = [UInt8.ofNat v] := by rw [uleb, if_pos h]
theorem uleb_big {v : Nat} (h : ¬ v < 128) : uleb v = UInt8.ofNat (v % 128 + 128) :: uleb (v / 128) := by rw [uleb, if_neg h]
theorem uleb_len (k : Nat) : ∀ v, v < 128 ^ k → (uleb v).length ≤ max k 1 := by
  induction k with
  | zero => intro v h; rw [uleb_small (by simp at h; omega)]; simp
  | succ k ih =>
    intro v h
    by_cases hs : v < 128
    · rw [uleb_small hs]; simp
    · rw [uleb_big hs, List.length_cons]
      have hk : 0 < k := by
        cases k with
        | zero => simp at h; omega
        | succ k => omega
      have := ih (v / 128) (by rw [Nat.pow_succ] at h; exact Nat.div_lt_of_lt_mul (by omega))
      omega
theorem uleb_len64 {v : Nat} (h : v < Plain.M64) : (uleb v).length ≤ 10 := by
  unfold Plain.M64 at h
  have := uleb_len 10 v (by omega)
  omega
theorem uleb_ne (v : Nat) : uleb v ≠ [] := by
  by_cases h : v < 128
  · rw [uleb_small h]; simp
  · rw [uleb_big h]; simp

/-- What AppendUleb128 has done. -/
def UlebPost (w : World) (v : Value) (n : Nat) (xs : List UInt8) (x : Nat) (e : Ending) (w' : World) : Prop :=
  ∃ v', e = .returned v' ∧ Row w' 5 1 v' (n + (uleb x).length) (B (xs ++ uleb x)) ∧ Keep (Own v) w w' ∧ (∀ g, v'.ownBlock = some g → v.ownBlock = some g ∨ w.heap.size ≤ g)

theorem sliceBytes : SliceT Try.prog 28 5 (.int .u8 0) 1 1 := ⟨Try.underlying28, by kernel_rfl, rfl, by decide⟩

open Plain (M64)
set_option maxHeartbeats 400000 in
theorem appendUleb (v : Value) (n : Nat) (xs : List UInt8) (x : Nat) (w : World) (hx : x < M64) (hown : Row w 5 1 v n (B xs)) (hn : n ≤ 1099511627776) :
    Calls Try.prog 38 #[v, .int .u64 x] w (UlebPost w v n xs x) := by
  go_enter Try.func38, Try.ntmps38
  go_wp2
  go_loopw [0, 1] (fun bv c wr => ∃ cur done, c = .int .u64 (cur : Nat) ∧ cur < M64 ∧ done ++ uleb cur = uleb x ∧ Row wr 5 1 bv (n + done.length) (B (xs ++ done)) ∧ Keep (Own v) w wr ∧ (∀ g, bv.ownBlock = some g → v.ownBlock = some g ∨ w.heap.size ≤ g))
    (fun _ c _ => (intOf c).toNat)
  case atStart => exact ⟨x, [], rfl, hx, rfl, by simpa using hown, Keep.refl _ _, fun g h => .inl h⟩
  case round =>
    obtain ⟨cur, done, rfl, hc, hd, hr, hk, hl⟩ := hrel
    have h127 := Plain.and127 cur hc
    have hb : n + done.length + 1 ≤ 1099511627800 := by
      have h1 := uleb_len64 (v := x) hx
      have h2 := congrArg List.length hd
      simp at h2
      omega
    by_cases hs : cur < 128
    · have h128 : bits BinOp.and IntKind.u8 ((cur : Int) % 128) 128 = 0 := by
        have := Plain.and128 (cur % 128) (by omega)
        rw [show ((cur % 128 : Nat) : Int) = (cur : Int) % 128 by omega] at this
        rw [this]; omega
      have HD := Lib.hid hd
      have HC := Lib.hid hc
      have HL := Lib.hid hl
      clear hd hc hl
      go_wp2_with (at_builtin; go_must (refine wpList_app sliceBytes rfl _ _ rfl rfl (hr.alloc _) rfl (Reads.one _ _ _) (fun u hu => by simp at hu; subst hu; rfl) (by unfold maxLen; omega) (by omega) ?_); intro v' w1 hr1 hg1 hn1)
      go_ret
      have hd := HD.out
      rw [uleb_small hs] at hd
      refine ⟨v', rfl, ?_, ?_, ?_⟩
      · rw [← hd]
        have e1 : (cur : Int) % 128 = (cur : Int) := by omega
        rw [e1, ← B_single cur (by omega), ← B_append, List.append_assoc] at hr1
        simpa [Nat.add_assoc] using hr1
      · exact (hk.alloc _).trans hg1.keep (fun i hi h => (HL.out i h).resolve_right (by omega))
      · intro g hg
        rcases hg1.lies hg with h | h
        · exact HL.out g h
        · have := hk.size
          simp at h; omega
    · have h1 : bits BinOp.or IntKind.u8 ((cur : Int) % 128) 128 = (cur : Int) % 128 + 128 := by
        have := Plain.or128 (cur % 128) (by omega)
        rw [show ((cur % 128 : Nat) : Int) = (cur : Int) % 128 by omega] at this
        rw [this]; omega
      have h128 : bits BinOp.and IntKind.u8 ((cur : Int) % 128 + 128) 128 = 128 := by
        have := Plain.and128 (cur % 128 + 128) (by omega)
        rw [show ((cur % 128 + 128 : Nat) : Int) = (cur : Int) % 128 + 128 by omega] at this
        rw [this]; omega
      have HD := Lib.hid hd
      have HC := Lib.hid hc
      have HL := Lib.hid hl
      clear hd hc hl
      go_wp2_with (at_builtin; go_must (refine wpList_app sliceBytes rfl _ _ rfl rfl (hr.alloc _) rfl (Reads.one _ _ _) (fun u hu => by simp at hu; subst hu; rfl) (by unfold maxLen; omega) (by omega) ?_); intro v' w1 hr1 hg1 hn1)
      have hd := HD.out
      rw [uleb_big hs] at hd
      go_roundw
      case rel =>
        refine ⟨cur / 128, done ++ [UInt8.ofNat (cur % 128 + 128)], by go_num, ?_, ?_, ?_, ?_, ?_⟩
        · have := HC.out; unfold M64 at *; omega
        · rw [← hd]; simp
        · rw [← List.append_assoc, B_append, B_single _ (by omega), List.length_append]
          have e1 : ((cur % 128 + 128 : Nat) : Int) = (cur : Int) % 128 + 128 := by omega
          rw [e1]
          exact hr1
        · exact (hk.alloc _).trans hg1.keep (fun i hi h => (HL.out i h).resolve_right (by omega))
        · intro g hg
          rcases hg1.lies hg with h | h
          · exact HL.out g h
          · have := hk.size
            simp at h; omega
      case measure => simp [intOf]; omega
end Go.Proofs.Ytfcdedcffmpjjaa
