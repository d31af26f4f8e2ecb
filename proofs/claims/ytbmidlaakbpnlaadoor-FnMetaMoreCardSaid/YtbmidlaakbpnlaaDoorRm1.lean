/-
  CONTRACTS: numbers out of bytes; io.ReadFull over the reader of a slice.
-/
import Derived.Test.YtbmidlaakbpnlaaDoorKe
import Derived.Deep.RegionHeld3
namespace Go.Proofs.YtbmidlaakbpnlaaDoor
open Go.RowKit
open Go.ChangeShapes Go.WideShapes Go.ChangeAt Go.Deep
open Plain (M64)

/-- A number as n bytes, the least one first. -/
def leb : Nat → Nat → List UInt8
  | 0, _ => []
  | n + 1, v => UInt8.ofNat (v % 256) :: leb n (v / 256)
theorem leb_length : ∀ n v, (leb n v).length = n
  | 0, _ => rfl
  | n + 1, v => by simp [leb, leb_length n]
theorem leb_at : ∀ n v j, j < n → (leb n v)[j]? = some (UInt8.ofNat (v / 256 ^ j % 256))
  | 0, _, _, h => by omega
  | n + 1, v, 0, _ => by simp [leb]
  | n + 1, v, j + 1, h => by
    have := leb_at n (v / 256) j (by omega)
    rw [leb, List.getElem?_cons_succ, this, Nat.div_div_eq_div_mul, Nat.pow_succ, Nat.mul_comm 256]
theorem of_step (x j : Nat) (hx : x < 18446744073709551616) :
    bits .or .u64 ((x % 256 ^ j : Nat) : Int) (IntKind.u64.wrap (((x / 256 ^ j % 256 : Nat) : Int) * 2 ^ (8 * j))) = ((x % 256 ^ (j + 1) : Nat) : Int) := by
  have e1 : ((x / 256 ^ j % 256 : Nat) : Int) * 2 ^ (8 * j) = ((x / 256 ^ j % 256 * 2 ^ (8 * j) : Nat) : Int) := by simp
  have ep : (256 : Nat) ^ j = 2 ^ (8 * j) := by rw [Nat.pow_mul]
  have hm : x % 256 ^ (j + 1) = x % 256 ^ j + x / 256 ^ j % 256 * 2 ^ (8 * j) := by
    rw [Nat.pow_succ, Nat.mod_mul, ep, Nat.mul_comm (2 ^ (8 * j))]
  have hle : x % 256 ^ (j + 1) ≤ x := Nat.mod_le _ _
  have hlt : x % 256 ^ j < 2 ^ (8 * j) := by rw [ep]; exact Nat.mod_lt _ (Nat.two_pow_pos _)
  have e2 : IntKind.u64.wrap ((x / 256 ^ j % 256 * 2 ^ (8 * j) : Nat) : Int) = ((x / 256 ^ j % 256 * 2 ^ (8 * j) : Nat) : Int) := by
    generalize x / 256 ^ j % 256 * 2 ^ (8 * j) = z at *
    simp [IntKind.wrap, IntKind.bits, IntKind.signed]
    omega
  rw [e1, e2, u64_or_nat _ _ (by omega) (by omega), or_up _ _ _ hlt, hm]
set_option maxRecDepth 100000 in
set_option maxHeartbeats 1000000 in
theorem ofT (sv : Value) (n k : Nat) (l : List UInt8) (x : Nat) (w : World) (hs : Reads w 1 sv n (B l)) (hk : k ≤ n) (hk8 : k ≤ 8) (hl : l.take k = leb k x) (hx : x < 256 ^ k) (hx64 : x < 18446744073709551616) :
    Calls Tryd.prog 59 #[sv, .int .i64 k] w fun e w' => e = .returned (.int .u64 x) ∧ w' = w := by
  obtain ⟨sa, sc, rfl⟩ := hs.slice
  have hat : ∀ j, j < k → l[j]? = some (UInt8.ofNat (x / 256 ^ j % 256)) := fun j hj => by
    rw [← leb_at k x j hj, ← hl, List.getElem?_take_of_lt hj]
  have HAT := Lib.hid hat
  have HX := Lib.hid hx
  have HS := Lib.hid hs
  clear hat hl hx hs
  go_enter Tryd.func59, Tryd.ntmps59
  go_wp2
  go_loop [4, 5] (fun v i => ∃ j : Nat, j ≤ k ∧ i = .int .i64 j ∧ v = .int .u64 ((x % 256 ^ j : Nat) : Int)) (fun _ i => k - (intOf i).toNat)
  case atStart => exact ⟨0, by omega, rfl, by simp [Nat.mod_one]⟩
  case round =>
    obtain ⟨j, hj, rfl, rfl⟩ := hrel
    by_cases hlt : j < k
    · obtain ⟨ba, off, ca', hva, hca⟩ := HS.out.at (by omega) (by omega)
      cases hva
      have d0 := hca j (.int .u8 ((x / 256 ^ j % 256 : Nat) : Int)) (by
        rw [B_get, HAT.out j hlt]
        simp)
      have hjn : j < n := by omega
      have hst := of_step x j hx64
      have HST := Lib.hid hst
      have hb256 : x / 256 ^ j % 256 < 256 := Nat.mod_lt _ (by decide)
      clear hca hst
      generalize x / 256 ^ j % 256 = b at *
      generalize hy : x % 256 ^ j = y at *
      clear hy
      go_wp2
      go_round
      case measure => simp [intOf]; omega
      case rel => exact ⟨j + 1, by omega, by go_num, by rw [← HST.out]⟩
    · obtain rfl : j = k := by omega
      rw [Nat.mod_eq_of_lt HX.out]
      go_wp2
      go_ret
      exact ⟨rfl, rfl⟩
end Go.Proofs.YtbmidlaakbpnlaaDoor
