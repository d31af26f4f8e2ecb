/-
  CONTRACTS of the hash of descriptions, and of numbers as four bytes.
-/
import Derived.Test.YtbmidlaakbpnlaaDoorKb
import Derived.Shelf.Bits.Mul64
import Derived.Laws.Bits64
import Derived.Laws.MakeOwn
import Derived.Deep.QuietTactic
import Derived.BigQuiet
import Derived.BigRegion
namespace Go.Proofs.YtbmidlaakbpnlaaDoor
open Go.RowKit
open Go.ChangeShapes Go.WideShapes Go.ChangeAt Go.Deep
open Plain (M64)

/-- A number as n bytes, the least one first. -/
def leB : Nat → Nat → List UInt8
  | 0, _ => []
  | n + 1, v => UInt8.ofNat (v % 256) :: leB n (v / 256)
theorem leB_length : ∀ n v, (leB n v).length = n
  | 0, _ => rfl
  | n + 1, v => by simp [leB, leB_length n]
/-- One step of the hash. -/
def fnv1 (a b : Nat) (c : Nat) : Nat × Nat :=
  let t := b ^^^ c
  ((315 * t / 18446744073709551616 + (t * 16777216 % 18446744073709551616 + 315 * a % 18446744073709551616) % 18446744073709551616) % 18446744073709551616, 315 * t % 18446744073709551616)
def fnvs (h : Nat × Nat) (l : List UInt8) : Nat × Nat := l.foldl (fun h c => fnv1 h.1 h.2 c.toNat) h
set_option maxHeartbeats 1000000 in
theorem mul64 (x y : Nat) (hx : x < 18446744073709551616) (hy : y < 18446744073709551616) (w : World) :
    Calls Tryd.prog 48 #[.int .u64 x, .int .u64 y] w fun e w' => e = .returned (.tuple #[.int .u64 ((x * y / 18446744073709551616 : Nat) : Int), .int .u64 ((x * y % 18446744073709551616 : Nat) : Int)]) ∧ w' = w := by
  obtain ⟨bd, bt, bw, hhi⟩ := Go.Lib.mul64_hi x y hx hy
  have ba := Go.Lib.half_mul_le (a := x / 4294967296) (b := y / 4294967296) (by omega) (by omega)
  have bb := Go.Lib.half_mul_le (a := x / 4294967296) (b := y % 4294967296) (by omega) (by omega)
  have bc := Go.Lib.half_mul_le (a := x % 4294967296) (b := y / 4294967296) (by omega) (by omega)
  have ba' : x / 4294967296 * (y / 4294967296) < 18446744073709551616 := by omega
  have bb' : x / 4294967296 * (y % 4294967296) < 18446744073709551616 := by omega
  have bc' : x % 4294967296 * (y / 4294967296) < 18446744073709551616 := by omega
  have bh1 : x / 4294967296 * (y / 4294967296) + (x / 4294967296 * (y % 4294967296) + x % 4294967296 * (y % 4294967296) / 4294967296) / 4294967296 < 18446744073709551616 := by omega
  have bh : x / 4294967296 * (y / 4294967296) + (x / 4294967296 * (y % 4294967296) + x % 4294967296 * (y % 4294967296) / 4294967296) / 4294967296 + ((x / 4294967296 * (y % 4294967296) + x % 4294967296 * (y % 4294967296) / 4294967296) % 4294967296 + x % 4294967296 * (y / 4294967296)) / 4294967296 < 18446744073709551616 := by omega
  go_enter Tryd.func48, Tryd.ntmps48
  go_wp2
  simp only [Mul64.maskN x hx, Mul64.maskN y hy, Mul64.divN, Mul64.mulN, Mul64.addN, Mul64.wrapN _ bd, Mul64.wrapN _ bb', Mul64.wrapN _ bt, Mul64.maskN _ bt, Mul64.wrapN _ bc', Mul64.wrapN _ bw, Mul64.wrapN _ ba', Mul64.wrapN _ bh1, Mul64.wrapN _ bh, Mul64.wrapM (x * y)]
  rw [hhi]
  go_ret2
  exact ⟨rfl, rfl⟩
set_option maxRecDepth 100000 in
theorem newFnv (w : World) :
    Calls Tryd.prog 25 #[] w fun e w' => e = .returned (.pointer (some ⟨w.heap.size, 0, none⟩)) ∧ Blk w' w.heap.size [.int .u64 7809847782465536322, .int .u64 7113472399480571277] 124 ∧ Keep Non w w' := by
  go_enter Tryd.func25, Tryd.ntmps25
  go_wp2
  go_ret
  exact ⟨rfl, Blk.new w [.int .u64 7809847782465536322, .int .u64 7113472399480571277] _, (Keep.refl _ _).alloc _⟩
set_option maxRecDepth 100000 in
theorem lePut (g c v : Nat) (xs : List Value) (w : World) (h : Row w 5 1 (.slice (some ⟨g, 0, none⟩) 4 c) 4 xs) (hv : v < 4294967296) :
    Calls Tryd.prog 52 #[.slice (some ⟨g, 0, none⟩) 4 c, .int .u32 v] w fun e w' => e = .returned (.tuple #[]) ∧ Row w' 5 1 (.slice (some ⟨g, 0, none⟩) 4 c) 4 (B (leB 4 v)) ∧ Keep (At g) w w' := by
  have f0 := h.free 0
  have f1 := h.free 1
  have f2 := h.free 2
  have f3 := h.free 3
  have hlt : g < w.heap.size := h.lt rfl
  have H := Lib.hid h
  have hl := h.len
  have c0 : w.cell? ⟨g, 0, none⟩ = some (xs[0]'(by omega)) := by rw [h.cell 0 (by omega)]; simp
  have c1 : w.cell? ⟨g, 1, none⟩ = some (xs[1]'(by omega)) := by rw [h.cell 1 (by omega)]; simp
  have c2 : w.cell? ⟨g, 2, none⟩ = some (xs[2]'(by omega)) := by rw [h.cell 2 (by omega)]; simp
  have c3 : w.cell? ⟨g, 3, none⟩ = some (xs[3]'(by omega)) := by rw [h.cell 3 (by omega)]; simp
  clear h
  go_enter Tryd.func52, Tryd.ntmps52
  go_wp2
  go_end0
  refine ⟨rfl, ?_, (((((Keep.refl _ _).setAt _ _ _ (atSelf _)).setAt _ _ _ (atSelf _)).setAt _ _ _ (atSelf _)).setAt _ _ _ (atSelf _))⟩
  have h := ((((H.out.store 0 (.int .u8 ((v : Int) % 256))).store 1 (.int .u8 ((v : Int) / 256 % 256))).store 2 (.int .u8 ((v : Int) / 65536 % 256))).store 3 (.int .u8 ((v : Int) / 16777216)))
  have e : ((((xs.set 0 (.int .u8 ((v : Int) % 256))).set 1 (.int .u8 ((v : Int) / 256 % 256))).set 2 (.int .u8 ((v : Int) / 65536 % 256))).set 3 (.int .u8 ((v : Int) / 16777216))) = B (leB 4 v) := by
    match xs, hl with
    | [a0, a1, a2, a3], _ =>
      simp [leB, B]
      omega
  rw [e] at h
  exact h

/-- AppendLe: le(b, v, 4). -/
def LePost (w : World) (v : Value) (n : Nat) (xs : List UInt8) (x : Nat) (e : Ending) (w' : World) : Prop :=
  ∃ v', e = .returned v' ∧ Row w' 5 1 v' (n + 4) (B (xs ++ leB 4 x)) ∧ Keep (Own v) w w' ∧ (∀ g, v'.ownBlock = some g → v.ownBlock = some g ∨ w.heap.size ≤ g)
theorem leB_take (x k : Nat) (hk : k < 4) : (leB 4 x).take (k + 1) = (leB 4 x).take k ++ [UInt8.ofNat (x / 2 ^ (8 * k) % 256)] := by
  match k, hk with
  | 0, _ => simp [leB]
  | 1, _ => simp [leB]
  | 2, _ => simp [leB, Nat.div_div_eq_div_mul]
  | 3, _ => simp [leB, Nat.div_div_eq_div_mul]
set_option maxRecDepth 100000 in
set_option maxHeartbeats 1000000 in
theorem le4 (v : Value) (n : Nat) (xs : List UInt8) (x : Nat) (w : World) (_hx : x < 4294967296) (hown : Row w 5 1 v n (B xs)) (hn : n ≤ 1099511627776) :
    Calls Tryd.prog 50 #[v, .int .u64 x, .int .i64 4] w (LePost w v n xs x) := by
  go_enter Tryd.func50, Tryd.ntmps50
  go_wp2
  go_loopw [0, 7] (fun bv i wr => ∃ k : Nat, k ≤ 4 ∧ i = .int .i64 k ∧ Row wr 5 1 bv (n + k) (B (xs ++ (leB 4 x).take k)) ∧ Keep (Own v) w wr ∧ (∀ g, bv.ownBlock = some g → v.ownBlock = some g ∨ w.heap.size ≤ g)) (fun _ i _ => 4 - (intOf i).toNat)
  case atStart => exact ⟨0, by omega, rfl, by simpa using hown, Keep.refl _ _, fun g h => .inl h⟩
  case round =>
    obtain ⟨k, hk, rfl, hr, hkp, hl⟩ := hrel
    by_cases hlt : k < 4
    · have hT := leB_take x k hlt
      have HT := Lib.hid hT
      have HK := Lib.hid hkp
      have HL := Lib.hid hl
      clear hT hkp hl
      go_wp2_with (at_builtin; go_must (refine wpList_app sliceBytes rfl _ _ rfl rfl (hr.alloc _) rfl (Reads.one _ _ _) (int_one _ _) (by unfold maxLen; omega) (by omega) ?_); intro v' w1 hr1 hg1 hn1)
      go_roundw
      case measure => simp [intOf]; omega
      case rel =>
        refine ⟨k + 1, by omega, by go_num, ?_, (HK.out.alloc _).trans hg1.keep (fun i hi h => (HL.out i h).resolve_right (by omega)), fun g hg => ?_⟩
        · have e : [Value.int .u8 ((x : Int) / 2 ^ (8 * k) % 256)] = B [UInt8.ofNat (x / 2 ^ (8 * k) % 256)] := by
            simp [B]
          rw [e, ← B_append, List.append_assoc, ← HT.out] at hr1
          exact hr1
        · rcases hg1.lies hg with h | h
          · exact HL.out g h
          · right; have := HK.out.size; simp at h; omega
    · obtain rfl : k = 4 := by omega
      have HK := Lib.hid hkp
      have HL := Lib.hid hl
      clear hkp hl
      go_wp2
      go_ret
      refine ⟨_, rfl, ?_, HK.out, HL.out⟩
      rw [List.take_of_length_le (by simp [leB_length])] at hr
      exact hr
theorem fnv_wrap (hi t p : Nat) : IntKind.u64.wrap ((hi : Int) + IntKind.u64.wrap (IntKind.u64.wrap ((t : Int) * 16777216) + IntKind.u64.wrap (315 * (p : Int)))) = (((hi + (t * 16777216 % 18446744073709551616 + 315 * p % 18446744073709551616) % 18446744073709551616) % 18446744073709551616 : Nat) : Int) := by
  rw [show (t : Int) * 16777216 = ((t * 16777216 : Nat) : Int) by omega, show 315 * (p : Int) = ((315 * p : Nat) : Int) by omega, Mul64.wrapM, Mul64.wrapM, Mul64.addN, Mul64.wrapM, Mul64.addN, Mul64.wrapM]
theorem fnv1_eq (p q c hi lo t : Nat) (ht : t = q ^^^ c) (hh : hi = 315 * t / 18446744073709551616) (hl : lo = 315 * t % 18446744073709551616) : fnv1 p q c = ((hi + (t * 16777216 % 18446744073709551616 + 315 * p % 18446744073709551616) % 18446744073709551616) % 18446744073709551616, lo) := by
  subst ht; subst hh; subst hl
  simp only [fnv1]
theorem xor_lt (q c : Nat) (hq : q < 18446744073709551616) (hc : c < 256) : q ^^^ c < 18446744073709551616 := Nat.xor_lt_two_pow (n := 64) hq (by omega)
set_option maxRecDepth 100000 in
set_option maxHeartbeats 2000000 in
theorem fnvWrite (g a b : Nat) (sv : Value) (l : List UInt8) (w : World) (hb : Blk w g [.int .u64 a, .int .u64 b] 124) (ha : a < 18446744073709551616) (hbb : b < 18446744073709551616) (hs : Reads w 1 sv l.length (B l)) (hl : l.length ≤ 1000000) (hne : 0 < l.length → sv.ownBlock ≠ some g) :
    Calls Tryd.prog 28 #[.pointer (some ⟨g, 0, none⟩), sv] w fun e w' => e = .returned (.tuple #[.int .i64 l.length, .nilIface]) ∧ Blk w' g [.int .u64 (fnvs (a, b) l).1, .int .u64 (fnvs (a, b) l).2] 124 ∧ Keep (At g) w w' := by
  obtain ⟨sa, sc, rfl⟩ := hs.slice
  go_enter Tryd.func28, Tryd.ntmps28
  go_wp2
  go_loopw [12] (fun i wr => ∃ (k p q : Nat), k ≤ l.length ∧ i = .int .i64 k ∧ fnvs (a, b) (l.take k) = (p, q) ∧ p < 18446744073709551616 ∧ q < 18446744073709551616 ∧ Blk wr g [.int .u64 p, .int .u64 q] 124 ∧ Keep (At g) w wr) (fun i _ => l.length - (intOf i).toNat)
  case atStart => exact ⟨0, a, b, by omega, rfl, rfl, ha, hbb, hb, Keep.refl _ _⟩
  case round =>
    obtain ⟨k, p, q, hk, rfl, hf, hp, hq, hB, hkp⟩ := hrel
    by_cases hlt : k < l.length
    · have hs' := hs.keepIf hkp (fun h0 b' hb' e => hne h0 (by rw [hb', show b' = g from e]))
      obtain ⟨ba, off, ca', hva, hca⟩ := hs'.at (by omega) (by omega)
      cases hva
      have d0 := hca k (.int .u8 (l[k].toNat : Int)) (by rw [B_get, List.getElem?_eq_getElem hlt]; rfl)
      have hc8 : l[k].toNat < 256 := l[k].toNat_lt
      have hfs : fnvs (a, b) (l.take (k + 1)) = fnv1 p q l[k].toNat := by
        rw [List.take_succ_eq_append_getElem hlt, fnvs, List.foldl_append]
        simp only [List.foldl_cons, List.foldl_nil]
        rw [show (l.take k).foldl (fun h c => fnv1 h.1 h.2 c.toNat) (a, b) = (p, q) from hf]
      have x0 : wr.cell? ⟨g, 0, none⟩ = some (.int .u64 p) := by rw [hB.cell]; rfl
      have x1 : wr.cell? ⟨g, 1, none⟩ = some (.int .u64 q) := by rw [hB.cell]; rfl
      have f0 := hB.free 0
      have f1 := hB.free 1
      have hgz := hB.lt
      have HF := Lib.hid hfs
      have HB := Lib.hid hB
      have HK := Lib.hid hkp
      clear hfs hB hkp hf hs' hca
      generalize l[k].toNat = c at *
      have hxor := bits_xor_u64_nat q c hq (by omega)
      have htl : q ^^^ c < 18446744073709551616 := xor_lt q c hq hc8
      obtain ⟨t, ht⟩ : ∃ t, t = q ^^^ c := ⟨_, rfl⟩
      rw [← ht] at hxor htl
      obtain ⟨hi, hhi⟩ : ∃ hi, hi = 315 * t / 18446744073709551616 := ⟨_, rfl⟩
      obtain ⟨lo, hlo⟩ : ∃ lo, lo = 315 * t % 18446744073709551616 := ⟨_, rfl⟩
      have hMul := mul64 315 t (by omega) htl
      rw [← hhi, ← hlo] at hMul
      have hhl : hi < 18446744073709551616 := by omega
      have hll : lo < 18446744073709551616 := by omega
      have HM : Hid (∀ w : World, Calls Tryd.prog 48 #[.int .u64 315, .int .u64 t] w fun e w' => e = .returned (.tuple #[.int .u64 hi, .int .u64 lo]) ∧ w' = w) := Lib.hid hMul
      have HHI := Lib.hid hhi
      have HLO := Lib.hid hlo
      have HTT := Lib.hid ht
      clear hMul hhi hlo ht
      go_wp2_with fail
      go_region
      all_goals
        go_wp2_with (go_at_call 48; go_must (refine (HM.out _).mono ?_); rintro e w2 ⟨rfl, rfl⟩)
      all_goals
        go_quiet (fail)
      go_wp2_with fail
      go_roundw
      case measure => simp [intOf]; omega
      case rel =>
        rw [fnv_wrap hi t p]
        have hfe := fnv1_eq p q c hi lo t HTT.out HHI.out HLO.out
        refine ⟨k + 1, _, _, by omega, by go_num, HF.out.trans hfe, Nat.mod_lt _ (by decide), hll, ?_, ((((HK.out.setAt _ _ _ (atSelf _)).drewN _).setAt _ _ _ (atSelf _)).setAt _ _ _ (atSelf _))⟩
        exact ((((HB.out.set 1 (.int .u64 t)).drewN (1 + nq)).set 1 (.int .u64 lo)).set 0 _)
    · obtain rfl : k = l.length := by omega
      rw [List.take_of_length_le (Nat.le_refl _)] at hf
      have HF := Lib.hid hf
      have HB := Lib.hid hB
      have HK := Lib.hid hkp
      clear hf hB hkp
      go_wp2
      go_ret2
      exact ⟨rfl, by rw [HF.out]; exact HB.out, HK.out⟩
end Go.Proofs.YtbmidlaakbpnlaaDoor
