/-
  CONTRACT: the reader's Read into whatever block. (taken by a program out of the texts of seat A.)
-/
import Derived.Test.YtcpegoofbenoiaaGreatDoorZKt
import Derived.Deep.RegionHeld3
import Derived.Test.YtcpegoofbenoiaaGreatDoorZGTab
import Derived.Lib.ItoaNum
namespace Go.Proofs.YtcpegoofbenoiaaGreatDoor
open Go.RowKit
open Go.ChangeShapes Go.WideShapes Go.ChangeAt Go.Deep
open Plain (M64)

set_option maxRecDepth 100000 in
set_option maxHeartbeats 2000000 in
theorem readInto (bb c g gb p m : Nat) (bs : List Nat) (zs : List Value) (T : TypeId) (w : World) (hb : Blk w g (rcells (.slice (some ⟨bb, 0, none⟩) bs.length c) p) 129) (hs : Reads w 1 (.slice (some ⟨bb, 0, none⟩) bs.length c) bs.length (By bs)) (hc : bs.length ≤ c)
    (hlen : bs.length ≤ 1000000) (hp : p ≤ bs.length) (hm : m ≤ 1000000) (hz : zs.length = m) (hbb : Blk w gb zs T) (hne : gb ≠ g) :
    Calls Tryz.prog 158 #[.pointer (some ⟨g, 0, none⟩), .slice (some ⟨gb, 0, none⟩) m m] w fun e w' => e = .returned (.tuple #[.int .i64 (min m (bs.length - p) : Nat), .nilIface]) ∧
      Blk w' g (rcells (.slice (some ⟨bb, 0, none⟩) bs.length c) (p + min m (bs.length - p))) 129 ∧ Blk w' gb (splice zs 0 ((By (bs.drop p)).take (min (bs.length - p) m))) T ∧ Keep (fun i => i = g ∨ i = gb) w w' := by
  have hsub := subV_reads (lo := p) (m := bs.length - p) hs (by omega) hc
  rw [List.take_of_length_le (by simp)] at hsub
  have c0 : w.cell? ⟨g, 0, none⟩ = some (.slice (some ⟨bb, 0, none⟩) bs.length c) := by rw [hb.cell]; rfl
  have c2 : w.cell? ⟨g, 2, none⟩ = some (.int .i64 (p : Int)) := by rw [hb.cell]; rfl
  have HB := Lib.hid hb
  have HBB := Lib.hid hbb
  have HNE := Lib.hid (show ¬ At gb g from fun e => hne (Eq.symm e))
  have HZ := Lib.hid hz
  have hzl : m ≤ zs.length := by omega
  clear hb hbb hne hs hz
  unfold subV at hsub
  by_cases he : c = p
  · rw [if_pos he, show c - p = 0 by omega] at hsub
    subst he
    have hz0 : bs.length - c = 0 := by omega
    rw [hz0] at hsub ⊢
    rw [Nat.min_zero, Nat.zero_min]
    have SRC := Lib.hid hsub
    clear hsub hz0
    by_cases hm0 : 0 < m
    · go_enter Tryz.func158, Tryz.ntmps158
      go_wp2
      go_quiet (fail)
      have SRC' := Lib.hid (SRC.out.keep ((Keep.refl Non w).drewN nq) (fun _ _ h => h))
      have HBB' := Lib.hid (HBB.out.keep ((Keep.refl Non w).drewN nq) (fun h => h))
      have HB' := Lib.hid (HB.out.keep ((Keep.refl Non w).drewN nq) (fun h => h))
      go_wp2_with ((with_reducible show wpList _ _ _ (Oper.mk (some 27) _ _ _ _ _ :: _) _ _); go_must (refine wpList_cp (n := 0) (sv := .slice (some ⟨bb, 0, none⟩) 0 0) (g := gb) (off := 0) (dLen := m) (dCap := m) Tryz.underlying33 (by kernel_rfl) rfl (.tmp 25) (.tmp 26) rfl rfl rfl HBB'.out SRC'.out (by omega) (bytes_one _) ?_); intro w1 hb1 k1; have hg1 := HB'.out.keep k1 HNE.out; have d2 : w1.cell? ⟨g, 2, none⟩ = some (.int .i64 (c : Int)) := (by rw [hg1.cell]; rfl); have f2' := hg1.free 2)
      go_ret2
      refine ⟨rfl, ?_, ?_, ?_⟩
      · have := hg1.set 2 (.int .i64 ((c : Int) + (0 : Int)))
        simpa [rcells] using this
      · exact hb1.setOther (fun e => HNE.out (Eq.symm e)) _
      · refine Keep.setCell ?_ (fun _ => .inl rfl) _
        exact ((Keep.refl _ w).drewN nq).trans k1 (fun i _ h => .inr h)
    · obtain rfl : m = 0 := by omega
      go_enter Tryz.func158, Tryz.ntmps158
      go_wp2
      go_quiet (fail)
      have SRC' := Lib.hid (SRC.out.keep ((Keep.refl Non w).drewN nq) (fun _ _ h => h))
      have HBB' := Lib.hid (HBB.out.keep ((Keep.refl Non w).drewN nq) (fun h => h))
      have HB' := Lib.hid (HB.out.keep ((Keep.refl Non w).drewN nq) (fun h => h))
      go_wp2_with ((with_reducible show wpList _ _ _ (Oper.mk (some 27) _ _ _ _ _ :: _) _ _); go_must (refine wpList_cp (n := 0) (sv := .slice (some ⟨bb, 0, none⟩) 0 0) (g := gb) (off := 0) (dLen := 0) (dCap := 0) Tryz.underlying33 (by kernel_rfl) rfl (.tmp 25) (.tmp 26) rfl rfl rfl HBB'.out SRC'.out (by omega) (bytes_one _) ?_); intro w1 hb1 k1; have hg1 := HB'.out.keep k1 HNE.out; have d2 : w1.cell? ⟨g, 2, none⟩ = some (.int .i64 (c : Int)) := (by rw [hg1.cell]; rfl); have f2' := hg1.free 2)
      go_ret2
      refine ⟨rfl, ?_, ?_, ?_⟩
      · have := hg1.set 2 (.int .i64 ((c : Int) + (0 : Int)))
        simpa [rcells] using this
      · exact hb1.setOther (fun e => HNE.out (Eq.symm e)) _
      · refine Keep.setCell ?_ (fun _ => .inl rfl) _
        exact ((Keep.refl _ w).drewN nq).trans k1 (fun i _ h => .inr h)
  · rw [if_neg he] at hsub
    have SRC := Lib.hid hsub
    clear hsub
    by_cases hlt : bs.length - p < m
    · have hlt' : ((bs.length - p : Nat) : Int) < (m : Int) := by omega
      have hmin : min m (bs.length - p) = bs.length - p := by omega
      rw [hmin]
      clear hmin
      go_enter Tryz.func158, Tryz.ntmps158
      go_wp2
      go_quiet (fail)
      have SRC' := Lib.hid (SRC.out.keep ((Keep.refl Non w).drewN nq) (fun _ _ h => h))
      have HBB' := Lib.hid (HBB.out.keep ((Keep.refl Non w).drewN nq) (fun h => h))
      have HB' := Lib.hid (HB.out.keep ((Keep.refl Non w).drewN nq) (fun h => h))
      go_wp2_with ((with_reducible show wpList _ _ _ (Oper.mk (some 27) _ _ _ _ _ :: _) _ _); go_must (refine wpList_cp (n := bs.length - p) (sv := .slice (some ⟨bb, p, none⟩) (bs.length - p) (c - p)) (g := gb) (off := 0) (dLen := m) (dCap := m) Tryz.underlying33 (by kernel_rfl) rfl (.tmp 25) (.tmp 26) rfl rfl rfl HBB'.out SRC'.out (by omega) (bytes_one _) ?_); intro w1 hb1 k1; have hg1 := HB'.out.keep k1 HNE.out; have d2 : w1.cell? ⟨g, 2, none⟩ = some (.int .i64 (p : Int)) := (by rw [hg1.cell]; rfl); have f2' := hg1.free 2)
      go_ret2
      refine ⟨rfl, ?_, ?_, ?_⟩
      · have := hg1.set 2 (.int .i64 ((p : Int) + ((bs.length - p : Nat) : Int)))
        simpa [rcells] using this
      · exact hb1.setOther (fun e => HNE.out (Eq.symm e)) _
      · refine Keep.setCell ?_ (fun _ => .inl rfl) _
        exact ((Keep.refl _ w).drewN nq).trans k1 (fun i _ h => .inr h)
    · have hlt' : ¬ ((bs.length - p : Nat) : Int) < (m : Int) := by omega
      have hmin : min m (bs.length - p) = m := by omega
      rw [hmin]
      clear hmin
      go_enter Tryz.func158, Tryz.ntmps158
      go_wp2
      go_quiet (fail)
      have SRC' := Lib.hid (SRC.out.keep ((Keep.refl Non w).drewN nq) (fun _ _ h => h))
      have HBB' := Lib.hid (HBB.out.keep ((Keep.refl Non w).drewN nq) (fun h => h))
      have HB' := Lib.hid (HB.out.keep ((Keep.refl Non w).drewN nq) (fun h => h))
      go_wp2_with ((with_reducible show wpList _ _ _ (Oper.mk (some 27) _ _ _ _ _ :: _) _ _); go_must (refine wpList_cp (n := bs.length - p) (sv := .slice (some ⟨bb, p, none⟩) (bs.length - p) (c - p)) (g := gb) (off := 0) (dLen := m) (dCap := m) Tryz.underlying33 (by kernel_rfl) rfl (.tmp 25) (.tmp 26) rfl rfl rfl HBB'.out SRC'.out (by omega) (bytes_one _) ?_); intro w1 hb1 k1; have hg1 := HB'.out.keep k1 HNE.out; have d2 : w1.cell? ⟨g, 2, none⟩ = some (.int .i64 (p : Int)) := (by rw [hg1.cell]; rfl); have f2' := hg1.free 2)
      go_ret2
      refine ⟨rfl, ?_, ?_, ?_⟩
      · have := hg1.set 2 (.int .i64 ((p : Int) + (m : Int)))
        simpa [rcells] using this
      · exact hb1.setOther (fun e => HNE.out (Eq.symm e)) _
      · refine Keep.setCell ?_ (fun _ => .inl rfl) _
        exact ((Keep.refl _ w).drewN nq).trans k1 (fun i _ h => .inr h)
end Go.Proofs.YtcpegoofbenoiaaGreatDoor
/-
  CONTRACTS: numbers out of bytes; io.ReadFull over the reader of a slice.
-/
namespace Go.Proofs.YtcpegoofbenoiaaGreatDoor
open Go.RowKit
open Go.ChangeShapes Go.WideShapes Go.ChangeAt Go.Deep
open Plain (M64)

/-- A number as n bytes, the least one first. -/
def leb : Nat → Nat → List UInt8
  | 0, _ => []
  | n + 1, v => UInt8.ofNat (v % 256) :: leb n (v / 256)
theorem leb_length : ∀ n v, (leb n v).length = n
  | 0, _ => rfl
  | n + 1, v => by simp [leb, leb_length n]
theorem leb_at : ∀ n v j, j < n → (leb n v)[j]? = some (UInt8.ofNat (v / 256 ^ j % 256))
  | 0, _, _, h => by omega
  | n + 1, v, 0, _ => by simp [leb]
  | n + 1, v, j + 1, h => by
    have := leb_at n (v / 256) j (by omega)
    rw [leb, List.getElem?_cons_succ, this, Nat.div_div_eq_div_mul, Nat.pow_succ, Nat.mul_comm 256]
theorem of_step (x j : Nat) (hx : x < 18446744073709551616) :
    bits .or .u64 ((x % 256 ^ j : Nat) : Int) (IntKind.u64.wrap (((x / 256 ^ j % 256 : Nat) : Int) * 2 ^ (8 * j))) = ((x % 256 ^ (j + 1) : Nat) : Int) := by
  have e1 : ((x / 256 ^ j % 256 : Nat) : Int) * 2 ^ (8 * j) = ((x / 256 ^ j % 256 * 2 ^ (8 * j) : Nat) : Int) := by simp
  have ep : (256 : Nat) ^ j = 2 ^ (8 * j) := by rw [Nat.pow_mul]
  have hm : x % 256 ^ (j + 1) = x % 256 ^ j + x / 256 ^ j % 256 * 2 ^ (8 * j) := by
    rw [Nat.pow_succ, Nat.mod_mul, ep, Nat.mul_comm (2 ^ (8 * j))]
  have hle : x % 256 ^ (j + 1) ≤ x := Nat.mod_le _ _
  have hlt : x % 256 ^ j < 2 ^ (8 * j) := by rw [ep]; exact Nat.mod_lt _ (Nat.two_pow_pos _)
  have e2 : IntKind.u64.wrap ((x / 256 ^ j % 256 * 2 ^ (8 * j) : Nat) : Int) = ((x / 256 ^ j % 256 * 2 ^ (8 * j) : Nat) : Int) := by
    generalize x / 256 ^ j % 256 * 2 ^ (8 * j) = z at *
    simp [IntKind.wrap, IntKind.bits, IntKind.signed]
    omega
  rw [e1, e2, u64_or_nat _ _ (by omega) (by omega), or_up _ _ _ hlt, hm]
set_option maxRecDepth 100000 in
set_option maxHeartbeats 1000000 in
theorem ofT (sv : Value) (n k : Nat) (l : List UInt8) (x : Nat) (w : World) (hs : Reads w 1 sv n (B l)) (hk : k ≤ n) (hk8 : k ≤ 8) (hl : l.take k = leb k x) (hx : x < 256 ^ k) (hx64 : x < 18446744073709551616) :
    Calls Tryz.prog 76 #[sv, .int .i64 k] w fun e w' => e = .returned (.int .u64 x) ∧ w' = w := by
  obtain ⟨sa, sc, rfl⟩ := hs.slice
  have hat : ∀ j, j < k → l[j]? = some (UInt8.ofNat (x / 256 ^ j % 256)) := fun j hj => by
    rw [← leb_at k x j hj, ← hl, List.getElem?_take_of_lt hj]
  have HAT := Lib.hid hat
  have HX := Lib.hid hx
  have HS := Lib.hid hs
  clear hat hl hx hs
  go_enter Tryz.func76, Tryz.ntmps76
  go_wp2
  go_loop [4, 5] (fun v i => ∃ j : Nat, j ≤ k ∧ i = .int .i64 j ∧ v = .int .u64 ((x % 256 ^ j : Nat) : Int)) (fun _ i => k - (intOf i).toNat)
  case atStart => exact ⟨0, by omega, rfl, by simp [Nat.mod_one]⟩
  case round =>
    obtain ⟨j, hj, rfl, rfl⟩ := hrel
    by_cases hlt : j < k
    · obtain ⟨ba, off, ca', hva, hca⟩ := HS.out.at (by omega) (by omega)
      cases hva
      have d0 := hca j (.int .u8 ((x / 256 ^ j % 256 : Nat) : Int)) (by
        rw [B_get, HAT.out j hlt]
        simp)
      have hjn : j < n := by omega
      have hst := of_step x j hx64
      have HST := Lib.hid hst
      have hb256 : x / 256 ^ j % 256 < 256 := Nat.mod_lt _ (by decide)
      clear hca hst
      generalize x / 256 ^ j % 256 = b at *
      generalize hy : x % 256 ^ j = y at *
      clear hy
      go_wp2
      go_round
      case measure => simp [intOf]; omega
      case rel => exact ⟨j + 1, by omega, by go_num, by rw [← HST.out]⟩
    · obtain rfl : j = k := by omega
      rw [Nat.mod_eq_of_lt HX.out]
      go_wp2
      go_ret
      exact ⟨rfl, rfl⟩
end Go.Proofs.YtcpegoofbenoiaaGreatDoor
/-
  WORDS: what a file of counters holds, byte by byte; what a run says of itself.
-/
namespace Go.Proofs.YtcpegoofbenoiaaGreatDoor
open Go.RowKit
open Go.ChangeShapes Go.WideShapes Go.ChangeAt Go.Deep
open Plain (M64)

/-! ### What is written -/
/-- The counters of a function. -/
structure Fc where
  pkg : Nat
  fn : Nat
  cs : List Nat
/-- What one run left. -/
structure Sg where
  args : List ByteArray
  os : ByteArray
  arch : ByteArray
  funs : List Fc
/-- A number: by seven bits, or as four bytes. -/
def numB (packed : Bool) (v : Nat) : List UInt8 := if packed then uleb v else leb 4 v
def fcB (packed : Bool) (f : Fc) : List UInt8 := numB packed f.cs.length ++ numB packed f.pkg ++ numB packed f.fn ++ f.cs.flatMap (numB packed)
def fcsB (packed : Bool) (l : List Fc) : List UInt8 := l.flatMap (fcB packed)
def magicB : List UInt8 := [0, 99, 119, 109]
def zerosB (n : Nat) : List UInt8 := List.replicate n 0
/-- The head of the file, of a segment, and what stands behind a segment. -/
def headB (hash : List UInt8) (fl : Nat) : List UInt8 := magicB ++ leb 4 1 ++ hash ++ [UInt8.ofNat fl, 0, 0, 0, 0, 0, 0, 0]
def shdrB (fe st al : Nat) : List UInt8 := leb 8 fe ++ leb 4 st ++ leb 4 al
def footB (n : Nat) : List UInt8 := magicB ++ [0, 0, 0, 0] ++ leb 4 n ++ [0, 0, 0, 0]
/-- Pairs of places in the table of texts; as many zeros as there are to the next four. -/
def prB (x : Nat × Nat) : List UInt8 := uleb x.1 ++ uleb x.2
def prsB (prs : List (Nat × Nat)) : List UInt8 := uleb prs.length ++ prs.flatMap prB
def padB (n : Nat) : List UInt8 := zerosB ((4 - n % 4) % 4)
def argB (n : Nat) (prs : List (Nat × Nat)) : List UInt8 := prsB prs ++ padB (16 + n + (prsB prs).length)
/-- A segment. -/
def segB (packed : Bool) (fe : Nat) (all : List ByteArray) (prs : List (Nat × Nat)) (fs : List Fc) : List UInt8 :=
  shdrB fe (tbytes all).length (argB (tbytes all).length prs).length ++ tbytes all ++ argB (tbytes all).length prs ++ fcsB packed fs
theorem shdrB_length (fe st al : Nat) : (shdrB fe st al).length = 16 := by simp [shdrB, leb_length]
theorem footB_length (n : Nat) : (footB n).length = 16 := by simp [footB, magicB, leb_length]
theorem headB_length {hash : List UInt8} (h : hash.length = 16) (fl : Nat) : (headB hash fl).length = 32 := by simp [headB, magicB, leb_length, h]
theorem padB_length (n : Nat) : (padB n).length = (4 - n % 4) % 4 := by simp [padB, zerosB]
theorem argB_length (n : Nat) (prs : List (Nat × Nat)) : (argB n prs).length = (prsB prs).length + (4 - (16 + n + (prsB prs).length) % 4) % 4 := by
  simp [argB, padB_length]
theorem seg4 (n : Nat) (prs : List (Nat × Nat)) : (16 + n + (argB n prs).length) % 4 = 0 := by
  rw [argB_length]; omega
theorem segB_length (packed : Bool) (fe : Nat) (all : List ByteArray) (prs : List (Nat × Nat)) (fs : List Fc) : (segB packed fe all prs fs).length = 16 + (tbytes all).length + (argB (tbytes all).length prs).length + (fcsB packed fs).length := by
  simp [segB, shdrB_length]; omega
theorem numB_len (packed : Bool) {v : Nat} (h : v < 4294967296) : (numB packed v).length ≤ 5 := by
  unfold numB
  split
  · have := uleb_len 5 v (by omega); omega
  · rw [leb_length]; omega
theorem nums_len (packed : Bool) : ∀ (l : List Nat), (∀ v ∈ l, v < 4294967296) → (l.flatMap (numB packed)).length ≤ 5 * l.length
  | [], _ => by simp
  | v :: l, h => by
    have h1 := numB_len packed (h v List.mem_cons_self)
    have h2 := nums_len packed l (fun x hx => h x (List.mem_cons_of_mem _ hx))
    rw [List.flatMap_cons, List.length_append, List.length_cons]
    omega
theorem uleb_one {v : Nat} (h : v < 128) : (uleb v).length = 1 := by rw [uleb_small h]; rfl
theorem prs_len : ∀ (l : List (Nat × Nat)), (∀ x ∈ l, x.1 < 128 ∧ x.2 < 128) → (l.flatMap prB).length = 2 * l.length
  | [], _ => by simp
  | x :: l, h => by
    obtain ⟨h1, h2⟩ := h x List.mem_cons_self
    have h3 := prs_len l (fun x hx => h x (List.mem_cons_of_mem _ hx))
    rw [List.flatMap_cons, List.length_append, List.length_cons, h3, prB, List.length_append, uleb_one h1, uleb_one h2]
    omega
theorem prsB_len {l : List (Nat × Nat)} (h : ∀ x ∈ l, x.1 < 128 ∧ x.2 < 128) (hl : l.length < 128) : (prsB l).length = 1 + 2 * l.length := by
  rw [prsB, List.length_append, uleb_one hl, prs_len l h]

/-! ### What a run says of itself -/
def kOs : ByteArray := ⟨#[71, 79, 79, 83]⟩
def kArch : ByteArray := ⟨#[71, 79, 65, 82, 67, 72]⟩
def kArgc : ByteArray := ⟨#[97, 114, 103, 99]⟩
def kArgv : ByteArray := ⟨#[97, 114, 103, 118]⟩
/-- A number's text, of one digit. -/
def dig (i : Nat) : ByteArray := ⟨#[UInt8.ofNat (48 + i)]⟩
theorem dig_eq {i : Nat} (h : i < 10) : (⟨(Lib.decDigits i).toArray⟩ : ByteArray) = dig i := by rw [Lib.decDigits, dif_pos h]; rfl
def argvs : Nat → List ByteArray → List (ByteArray × ByteArray)
  | _, [] => []
  | i, a :: l => (kArgv ++ dig i, a) :: argvs (i + 1) l
def pairs (s : Sg) : List (ByteArray × ByteArray) :=
  (if s.os.size = 0 then [] else [(kOs, s.os)]) ++ ((if s.arch.size = 0 then [] else [(kArch, s.arch)]) ++ (if s.args = [] then [] else (kArgc, dig s.args.length) :: argvs 0 s.args))
theorem argvs_len : ∀ (l : List ByteArray) (i : Nat), (argvs i l).length = l.length
  | [], _ => rfl
  | _ :: l, i => by simp [argvs, argvs_len l]
theorem pairs_len (s : Sg) : (pairs s).length ≤ 3 + s.args.length := by
  unfold pairs
  split <;> split <;> split <;> simp_all [argvs_len] <;> omega
end Go.Proofs.YtcpegoofbenoiaaGreatDoor
