/-
  CONTRACTS of the reference's reader.
-/
import Derived.Test.YtfcdedcffmpjjaaRead2
import Derived.Test.YtfcdedcffmpjjaaStep
namespace Go.Proofs.Ytfcdedcffmpjjaa
open Go.RowKit
open Go.ChangeShapes Go.WideShapes Go.ChangeAt Go.Deep
open Plain (M64)

/-- What stands in the reference's reader. -/
def scells (s : Value) (at' : Nat) (ok : Bool) : List Value := [s, .int .i64 at', .bool ok]
/-- 's[lo:lo+m]', wherever s lies. -/
def subA (a : Option Addr) (lo m c : Nat) : Value := .slice (if c = lo then a else a.map (·.add lo)) m (c - lo)
theorem run_subA (a : Option Addr) (n c lo m : Nat) (h : lo + m ≤ c) (W : World) :
    (Instr.slice 28 (.slice a n c) (some (.int .i64 lo)) (some (.int .i64 ((lo + m : Nat) : Int))) none).run Try.prog W = .ok (subA a lo m c) W := by
  rw [run_slice_lh _ _ _ _ _ bytesElem _ _ _ _ (by omega) (by omega) (by omega), bytesSize]
  simp only [Result.andThen, sliced, Int.toNat_natCast, subA]
  rw [show lo + m - lo = m by omega, Nat.mul_one]
theorem subA_reads {w : World} {a : Option Addr} {n c lo m : Nat} {bs : List Nat} (h : Reads w 1 (.slice a n c) n (By bs)) (hm : lo + m ≤ n) (hc : n ≤ c) : Reads w 1 (subA a lo m c) m (By ((bs.drop lo).take m)) := by
  have hlen : bs.length = n := by have := h.1; simpa [By] using this
  refine ⟨by simp [By]; omega, ?_⟩
  rcases h.2 with ⟨h', rfl⟩ | ⟨ad, c', h', hcell⟩
  · cases h'
    obtain rfl : m = 0 := by omega
    obtain rfl : lo = 0 := by omega
    exact .inl ⟨rfl, rfl⟩
  · cases h'
    refine .inr ⟨if c = lo then ad else ad.add lo, c - lo, ?_, fun j u hj => ?_⟩
    · unfold subA
      split <;> rfl
    · have hjm : j < m := by
        have := (List.getElem?_eq_some_iff.1 hj).1
        simp [By] at this; omega
      rw [if_neg (by omega), Go.Deep.add_add]
      refine hcell (lo + j) u ?_
      rw [← hj, ← By_sub, List.getElem?_take_of_lt hjm, List.getElem?_drop]
/-- make([]byte, m). -/
theorem mkBytes (m : Nat) (hm : m ≤ 1000000000) (w : World) : (Instr.makeSlice 28 (.int .i64 (m : Int)) (.int .i64 (m : Int))).run Try.prog w = .ok (.slice (some ⟨w.heap.size, 0, none⟩) m m) (w.alloc (.cells (By (List.replicate m 0)).toArray 5)) := by
  rw [run_make_row' (P := Try.prog) 28 5 (.int .u8 0) 1 Try.underlying28 (by kernel_rfl) rfl .i64 .i64 m (by omega) (by omega) w]
  have e : madeCells #[.int .u8 0] m = (By (List.replicate m 0)).toArray := by
    have := toList_madeCells_one (.int .u8 0) m
    rw [← Array.toArray_toList (xs := madeCells _ _), this]
    simp [By]
  rw [e]
/-- What 'take' has done: the bytes are read, and the reader stands behind them. -/
def TakePost (s : Value) (g p n : Nat) (bs : List Nat) (w : World) (e : Ending) (w' : World) : Prop :=
  ∃ v, e = .returned v ∧ Reads w' 1 v n (By ((bs.drop p).take n)) ∧ Blk w' g (scells s (p + n) true) 110 ∧ Keep (At g) w w'
/-- What 'take' has done where the bytes are not there: zeros, and nothing is stated from now on. -/
def TakeBad (s : Value) (g p m : Nat) (w : World) (e : Ending) (w' : World) : Prop :=
  ∃ v, e = .returned v ∧ Reads w' 1 v m (By (List.replicate m 0)) ∧ Blk w' g (scells s p false) 110 ∧ Keep (At g) w w'
set_option maxRecDepth 100000 in
set_option maxHeartbeats 2000000 in
theorem sTake (a : Option Addr) (c g p n : Nat) (bs : List Nat) (w : World) (hb : Blk w g (scells (.slice a bs.length c) p true) 110) (hs : Reads w 1 (.slice a bs.length c) bs.length (By bs)) (hc : bs.length ≤ c)
    (hlen : bs.length ≤ 2147483647) (hp : p + n ≤ bs.length) (hne : 0 < bs.length → ∀ b, (Value.slice a bs.length c).ownBlock = some b → b ≠ g) :
    Calls Try.prog 52 #[.pointer (some ⟨g, 0, none⟩), .int .i64 n] w (TakePost (.slice a bs.length c) g p n bs w) := by
  have c0 : w.cell? ⟨g, 0, none⟩ = some (.slice a bs.length c) := by rw [hb.cell]; rfl
  have c1 : w.cell? ⟨g, 1, none⟩ = some (.int .i64 (p : Int)) := by rw [hb.cell]; rfl
  have c2 : w.cell? ⟨g, 2, none⟩ = some (.bool true) := by rw [hb.cell]; rfl
  have f1 := hb.free 1
  have HB := Lib.hid hb
  have HS := Lib.hid hs
  have HNE := Lib.hid hne
  clear hb hs hne
  have hend : ∀ (k k' : Nat) (W : World), W = ((w.drewN k).setCell ⟨g, 1, none⟩ (.int .i64 ((p : Int) + (n : Int)))).drewN k' → TakePost (.slice a bs.length c) g p n bs w (.returned (subA a p n c)) W := by
    rintro k k' W rfl
    have K : Keep (At g) w _ := (((Keep.refl (At g) w).drewN k).setAt g 1 (.int .i64 ((p : Int) + (n : Int))) (atSelf g)).drewN k'
    refine ⟨_, rfl, ?_, ?_, K⟩
    · refine (subA_reads HS.out hp hc).keepIf K (fun h0 b hb' e => ?_)
      refine HNE.out (by omega) b ?_ e
      unfold subA at hb'
      split at hb'
      · cases a with
        | none => simp [Value.ownBlock] at hb'
        | some ad => exact hb'
      · cases a with
        | none => simp [Value.ownBlock] at hb'
        | some ad =>
          simp only [Value.ownBlock, Option.map_some, Option.some.injEq] at hb' ⊢
          rw [← hb']; unfold Addr.add; split <;> rfl
    · have := ((HB.out.drewN k).set 1 (.int .i64 ((p : Int) + (n : Int)))).drewN k'
      simpa [scells] using this
  have hd1 : decide ((n : Int) < 0) = false := by simp
  have hd2 : decide ((bs.length : Int) - (p : Int) < (n : Int)) = false := by simp; omega
  have hsl : ∀ W, (Instr.slice 28 (.slice a bs.length c) (some (.int .i64 p)) (some (.int .i64 ((p : Int) + (n : Int)))) none).run Try.prog W = .ok (subA a p n c) W := fun W => by
    have := run_subA a bs.length c p n (by omega) W
    simpa using this
  go_enter Try.func52, Try.ntmps52
  go_wp2
  go_quiet (fail)
  go_wp2
  go_quiet (fail)
  go_wp2
  go_ret
  exact hend _ _ _ rfl
set_option maxRecDepth 100000 in
set_option maxHeartbeats 4000000 in
theorem sTakeBad (a : Option Addr) (c len g p : Nat) (ok : Bool) (n : Int) (w : World) (hb : Blk w g (scells (.slice a len c) p ok) 110)
    (hlen : len ≤ 2147483647) (hp : p ≤ len) (hbad : ok = false ∨ n < 0 ∨ (len : Int) - p < n) :
    Calls Try.prog 52 #[.pointer (some ⟨g, 0, none⟩), .int .i64 n] w (TakeBad (.slice a len c) g p (min n 8).toNat w) := by
  have c0 : w.cell? ⟨g, 0, none⟩ = some (.slice a len c) := by rw [hb.cell]; rfl
  have c1 : w.cell? ⟨g, 1, none⟩ = some (.int .i64 (p : Int)) := by rw [hb.cell]; rfl
  have c2 : w.cell? ⟨g, 2, none⟩ = some (.bool ok) := by rw [hb.cell]; rfl
  have f1 := hb.free 2
  have HB := Lib.hid hb
  clear hb
  have hend : ∀ (m k : Nat) (cs : List Value), m ≤ 8 → cs = By (List.replicate m 0) → TakeBad (.slice a len c) g p m w (.returned (.slice (some ⟨w.heap.size, 0, none⟩) m m)) (((w.drewN k).setCell ⟨g, 2, none⟩ (.bool false)).alloc (.cells cs.toArray 5)) := by
    rintro m k _ hm rfl
    refine ⟨_, rfl, ?_, ?_, ?_⟩
    · have := (Row.lit ((w.drewN k).setCell ⟨g, 2, none⟩ (.bool false)) 5 1 (By (List.replicate m 0)) m (by unfold maxLen; omega) (by simp [By])).reads
      simpa using this
    · have := ((HB.out.drewN k).set 2 (.bool false)).alloc (.cells (By (List.replicate m 0)).toArray 5)
      simpa [scells] using this
    · exact (((Keep.refl (At g) w).drewN k).setAt g 2 (.bool false) (atSelf g)).alloc _
  have HEND := Lib.hid hend
  clear hend
  have hn : n < 0 ∨ (0 ≤ n ∧ n ≤ 8) ∨ 8 < n := by omega
  cases ok
  · clear hbad
    rcases hn with hn | ⟨hn, hn'⟩ | hn
    · have hm : (min n 8).toNat = 0 := by omega
      rw [hm]
      clear hm
      have mk : ∀ W, (Instr.makeSlice 28 (.int .i64 0) (.int .i64 0)).run Try.prog W = _ := fun W => mkBytes 0 (by omega) W
      go_enter Try.func52, Try.ntmps52
      go_wp2
      go_quiet (fail)
      go_wp2
      go_ret
      exact HEND.out 0 _ _ (by omega) rfl
    · obtain ⟨m, rfl⟩ := Int.eq_ofNat_of_zero_le hn
      have hm : (min (m : Int) 8).toNat = m := by omega
      rw [hm]
      clear hm
      have mk : ∀ W, (Instr.makeSlice 28 (.int .i64 m) (.int .i64 m)).run Try.prog W = _ := fun W => mkBytes m (by omega) W
      go_enter Try.func52, Try.ntmps52
      go_wp2
      go_quiet (fail)
      go_wp2
      go_ret
      exact HEND.out m _ _ (by omega) rfl
    · have hm : (min n 8).toNat = 8 := by omega
      rw [hm]
      clear hm
      have mk : ∀ W, (Instr.makeSlice 28 (.int .i64 8) (.int .i64 8)).run Try.prog W = _ := fun W => mkBytes 8 (by omega) W
      go_enter Try.func52, Try.ntmps52
      go_wp2
      go_quiet (fail)
      go_wp2
      go_ret
      exact HEND.out 8 _ _ (by omega) rfl
  · replace hbad : n < 0 ∨ (len : Int) - p < n := by
      rcases hbad with h | h
      · cases h
      · exact h
    rcases hn with hn | ⟨hn, hn'⟩ | hn
    · clear hbad
      have hm : (min n 8).toNat = 0 := by omega
      rw [hm]
      clear hm
      have hd1 : decide (n < 0) = true := by simpa using hn
      have mk : ∀ W, (Instr.makeSlice 28 (.int .i64 0) (.int .i64 0)).run Try.prog W = _ := fun W => mkBytes 0 (by omega) W
      go_enter Try.func52, Try.ntmps52
      go_wp2
      go_quiet (fail)
      go_wp2
      go_ret
      exact HEND.out 0 _ _ (by omega) rfl
    · obtain ⟨m, rfl⟩ := Int.eq_ofNat_of_zero_le hn
      have hgt : (len : Int) - (p : Int) < (m : Int) := by omega
      have hm : (min (m : Int) 8).toNat = m := by omega
      rw [hm]
      clear hm hbad
      have hd1 : decide ((m : Int) < 0) = false := by simp
      have hd2 : decide ((len : Int) - (p : Int) < (m : Int)) = true := by simpa using hgt
      have mk : ∀ W, (Instr.makeSlice 28 (.int .i64 m) (.int .i64 m)).run Try.prog W = _ := fun W => mkBytes m (by omega) W
      go_enter Try.func52, Try.ntmps52
      go_wp2
      go_quiet (fail)
      go_wp2
      go_ret
      exact HEND.out m _ _ (by omega) rfl
    · have hgt : (len : Int) - (p : Int) < n := by omega
      have hm : (min n 8).toNat = 8 := by omega
      rw [hm]
      clear hm hbad
      have hd1 : decide (n < 0) = false := by simp; omega
      have hd2 : decide ((len : Int) - (p : Int) < n) = true := by simpa using hgt
      have mk : ∀ W, (Instr.makeSlice 28 (.int .i64 8) (.int .i64 8)).run Try.prog W = _ := fun W => mkBytes 8 (by omega) W
      go_enter Try.func52, Try.ntmps52
      go_wp2
      go_quiet (fail)
      go_wp2
      go_ret
      exact HEND.out 8 _ _ (by omega) rfl
set_option maxRecDepth 100000 in
set_option maxHeartbeats 2000000 in
/-- A seek of the reference's reader. -/
theorem sSeek (a : Option Addr) (c len g p : Nat) (ok : Bool) (n : Int) (w : World) (hb : Blk w g (scells (.slice a len c) p ok) 110) (h1 : -5000000000 ≤ n) (h2 : n ≤ 5000000000) :
    Calls Try.prog 53 #[.pointer (some ⟨g, 0, none⟩), .int .i64 n] w fun e w' => e = .returned (.int .u64 (if 0 ≤ n ∧ n ≤ len then n.toNat else 18446744073709551615 : Nat)) ∧
      Blk w' g (scells (.slice a len c) (if 0 ≤ n ∧ n ≤ len then n.toNat else p) ok) 110 ∧ Keep (At g) w w' := by
  have c0 : w.cell? ⟨g, 0, none⟩ = some (.slice a len c) := by rw [hb.cell]; rfl
  have c1 : w.cell? ⟨g, 1, none⟩ = some (.int .i64 (p : Int)) := by rw [hb.cell]; rfl
  have f1 := hb.free 1
  have HB := Lib.hid hb
  clear hb
  by_cases h : 0 ≤ n ∧ n ≤ len
  · rw [if_pos h, if_pos h]
    obtain ⟨m, rfl⟩ := Int.eq_ofNat_of_zero_le h.1
    obtain ⟨h3, h4⟩ := h
    rw [Int.toNat_natCast]
    go_enter Try.func53, Try.ntmps53
    go_wp2
    go_ret
    refine ⟨rfl, ?_, (Keep.refl _ _).setAt _ _ _ (atSelf _)⟩
    have := HB.out.set 1 (.int .i64 (m : Int))
    simpa [scells] using this
  · rw [if_neg h, if_neg h]
    by_cases h0 : n < 0
    · clear h
      go_enter Try.func53, Try.ntmps53
      go_wp2
      go_ret
      exact ⟨rfl, HB.out, Keep.refl _ _⟩
    · have h5 : (len : Int) < n := by omega
      clear h
      go_enter Try.func53, Try.ntmps53
      go_wp2
      go_ret
      exact ⟨rfl, HB.out, Keep.refl _ _⟩
theorem leVal_snoc (b : Nat) : ∀ l, leVal (l ++ [b]) = leVal l + b * 2 ^ (8 * l.length)
  | [] => by simp [leVal]
  | c :: l => by
    have e : 2 ^ (8 * (l.length + 1)) = 256 * 2 ^ (8 * l.length) := by rw [show 8 * (l.length + 1) = 8 * l.length + 8 by omega, Nat.pow_add]; omega
    rw [List.length_cons, e, List.cons_append, leVal, leVal_snoc b l, leVal, Nat.mul_left_comm b 256]
    omega
theorem leVal_lt : ∀ l : List Nat, (∀ x ∈ l, x < 256) → leVal l < 2 ^ (8 * l.length)
  | [], _ => by simp [leVal]
  | b :: l, h => by
    have := leVal_lt l (fun x hx => h x (List.mem_cons_of_mem _ hx))
    have hb := h b List.mem_cons_self
    have e : 2 ^ (8 * (l.length + 1)) = 256 * 2 ^ (8 * l.length) := by rw [show 8 * (l.length + 1) = 8 * l.length + 8 by omega, Nat.pow_add]; omega
    simp only [leVal, List.length_cons, e]
    omega
theorem leVal_take_le : ∀ (l : List Nat) k, leVal (l.take k) ≤ leVal l
  | [], k => by simp [leVal]
  | b :: l, 0 => by simp [leVal]
  | b :: l, k + 1 => by
    have := leVal_take_le l k
    simp only [List.take_succ_cons, leVal]
    omega
theorem pow_le64 {n : Nat} (h : n ≤ 8) : 2 ^ (8 * n) ≤ 18446744073709551616 := by
  have : 2 ^ (8 * n) ≤ 2 ^ 64 := Nat.pow_le_pow_right (by decide) (by omega)
  simpa using this
/-- One more byte of a number. -/
theorem le_step {zs : List Nat} {k : Nat} (h8 : ∀ x ∈ zs, x < 256) (hl : zs.length ≤ 8) (hk : k < zs.length) :
    IntKind.u64.wrap (((leVal (zs.take k) : Nat) : Int) + IntKind.u64.wrap (((zs[k] : Nat) : Int) * 2 ^ (8 * k))) = ((leVal (zs.take (k + 1)) : Nat) : Int) := by
  have h1 := leVal_take_le zs (k + 1)
  have h2 := leVal_lt zs h8
  have h3 := pow_le64 hl
  have h4 := leVal_snoc zs[k] (zs.take k)
  rw [← List.take_succ_eq_append_getElem hk] at h4
  have hlk : (zs.take k).length = k := by simp; omega
  rw [hlk] at h4
  have e1 : ((zs[k] : Nat) : Int) * 2 ^ (8 * k) = ((zs[k] * 2 ^ (8 * k) : Nat) : Int) := by simp
  rw [e1]
  have e2 : ∀ m : Nat, m < 18446744073709551616 → IntKind.u64.wrap (m : Int) = (m : Int) := fun m hm => by
    simp [IntKind.wrap, IntKind.bits, IntKind.signed]; omega
  rw [e2 _ (by omega), ← Int.natCast_add, ← h4, e2 _ (by omega)]
/-- What 'take' has told, in one form. -/
def TakeP (s : Value) (g p : Nat) (ok : Bool) (zs : List Nat) (w : World) (e : Ending) (w' : World) : Prop :=
  ∃ v, e = .returned v ∧ Reads w' 1 v zs.length (By zs) ∧ Blk w' g (scells s p ok) 110 ∧ Keep (At g) w w'
theorem TakePost.any {s : Value} {g p n : Nat} {bs : List Nat} {w : World} {e : Ending} {w' : World} (hp : p + n ≤ bs.length) (h : TakePost s g p n bs w e w') : TakeP s g (p + n) true ((bs.drop p).take n) w e w' := by
  obtain ⟨v, he, r, b, k⟩ := h
  exact ⟨v, he, by rw [show ((bs.drop p).take n).length = n by simp; omega]; exact r, b, k⟩
theorem TakeBad.any {s : Value} {g p m : Nat} {w : World} {e : Ending} {w' : World} (h : TakeBad s g p m w e w') : TakeP s g p false (List.replicate m 0) w e w' := by
  obtain ⟨v, he, r, b, k⟩ := h
  exact ⟨v, he, by simpa using r, b, k⟩
set_option maxRecDepth 100000 in
set_option maxHeartbeats 4000000 in
/-- What 'number' does behind what 'take' told. -/
theorem sNumber (s : Value) (g p n : Nat) (ok : Bool) (w : World) (zs : List Nat) (hz0 : zs.length ≤ 8) (hz8 : ∀ x ∈ zs, x < 256)
    (ht : Calls Try.prog 52 #[.pointer (some ⟨g, 0, none⟩), .int .i64 n] w (TakeP s g p ok zs w)) :
    Calls Try.prog 50 #[.pointer (some ⟨g, 0, none⟩), .int .i64 n] w fun e w' => e = .returned (.int .u64 (leVal zs)) ∧ Blk w' g (scells s p ok) 110 ∧ Keep (At g) w w' := by
  have H8 := Lib.hid hz8
  clear hz8
  go_enter Try.func50, Try.ntmps50
  go_wp2_with (go_at_call 52; go_must (refine ht.mono ?_); rintro e w1 ⟨v, rfl, r1, b1, k1⟩; obtain ⟨aa, ca, rfl⟩ := r1.slice)
  go_loop [5, 12] (fun v i => ∃ k : Nat, k ≤ zs.length ∧ i = .int .i64 k ∧ v = .int .u64 (leVal (zs.take k) : Nat)) (fun _ i => zs.length - (intOf i).toNat)
  case atStart => exact ⟨0, by omega, rfl, rfl⟩
  case round =>
    obtain ⟨k, hk, rfl, rfl⟩ := hrel
    by_cases hlt : k < zs.length
    · obtain ⟨ba, offa, ca', hva, hca⟩ := r1.at (by omega) (by omega)
      cases hva
      have c0 := hca k _ (By_get hlt)
      have HST := Lib.hid (le_step H8.out hz0 hlt)
      have hx : zs[k] < 256 := H8.out _ (List.getElem_mem hlt)
      have R1 := Lib.hid r1
      clear hca r1
      go_wp2
      go_round
      case measure => simp [intOf]; omega
      case rel => exact ⟨k + 1, by omega, by go_num, congrArg (Value.int .u64) HST.out⟩
    · have hkl : k = zs.length := by omega
      subst hkl
      rw [List.take_of_length_le (Nat.le_refl _)]
      go_wp2
      go_ret
      exact ⟨rfl, b1, k1⟩
/-- What 'uleb' has done. -/
def SUlebPost (s : Value) (g p : Nat) (ok : Bool) (bs : List Nat) (w : World) (e : Ending) (w' : World) : Prop :=
  ∃ (x p' : Nat) (ok' : Bool), e = .returned (.int .u64 x) ∧ Blk w' g (scells s p' ok') 110 ∧ Keep (At g) w w' ∧ p' ≤ bs.length ∧ (ok' = true → ok = true ∧ ∃ ds, ulebAt 9 (bs.drop p) = some ds ∧ x = ulebVal ds ∧ p' = p + ds.length)
theorem ulebAt_cont : ∀ (n : Nat) (l : List Nat) (k : Nat), k ≤ l.length → (∀ x ∈ l.take k, 128 ≤ x) → ulebAt (n + k) l = (ulebAt n (l.drop k)).map (l.take k ++ ·)
  | n, l, 0, _, _ => by simp
  | n, [], k + 1, h, _ => by simp at h
  | n, b :: l, k + 1, h, h1 => by
    have hb := h1 b (by simp)
    have := ulebAt_cont n l k (by simpa using h) (fun x hx => h1 x (by simp [hx]))
    rw [show n + (k + 1) = (n + k) + 1 by omega, ulebAt, if_neg (by omega), this]
    simp [Option.map_map, Function.comp_def]
theorem uleb_stepS {ds : List Nat} (h : ds.length < 9) (x : Nat) :
    IntKind.u64.wrap (((ulebVal ds : Nat) : Int) + IntKind.u64.wrap ((x : Int) % 128 * 2 ^ (7 * ds.length))) = ((ulebVal (ds ++ [x]) : Nat) : Int) := by
  have h1 := ulebVal_lt ds
  have h3 := ulebVal_snoc x ds
  have hp : 2 ^ (7 * ds.length) ≤ 2 ^ 56 := Nat.pow_le_pow_right (by decide) (by omega)
  have hq : x % 128 * 2 ^ (7 * ds.length) ≤ 127 * 2 ^ (7 * ds.length) := Nat.mul_le_mul_right _ (by omega)
  have e1 : (x : Int) % 128 * 2 ^ (7 * ds.length) = ((x % 128 * 2 ^ (7 * ds.length) : Nat) : Int) := by simp
  rw [e1]
  have e2 : ∀ m : Nat, m < 18446744073709551616 → IntKind.u64.wrap (m : Int) = (m : Int) := fun m hm => by
    simp [IntKind.wrap, IntKind.bits, IntKind.signed]; omega
  rw [e2 _ (by omega), ← Int.natCast_add, ← h3, e2 _ (by omega)]
set_option maxRecDepth 100000 in
set_option maxHeartbeats 4000000 in
theorem sUleb (a : Option Addr) (c g p : Nat) (ok : Bool) (bs : List Nat) (w : World) (hb : Blk w g (scells (.slice a bs.length c) p ok) 110) (hs : Reads w 1 (.slice a bs.length c) bs.length (By bs)) (hc : bs.length ≤ c)
    (hlen : bs.length ≤ 2147483647) (hp : p ≤ bs.length) (h8 : ∀ x ∈ bs, x < 256) (hne : 0 < bs.length → ∀ b, (Value.slice a bs.length c).ownBlock = some b → b ≠ g) :
    Calls Try.prog 51 #[.pointer (some ⟨g, 0, none⟩)] w (SUlebPost (.slice a bs.length c) g p ok bs w) := by
  have HS := Lib.hid hs
  have H8 := Lib.hid h8
  have HNE := Lib.hid hne
  have HB := Lib.hid hb
  clear hs h8 hne hb
  go_enter Try.func51, Try.ntmps51
  go_wp2
  go_loopw [3, 6] (fun v i wr => ∃ k : Nat, k ≤ 9 ∧ p + k ≤ bs.length ∧ i = .int .i64 k ∧ v = .int .u64 (ulebVal ((bs.drop p).take k) : Nat) ∧ (∀ x ∈ (bs.drop p).take k, 128 ≤ x) ∧ Blk wr g (scells (.slice a bs.length c) (p + k) ok) 110 ∧ Keep (At g) w wr ∧ (ok = true ∨ k = 0)) (fun _ i _ => 9 - (intOf i).toNat)
  case atStart => exact ⟨0, by omega, by omega, rfl, by simp [ulebVal], by simp, HB.out, Keep.refl _ _, .inr rfl⟩
  case round =>
    obtain ⟨k, hk, hpk, rfl, rfl, h128, hb1, k1, hok⟩ := hrel
    have hsw := HS.out.keepIf k1 (fun h0 b hb' e => HNE.out h0 b hb' e)
    have hlk : ((bs.drop p).take k).length = k := by simp; omega
    by_cases h9 : k < 9
    · by_cases hgood : ok = true ∧ p + k < bs.length
      · obtain ⟨rfl, hlt⟩ := hgood
        have T1 : Calls Try.prog 52 #[.pointer (some ⟨g, 0, none⟩), .int .i64 1] wr (TakeP (.slice a bs.length c) g (p + k + 1) true [bs[p + k]] wr) :=
          (sTake a c g (p + k) 1 bs wr hb1 hsw hc hlen (by omega) HNE.out).mono fun e w' h => by
            have := h.any (by omega)
            rwa [List.drop_eq_getElem_cons (by omega), List.take_succ_cons, List.take_zero] at this
        have hx := H8.out _ (List.getElem_mem hlt)
        have hcont := ulebAt_cont (9 - k) (bs.drop p) k (by simp; omega) h128
        rw [show 9 - k + k = 9 by omega, List.drop_drop, List.drop_eq_getElem_cons hlt] at hcont
        have hsn : (bs.drop p).take (k + 1) = (bs.drop p).take k ++ [bs[p + k]] := by
          rw [List.take_succ_eq_append_getElem (by simp; omega)]
          simp
        have hval := uleb_stepS (ds := (bs.drop p).take k) (by omega) bs[p + k]
        rw [hlk, ← hsn] at hval
        have HSN := Lib.hid hsn
        have HVAL := Lib.hid hval
        have HC := Lib.hid hcont
        have H1 := Lib.hid h128
        have HLK := Lib.hid hlk
        have hB1 := Lib.hid hb1
        have HSW := Lib.hid hsw
        clear hsn hval hcont h128 hlk hb1 hsw hok
        generalize bs[p + k] = x at *
        have HM := Lib.hid (show ulebAt (9 - k) (x :: bs.drop (p + k + 1)) = if x < 128 then some [x] else (ulebAt (9 - k - 1) (bs.drop (p + k + 1))).map (x :: ·) by
          obtain ⟨m, hm⟩ : ∃ m, 9 - k = m + 1 := ⟨8 - k, by omega⟩
          rw [hm]; rfl)
        by_cases hx1 : x < 128
        · go_wp2_with (go_at_call 52; go_must (refine T1.mono ?_); rintro e w1 ⟨v, rfl, r1, b1, k2⟩; obtain ⟨ba, off, ca, rfl, hca⟩ := r1.at (Nat.succ_pos _) (by decide); have c0 := hca 0 _ rfl; rw [Nat.add_zero] at c0; clear hca)
          go_ret
          refine ⟨_, _, _, congrArg (fun z => Ending.returned (.int .u64 z)) HVAL.out, b1, k1.trans' k2, by omega, fun _ => ⟨rfl, _, ?_, rfl, ?_⟩⟩
          · rw [HC.out, HM.out, if_pos hx1, HSN.out]; rfl
          · rw [HSN.out, List.length_append, HLK.out, List.length_singleton]; omega
        · go_wp2_with (go_at_call 52; go_must (refine T1.mono ?_); rintro e w1 ⟨v, rfl, r1, b1, k2⟩; obtain ⟨ba, off, ca, rfl, hca⟩ := r1.at (Nat.succ_pos _) (by decide); have c0 := hca 0 _ rfl; rw [Nat.add_zero] at c0; clear hca)
          go_roundw
          case measure => simp [intOf]; omega
          case rel =>
            refine ⟨k + 1, by omega, by omega, by go_num, congrArg (Value.int .u64) HVAL.out, fun y hy => ?_, b1, k1.trans' k2, .inl trivial⟩
            rw [HSN.out] at hy
            rcases List.mem_append.1 hy with h | h
            · exact H1.out y h
            · simp at h; omega
      · have T1 : Calls Try.prog 52 #[.pointer (some ⟨g, 0, none⟩), .int .i64 1] wr (TakeP (.slice a bs.length c) g (p + k) false [0] wr) :=
          (sTakeBad a c bs.length g (p + k) ok 1 wr hb1 hlen hpk (by
            by_cases h : ok = true
            · exact .inr (.inr (by have : ¬ p + k < bs.length := fun h' => hgood ⟨h, h'⟩; omega))
            · exact .inl (by simpa using h))).mono fun e w' h => h.any
        have hval := uleb_stepS (ds := (bs.drop p).take k) (by omega) 0
        rw [hlk] at hval
        have HVAL := Lib.hid hval
        clear hval h128 hlk hb1 hsw hok hgood
        go_wp2_with (go_at_call 52; go_must (refine T1.mono ?_); rintro e w1 ⟨v, rfl, r1, b1, k2⟩; obtain ⟨ba, off, ca, rfl, hca⟩ := r1.at (Nat.succ_pos _) (by decide); have c0 := hca 0 _ rfl; rw [Nat.add_zero] at c0; clear hca)
        go_ret
        refine ⟨_, _, _, congrArg (fun z => Ending.returned (.int .u64 z)) (Eq.trans ?_ HVAL.out), b1, k1.trans' k2, by omega, fun h => by cases h⟩
        simp
        rw [show IntKind.u64.wrap 0 = 0 by decide, Int.add_zero]
    · have hk9 : k = 9 := by omega
      subst hk9
      have c2 : wr.cell? ⟨g, 2, none⟩ = some (.bool ok) := by rw [hb1.cell]; rfl
      have f2 := hb1.free 2
      have HB1 := Lib.hid hb1
      clear h128 hlk hb1 hsw hok
      go_wp2
      go_ret
      refine ⟨_, _, false, rfl, ?_, k1.setAt _ _ _ (atSelf _), hpk, fun h => by cases h⟩
      have := HB1.out.set 2 (.bool false)
      simpa [scells] using this
end Go.Proofs.Ytfcdedcffmpjjaa
