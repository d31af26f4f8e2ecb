/-
  CONTRACTS of the reader over a slice of bytes.
-/
import Derived.Test.YtfcdedcffmpjjaaModesRun
import Derived.Test.YtfcdedcffmpjjaaUlebLaw
namespace Go.Proofs.Ytfcdedcffmpjjaa
open Go.RowKit
open Go.ChangeShapes Go.WideShapes Go.ChangeAt Go.Deep
open Plain (M64)

/-- What stands in a reader: the bytes, and the place. -/
def rcells (s : Value) (at' : Nat) : List Value := [s, .bool false, .int .i64 at']

set_option maxRecDepth 100000 in
theorem newReader (a : Option Addr) (l c : Nat) (w : World) :
    Calls Try.prog 54 #[.slice a l c, .bool false] w fun e w' => e = .returned (.pointer (some ⟨w.heap.size, 0, none⟩)) ∧ Blk w' w.heap.size (rcells (.slice a l c) 0) 124 ∧ Keep Non w w' := by
  go_enter Try.func54, Try.ntmps54
  go_wp2
  go_ret
  exact ⟨rfl, Blk.new w (rcells (.slice a l c) 0) _, (Keep.refl _ _).alloc _⟩
theorem neReader {w : World} {s : Value} {g p b o : Nat} {x : Int} {T : TypeId} (hb : Blk w g (rcells s p) T) (hs : ∃ a l c, s = .slice a l c) (hc : w.cell? ⟨b, o, none⟩ = some (.int .u8 x)) : b ≠ g := by
  rintro rfl
  obtain ⟨a, l, c, rfl⟩ := hs
  rw [hb.cell] at hc
  match o, hc with
  | 0, hc => simp [rcells] at hc
  | 1, hc => simp [rcells] at hc
  | 2, hc => simp [rcells] at hc
  | o + 3, hc => simp [rcells] at hc
/-- A number by seven bits, read. -/
def ulebVal : List Nat → Nat
  | [] => 0
  | b :: l => b % 128 + 128 * ulebVal l

theorem ulebVal_lt : ∀ l, ulebVal l < 2 ^ (7 * l.length)
  | [] => by simp [ulebVal]
  | b :: l => by
    have := ulebVal_lt l
    have e : 2 ^ (7 * (l.length + 1)) = 128 * 2 ^ (7 * l.length) := by rw [show 7 * (l.length + 1) = 7 * l.length + 7 by omega, Nat.pow_add]; omega
    simp only [ulebVal, List.length_cons, e]
    omega
theorem ulebVal_snoc (b : Nat) : ∀ l, ulebVal (l ++ [b]) = ulebVal l + b % 128 * 2 ^ (7 * l.length)
  | [] => by simp [ulebVal]
  | c :: l => by
    have e : 2 ^ (7 * (l.length + 1)) = 128 * 2 ^ (7 * l.length) := by rw [show 7 * (l.length + 1) = 7 * l.length + 7 by omega, Nat.pow_add]; omega
    rw [List.length_cons, e, List.cons_append, ulebVal, ulebVal_snoc b l, ulebVal, Nat.mul_left_comm (b % 128) 128]
    omega
theorem ulebVal_take_le : ∀ (l : List Nat) k, ulebVal (l.take k) ≤ ulebVal l
  | [], k => by simp [ulebVal]
  | b :: l, 0 => by simp [ulebVal]
  | b :: l, k + 1 => by
    have := ulebVal_take_le l k
    simp only [List.take_succ_cons, ulebVal]
    omega
theorem ulebVal_step {ds : List Nat} {k : Nat} (hk : k < ds.length) (hfit : ulebVal ds < M64) :
    bits .or .u64 ((ulebVal (ds.take k) : Nat) : Int) (IntKind.u64.wrap (((ds[k] : Nat) : Int) % 128 * 2 ^ (7 * k))) = ((ulebVal (ds.take (k + 1)) : Nat) : Int) := by
  have h1 := ulebVal_lt (ds.take k)
  have h2 := ulebVal_take_le ds (k + 1)
  have h3 := ulebVal_snoc ds[k] (ds.take k)
  rw [← List.take_succ_eq_append_getElem hk] at h3
  have hl : (ds.take k).length = k := by simp; omega
  rw [hl] at h1 h3
  generalize ulebVal (ds.take (k + 1)) = B at *
  generalize ulebVal (ds.take k) = A at *
  generalize ds[k] = x at *
  unfold M64 at hfit
  have e1 : ((x : Nat) : Int) % 128 * 2 ^ (7 * k) = ((x % 128 * 2 ^ (7 * k) : Nat) : Int) := by simp
  rw [e1]
  have e2 : IntKind.u64.wrap ((x % 128 * 2 ^ (7 * k) : Nat) : Int) = ((x % 128 * 2 ^ (7 * k) : Nat) : Int) := by
    simp [IntKind.wrap, IntKind.bits, IntKind.signed]
    omega
  rw [e2, u64_or_nat _ _ (by omega) (by omega)]
  have e3 := Nat.two_pow_add_eq_or_of_lt h1 (x % 128)
  rw [Nat.or_comm, Nat.mul_comm (x % 128), ← e3, h3, Nat.mul_comm (x % 128)]
  simp [Int.add_comm]
set_option maxRecDepth 100000 in
set_option maxHeartbeats 2000000 in
theorem offset (s : Value) (g p : Nat) (w : World) (hb : Blk w g (rcells s p) 124) :
    Calls Try.prog 62 #[.pointer (some ⟨g, 0, none⟩)] w fun e w' => e = .returned (.int .i64 p) ∧ w' = w := by
  have c2 : w.cell? ⟨g, 2, none⟩ = some (.int .i64 (p : Int)) := by rw [hb.cell]; rfl
  go_enter Try.func62, Try.ntmps62
  go_wp2
  go_ret
  exact ⟨rfl, rfl⟩
set_option maxRecDepth 100000 in
set_option maxHeartbeats 2000000 in
theorem readUleb (s : Value) (g p : Nat) (bs ds : List Nat) (w : World) (hb : Blk w g (rcells s p) 124) (hs : Reads w 1 s bs.length (bs.map fun x => Value.int .u8 (x : Nat)))
    (hlen : bs.length ≤ 1000000) (h8 : ∀ x ∈ bs, x < 256) (hk : p + ds.length ≤ bs.length) (hd : ∀ i (h : i < ds.length), bs[p + i]? = some ds[i]) (hne : 0 < ds.length) (h10 : ds.length ≤ 10)
    (hhi : ∀ i (h : i < ds.length), (128 ≤ ds[i] ↔ i + 1 < ds.length)) (hfit : ulebVal ds < M64) :
    Calls Try.prog 58 #[.pointer (some ⟨g, 0, none⟩)] w fun e w' => e = .returned (.int .u64 (ulebVal ds)) ∧ Blk w' g (rcells s (p + ds.length)) 124 ∧ Keep (At g) w w' := by
  obtain ⟨bb, off, ca, rfl, hc⟩ := hs.at (by omega) (by omega)
  go_enter Try.func58, Try.ntmps58
  go_wp2
  go_loopw [2, 3] (fun v sh wr => ∃ k : Nat, k < ds.length ∧ v = .int .u64 (ulebVal (ds.take k) : Nat) ∧ sh = .int .u64 (7 * k : Nat) ∧ Blk wr g (rcells (.slice (some ⟨bb, off, none⟩) bs.length ca) (p + k)) 124 ∧ Keep (At g) w wr) (fun _ sh _ => 7 * ds.length - (intOf sh).toNat)
  case atStart => exact ⟨0, hne, rfl, rfl, hb, Keep.refl _ _⟩
  case round =>
    obtain ⟨k, hk', rfl, rfl, hb', hkp⟩ := hrel
    have hi := hc (p + k) _ (by rw [List.getElem?_map, hd k hk']; rfl)
    have hng := neReader hb ⟨_, _, _, rfl⟩ hi
    have hi' := hkp.cell hi hng
    have hx : ds[k] < 256 := h8 _ (List.mem_of_getElem? (hd k hk'))
    have hp : p + k < bs.length := by omega
    obtain ⟨q, hq⟩ : ∃ q, q = p + k := ⟨_, rfl⟩
    rw [← hq] at hi' hp hb'
    have c0 : wr.cell? ⟨g, 0, none⟩ = some (.slice (some ⟨bb, off, none⟩) bs.length ca) := by rw [hb'.cell]; rfl
    have c2 : wr.cell? ⟨g, 2, none⟩ = some (.int .i64 (q : Int)) := by rw [hb'.cell]; rfl
    have f2 := hb'.free 2
    have HH := Lib.hid hhi
    have HD := Lib.hid hd
    have HC := Lib.hid hc
    have HQ := Lib.hid hq
    clear hhi hd hc hq hi h8
    obtain ⟨x, hxe⟩ : ∃ x, x = ds[k] := ⟨_, rfl⟩
    rw [← hxe] at hi' hx
    have HX := Lib.hid hxe
    clear hxe
    have h127 := Plain.and127u8 x hx
    have hor : bits .or .u64 ((ulebVal (ds.take k) : Nat) : Int) (IntKind.u64.wrap ((x : Int) % 128 * 2 ^ (7 * k))) = ((ulebVal (ds.take (k + 1)) : Nat) : Int) := by
      rw [HX.out]; exact ulebVal_step hk' hfit
    by_cases hx1 : x < 128
    · have h128 : bits .and .u8 (x : Int) 128 = 0 := by rw [Plain.and128 x hx]; omega
      have hlast : k + 1 = ds.length := by
        have := HH.out k hk'
        rw [← HX.out] at this
        omega
      rw [hlast, List.take_of_length_le (Nat.le_refl _)] at hor
      go_wp2
      go_quiet (fail)
      go_wp2
      go_ret
      refine ⟨?_, ?_, ?_⟩
      · rfl
      · have := (hb'.keep ((Keep.refl Non _).drewN nq) (fun h => h)).set 2 (.int .i64 ((q : Int) + 1))
        have e : p + ds.length = q + 1 := by have := HQ.out; omega
        rw [e]
        simpa [rcells] using this
      · exact (hkp.drewN nq).setAt _ _ _ (atSelf _)
    · have h128 : bits .and .u8 (x : Int) 128 = 128 := by rw [Plain.and128 x hx]; omega
      have hlast : k + 1 < ds.length := by
        have := HH.out k hk'
        rw [← HX.out] at this
        omega
      go_wp2
      go_quiet (fail)
      go_wp2
      go_roundw
      case measure => simp [intOf]; omega
      case rel =>
        refine ⟨k + 1, hlast, rfl, by go_num, ?_, (hkp.drewN nq).setAt _ _ _ (atSelf _)⟩
        have := (hb'.keep ((Keep.refl Non _).drewN nq) (fun h => h)).set 2 (.int .i64 ((q : Int) + 1))
        have e : p + (k + 1) = q + 1 := by have := HQ.out; omega
        rw [e]
        simpa [rcells] using this

/-- Where a seek wants to go. -/
def seekTo (wh : Nat) (p len : Nat) (n : Int) : Int := if wh = 0 then n else if wh = 1 then p + n else len + n
/-- What a seek to a place has done. -/
def SeekPost (a : Option Addr) (len cap g p : Nat) (T : Int) (w : World) (e : Ending) (w' : World) : Prop :=
  ∃ at' r, e = .returned (.tuple #[.int .i64 at', r]) ∧ ErrIf (decide (0 ≤ T ∧ T ≤ len)) r ∧
      Blk w' g (rcells (.slice a len cap) (if 0 ≤ T ∧ T ≤ len then T.toNat else p)) 124 ∧ Keep (At g) w w' ∧ (0 ≤ T ∧ T ≤ len → at' = T)
theorem SeekPost.bad {a : Option Addr} {len cap g p : Nat} {T x : Int} {w w1 : World} {t : TypeId} {b : Addr} (hb : Blk w g (rcells (.slice a len cap) p) 124) (hk : Keep Non w w1) (hT : ¬ (0 ≤ T ∧ T ≤ len)) :
    SeekPost a len cap g p T w (.returned (.tuple #[.int .i64 x, .iface t (.pointer (some b))])) w1 := by
  refine ⟨x, _, rfl, ?_, ?_, hk.mono (fun _ _ h => h.elim), fun h => absurd h hT⟩
  · rw [decide_eq_false hT]; exact ⟨t, b, rfl⟩
  · rw [if_neg hT]; exact hb.keep hk (fun h => h)
theorem SeekPost.good {a : Option Addr} {len cap g p : Nat} {T x : Int} {w : World} (hb : Blk w g (rcells (.slice a len cap) p) 124) (hx : x = T) (h0 : 0 ≤ T) (h1 : T ≤ len) :
    SeekPost a len cap g p T w (.returned (.tuple #[.int .i64 x, .nilIface])) (w.setCell ⟨g, 2, none⟩ (.int .i64 x)) := by
  subst hx
  refine ⟨x, _, rfl, ?_, ?_, (Keep.refl _ _).setAt _ _ _ (atSelf _), fun _ => rfl⟩
  · rw [decide_eq_true ⟨h0, h1⟩]; rfl
  · rw [if_pos ⟨h0, h1⟩]
    have := hb.set 2 (.int .i64 x)
    obtain ⟨m, rfl⟩ := Int.eq_ofNat_of_zero_le h0
    simpa [rcells] using this
set_option maxRecDepth 100000 in
set_option maxHeartbeats 2000000 in
theorem seek (a : Option Addr) (len cap g p : Nat) (n : Int) (wh : Nat) (w : World) (hwh : wh ≤ 2) (hb : Blk w g (rcells (.slice a len cap) p) 124) (hlen : len ≤ 1000000) (hp : p ≤ len) (h1 : -1000000 ≤ n) (h2 : n ≤ 1000000) :
    Calls Try.prog 60 #[.pointer (some ⟨g, 0, none⟩), .int .i64 n, .int .i64 wh] w (SeekPost a len cap g p (seekTo wh p len n) w) := by
  have c0 : w.cell? ⟨g, 0, none⟩ = some (.slice a len cap) := by rw [hb.cell]; rfl
  have c2 : w.cell? ⟨g, 2, none⟩ = some (.int .i64 (p : Int)) := by rw [hb.cell]; rfl
  have f2 := hb.free 2
  have HB := Lib.hid hb
  clear hb
  have hcase : wh = 0 ∨ wh = 1 ∨ wh = 2 := by omega
  clear hwh
  rcases hcase with rfl | rfl | rfl
  · go_enter Try.func60, Try.ntmps60
    by_cases t1 : n < 0
    · have HT := Lib.hid t1
      go_wp2_with (go_at_call 63; go_must (refine (errorsNew _ _).mono ?_); rintro e w1 ⟨t, a, rfl, hk⟩)
      go_ret2
      exact SeekPost.bad HB.out hk (by unfold seekTo; simp; omega)
    by_cases t2 : (len : Int) < n
    · have HT := Lib.hid t2
      go_wp2_with (go_at_call 63; go_must (refine (errorsNew _ _).mono ?_); rintro e w1 ⟨t, a, rfl, hk⟩)
      go_ret2
      exact SeekPost.bad HB.out hk (by unfold seekTo; simp; omega)
    · go_wp2
      go_ret2
      exact SeekPost.good HB.out (by unfold seekTo; simp) (by unfold seekTo; simp; omega) (by unfold seekTo; simp; omega)
  · go_enter Try.func60, Try.ntmps60
    by_cases t1 : (p : Int) + n < 0
    · have HT := Lib.hid t1
      go_wp2_with (go_at_call 63; go_must (refine (errorsNew _ _).mono ?_); rintro e w1 ⟨t, a, rfl, hk⟩)
      go_ret2
      exact SeekPost.bad HB.out hk (by unfold seekTo; simp; omega)
    by_cases t2 : (len : Int) < (p : Int) + n
    · have HT := Lib.hid t2
      go_wp2_with (go_at_call 63; go_must (refine (errorsNew _ _).mono ?_); rintro e w1 ⟨t, a, rfl, hk⟩)
      go_ret2
      exact SeekPost.bad HB.out hk (by unfold seekTo; simp; omega)
    · go_wp2
      go_ret2
      exact SeekPost.good HB.out (by unfold seekTo; simp) (by unfold seekTo; simp; omega) (by unfold seekTo; simp; omega)
  · go_enter Try.func60, Try.ntmps60
    by_cases t1 : (len : Int) + n < 0
    · have HT := Lib.hid t1
      go_wp2_with (go_at_call 63; go_must (refine (errorsNew _ _).mono ?_); rintro e w1 ⟨t, a, rfl, hk⟩)
      go_ret2
      exact SeekPost.bad HB.out hk (by unfold seekTo; simp; omega)
    by_cases t2 : (len : Int) < (len : Int) + n
    · have HT := Lib.hid t2
      go_wp2_with (go_at_call 63; go_must (refine (errorsNew _ _).mono ?_); rintro e w1 ⟨t, a, rfl, hk⟩)
      go_ret2
      exact SeekPost.bad HB.out hk (by unfold seekTo; simp; omega)
    · go_wp2
      go_ret2
      exact SeekPost.good HB.out (by unfold seekTo; simp) (by unfold seekTo; simp; omega) (by unfold seekTo; simp; omega)
end Go.Proofs.Ytfcdedcffmpjjaa
