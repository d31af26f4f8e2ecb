/-
  CONTRACTS: seeks of the writer over a slice. (taken by a program out of the texts of seat A.)
-/
import Derived.Test.YtcpegoofbenoiaaGreatDoorZKb
namespace Go.Proofs.YtcpegoofbenoiaaGreatDoor
open Go.RowKit
open Go.ChangeShapes Go.WideShapes Go.ChangeAt Go.Deep
open Plain (M64)

/-- Where a seek wants to go. -/
def seekTo (wh : Nat) (p len : Nat) (n : Int) : Int := if wh = 0 then n else if wh = 1 then p + n else len + n
/-- What a seek of a writer to a place has done. -/
def WseekPost (v : Value) (len g p : Nat) (T : Int) (w : World) (e : Ending) (w' : World) : Prop :=
  ∃ at' r, e = .returned (.tuple #[.int .i64 at', r]) ∧ ErrIf (decide (0 ≤ T ∧ T ≤ len)) r ∧
      Blk w' g (wcells v (if 0 ≤ T ∧ T ≤ len then T.toNat else p)) 56 ∧ Keep (At g) w w' ∧ (0 ≤ T ∧ T ≤ len → at' = T)
theorem WseekPost.bad {v : Value} {len g p : Nat} {T x : Int} {w w1 : World} {t : TypeId} {b : Addr} (hb : Blk w g (wcells v p) 56) (hk : Keep Non w w1) (hT : ¬ (0 ≤ T ∧ T ≤ len)) :
    WseekPost v len g p T w (.returned (.tuple #[.int .i64 x, .iface t (.pointer (some b))])) w1 := by
  refine ⟨x, _, rfl, ?_, ?_, hk.mono (fun _ _ h => h.elim), fun h => absurd h hT⟩
  · rw [decide_eq_false hT]; exact ⟨t, b, rfl⟩
  · rw [if_neg hT]; exact hb.keep hk (fun h => h)
theorem WseekPost.good {v : Value} {len g p : Nat} {T x : Int} {w : World} (hb : Blk w g (wcells v p) 56) (hx : x = T) (h0 : 0 ≤ T) (h1 : T ≤ len) :
    WseekPost v len g p T w (.returned (.tuple #[.int .i64 x, .nilIface])) (w.setCell ⟨g, 1, none⟩ (.int .i64 x)) := by
  subst hx
  refine ⟨x, _, rfl, ?_, ?_, (Keep.refl _ _).setAt _ _ _ (atSelf _), fun _ => rfl⟩
  · rw [decide_eq_true ⟨h0, h1⟩]; rfl
  · rw [if_pos ⟨h0, h1⟩]
    have := hb.set 1 (.int .i64 x)
    obtain ⟨m, rfl⟩ := Int.eq_ofNat_of_zero_le h0
    simpa [wcells] using this
set_option maxRecDepth 100000 in
set_option maxHeartbeats 4000000 in
theorem wseek (a : Option Addr) (c len g p : Nat) (n : Int) (wh : Nat) (w : World) (hwh : wh ≤ 2) (hb : Blk w g (wcells (.slice a len c) p) 56) (hlen : len ≤ 4000000000) (hp : p ≤ len) (h1 : -1000000 ≤ n) (h2 : n ≤ 4000000000) :
    Calls Tryz.prog 72 #[.pointer (some ⟨g, 0, none⟩), .int .i64 n, .int .i64 wh] w (WseekPost (.slice a len c) len g p (seekTo wh p len n) w) := by
  have c0 : w.cell? ⟨g, 0, none⟩ = some (.slice a len c) := by rw [hb.cell]; rfl
  have c1 : w.cell? ⟨g, 1, none⟩ = some (.int .i64 (p : Int)) := by rw [hb.cell]; rfl
  have f1 := hb.free 1
  have HB := Lib.hid hb
  clear hb
  have hcase : wh = 0 ∨ wh = 1 ∨ wh = 2 := by omega
  clear hwh
  rcases hcase with rfl | rfl | rfl
  · by_cases he : (p : Int) = n
    · subst he
      go_enter Tryz.func72, Tryz.ntmps72
      go_wp2
      go_ret2
      exact WseekPost.good HB.out (by unfold seekTo; simp) (by unfold seekTo; simp) (by unfold seekTo; simp; omega)
    · have hne : ((p : Int) != n) = true := by simpa using he
      by_cases t1 : n < 0
      · have HE := Lib.hid he
        clear he
        go_enter Tryz.func72, Tryz.ntmps72
        go_wp2_with (go_at_call 47; go_must (refine (errorsNew _ _).mono ?_); rintro e w1 ⟨t, a, rfl, hk⟩)
        go_ret2
        exact WseekPost.bad HB.out hk (by unfold seekTo; simp; omega)
      by_cases t2 : (len : Int) < n
      · have HE := Lib.hid he
        clear he
        go_enter Tryz.func72, Tryz.ntmps72
        go_wp2_with (go_at_call 47; go_must (refine (errorsNew _ _).mono ?_); rintro e w1 ⟨t, a, rfl, hk⟩)
        go_ret2
        exact WseekPost.bad HB.out hk (by unfold seekTo; simp; omega)
      · have HE := Lib.hid he
        clear he
        go_enter Tryz.func72, Tryz.ntmps72
        go_wp2
        go_ret2
        exact WseekPost.good HB.out (by unfold seekTo; simp) (by unfold seekTo; simp; omega) (by unfold seekTo; simp; omega)
  · by_cases he : (p : Int) + n = p
    · obtain rfl : n = 0 := by omega
      have hne : ((p : Int) != p) = false := by simp
      clear he
      go_enter Tryz.func72, Tryz.ntmps72
      go_wp2
      go_ret2
      exact WseekPost.good HB.out (by unfold seekTo; simp) (by unfold seekTo; simp) (by unfold seekTo; simp; omega)
    · have hne : ((p : Int) + n != p) = true := by simpa using he
      have HE := Lib.hid he
      clear he
      by_cases t1 : (p : Int) + n < 0
      · go_enter Tryz.func72, Tryz.ntmps72
        go_wp2_with (go_at_call 47; go_must (refine (errorsNew _ _).mono ?_); rintro e w1 ⟨t, a, rfl, hk⟩)
        go_ret2
        exact WseekPost.bad HB.out hk (by unfold seekTo; simp; omega)
      by_cases t2 : (len : Int) < (p : Int) + n
      · go_enter Tryz.func72, Tryz.ntmps72
        go_wp2_with (go_at_call 47; go_must (refine (errorsNew _ _).mono ?_); rintro e w1 ⟨t, a, rfl, hk⟩)
        go_ret2
        exact WseekPost.bad HB.out hk (by unfold seekTo; simp; omega)
      · go_enter Tryz.func72, Tryz.ntmps72
        go_wp2
        go_ret2
        exact WseekPost.good HB.out (by unfold seekTo; simp) (by unfold seekTo; simp; omega) (by unfold seekTo; simp; omega)
  · by_cases he : (len : Int) + n = p
    · have hne : ((len : Int) + n != p) = false := by simpa using he
      have HE := Lib.hid he
      clear he
      go_enter Tryz.func72, Tryz.ntmps72
      go_wp2
      go_ret2
      exact WseekPost.good HB.out (by unfold seekTo; simp) (by have := HE.out; unfold seekTo; simp; omega) (by have := HE.out; unfold seekTo; simp; omega)
    · have hne : ((len : Int) + n != p) = true := by simpa using he
      have HE := Lib.hid he
      clear he
      by_cases t1 : (len : Int) + n < 0
      · go_enter Tryz.func72, Tryz.ntmps72
        go_wp2_with (go_at_call 47; go_must (refine (errorsNew _ _).mono ?_); rintro e w1 ⟨t, a, rfl, hk⟩)
        go_ret2
        exact WseekPost.bad HB.out hk (by unfold seekTo; simp; omega)
      by_cases t2 : (len : Int) < (len : Int) + n
      · go_enter Tryz.func72, Tryz.ntmps72
        go_wp2_with (go_at_call 47; go_must (refine (errorsNew _ _).mono ?_); rintro e w1 ⟨t, a, rfl, hk⟩)
        go_ret2
        exact WseekPost.bad HB.out hk (by unfold seekTo; simp; omega)
      · go_enter Tryz.func72, Tryz.ntmps72
        go_wp2
        go_ret2
        exact WseekPost.good HB.out (by unfold seekTo; simp) (by unfold seekTo; simp; omega) (by unfold seekTo; simp; omega)
end Go.Proofs.YtcpegoofbenoiaaGreatDoor
/-
  CONTRACTS: seeks of the reader over a slice. (taken by a program out of the texts of seat A.)
-/
namespace Go.Proofs.YtcpegoofbenoiaaGreatDoor
open Go.RowKit
open Go.ChangeShapes Go.WideShapes Go.ChangeAt Go.Deep
open Plain (M64)

/-- What a seek to a place has done. -/
def SeekPost (a : Option Addr) (len cap g p : Nat) (T : Int) (w : World) (e : Ending) (w' : World) : Prop :=
  ∃ at' r, e = .returned (.tuple #[.int .i64 at', r]) ∧ ErrIf (decide (0 ≤ T ∧ T ≤ len)) r ∧
      Blk w' g (rcells (.slice a len cap) (if 0 ≤ T ∧ T ≤ len then T.toNat else p)) 129 ∧ Keep (At g) w w' ∧ (0 ≤ T ∧ T ≤ len → at' = T)
theorem SeekPost.bad {a : Option Addr} {len cap g p : Nat} {T x : Int} {w w1 : World} {t : TypeId} {b : Addr} (hb : Blk w g (rcells (.slice a len cap) p) 129) (hk : Keep Non w w1) (hT : ¬ (0 ≤ T ∧ T ≤ len)) :
    SeekPost a len cap g p T w (.returned (.tuple #[.int .i64 x, .iface t (.pointer (some b))])) w1 := by
  refine ⟨x, _, rfl, ?_, ?_, hk.mono (fun _ _ h => h.elim), fun h => absurd h hT⟩
  · rw [decide_eq_false hT]; exact ⟨t, b, rfl⟩
  · rw [if_neg hT]; exact hb.keep hk (fun h => h)
theorem SeekPost.good {a : Option Addr} {len cap g p : Nat} {T x : Int} {w : World} (hb : Blk w g (rcells (.slice a len cap) p) 129) (hx : x = T) (h0 : 0 ≤ T) (h1 : T ≤ len) :
    SeekPost a len cap g p T w (.returned (.tuple #[.int .i64 x, .nilIface])) (w.setCell ⟨g, 2, none⟩ (.int .i64 x)) := by
  subst hx
  refine ⟨x, _, rfl, ?_, ?_, (Keep.refl _ _).setAt _ _ _ (atSelf _), fun _ => rfl⟩
  · rw [decide_eq_true ⟨h0, h1⟩]; rfl
  · rw [if_pos ⟨h0, h1⟩]
    have := hb.set 2 (.int .i64 x)
    obtain ⟨m, rfl⟩ := Int.eq_ofNat_of_zero_le h0
    simpa [rcells] using this
set_option maxRecDepth 100000 in
set_option maxHeartbeats 2000000 in
theorem seek (a : Option Addr) (len cap g p : Nat) (n : Int) (wh : Nat) (w : World) (hwh : wh ≤ 2) (hb : Blk w g (rcells (.slice a len cap) p) 129) (hlen : len ≤ 1000000) (hp : p ≤ len) (h1 : -1000000 ≤ n) (h2 : n ≤ 1000000) :
    Calls Tryz.prog 159 #[.pointer (some ⟨g, 0, none⟩), .int .i64 n, .int .i64 wh] w (SeekPost a len cap g p (seekTo wh p len n) w) := by
  have c0 : w.cell? ⟨g, 0, none⟩ = some (.slice a len cap) := by rw [hb.cell]; rfl
  have c2 : w.cell? ⟨g, 2, none⟩ = some (.int .i64 (p : Int)) := by rw [hb.cell]; rfl
  have f2 := hb.free 2
  have HB := Lib.hid hb
  clear hb
  have hcase : wh = 0 ∨ wh = 1 ∨ wh = 2 := by omega
  clear hwh
  rcases hcase with rfl | rfl | rfl
  · go_enter Tryz.func159, Tryz.ntmps159
    by_cases t1 : n < 0
    · have HT := Lib.hid t1
      go_wp2_with (go_at_call 47; go_must (refine (errorsNew _ _).mono ?_); rintro e w1 ⟨t, a, rfl, hk⟩)
      go_ret2
      exact SeekPost.bad HB.out hk (by unfold seekTo; simp; omega)
    by_cases t2 : (len : Int) < n
    · have HT := Lib.hid t2
      go_wp2_with (go_at_call 47; go_must (refine (errorsNew _ _).mono ?_); rintro e w1 ⟨t, a, rfl, hk⟩)
      go_ret2
      exact SeekPost.bad HB.out hk (by unfold seekTo; simp; omega)
    · go_wp2
      go_ret2
      exact SeekPost.good HB.out (by unfold seekTo; simp) (by unfold seekTo; simp; omega) (by unfold seekTo; simp; omega)
  · go_enter Tryz.func159, Tryz.ntmps159
    by_cases t1 : (p : Int) + n < 0
    · have HT := Lib.hid t1
      go_wp2_with (go_at_call 47; go_must (refine (errorsNew _ _).mono ?_); rintro e w1 ⟨t, a, rfl, hk⟩)
      go_ret2
      exact SeekPost.bad HB.out hk (by unfold seekTo; simp; omega)
    by_cases t2 : (len : Int) < (p : Int) + n
    · have HT := Lib.hid t2
      go_wp2_with (go_at_call 47; go_must (refine (errorsNew _ _).mono ?_); rintro e w1 ⟨t, a, rfl, hk⟩)
      go_ret2
      exact SeekPost.bad HB.out hk (by unfold seekTo; simp; omega)
    · go_wp2
      go_ret2
      exact SeekPost.good HB.out (by unfold seekTo; simp) (by unfold seekTo; simp; omega) (by unfold seekTo; simp; omega)
  · go_enter Tryz.func159, Tryz.ntmps159
    by_cases t1 : (len : Int) + n < 0
    · have HT := Lib.hid t1
      go_wp2_with (go_at_call 47; go_must (refine (errorsNew _ _).mono ?_); rintro e w1 ⟨t, a, rfl, hk⟩)
      go_ret2
      exact SeekPost.bad HB.out hk (by unfold seekTo; simp; omega)
    by_cases t2 : (len : Int) < (len : Int) + n
    · have HT := Lib.hid t2
      go_wp2_with (go_at_call 47; go_must (refine (errorsNew _ _).mono ?_); rintro e w1 ⟨t, a, rfl, hk⟩)
      go_ret2
      exact SeekPost.bad HB.out hk (by unfold seekTo; simp; omega)
    · go_wp2
      go_ret2
      exact SeekPost.good HB.out (by unfold seekTo; simp) (by unfold seekTo; simp; omega) (by unfold seekTo; simp; omega)
end Go.Proofs.YtcpegoofbenoiaaGreatDoor
