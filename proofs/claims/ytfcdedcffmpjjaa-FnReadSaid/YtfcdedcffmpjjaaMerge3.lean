/-
  CONTRACTS for counters that are merged, third part: modes, impl.Merge.
-/
import Derived.Test.YtfcdedcffmpjjaaMerge2
namespace Go.Proofs.Ytfcdedcffmpjjaa
open Go.RowKit

/-- nil, or an error. -/
def ErrIf (ok : Bool) (r : Value) : Prop := if ok = true then r = .nilIface else ∃ t a, r = .iface t (.pointer (some a))

/-- Whether a mode can be set, and what the mode is then. -/
def setm (cm cg pol cmode cgran : Nat) : Bool × Nat × Nat :=
  if cm = 0 then (true, cmode, cgran) else if cg ≠ cgran then (false, cm, cg) else if cm = cmode then (true, cm, cg)
  else if pol = 0 then (false, cm, cg) else if cm < cmode then (true, cmode, cg) else (true, cm, cg)

set_option maxRecDepth 100000 in
set_option maxHeartbeats 2000000 in
theorem setMode (g : Nat) (cm cg pol : Nat) (ov : Bool) (mdf : ByteArray) (cmode cgran : Nat) (w : World) (hb : Blk w g (mcells cm cg pol ov) 87) :
    Calls Try.prog 42 #[.pointer (some ⟨g, 0, none⟩), .string mdf, U8 cmode, U8 cgran] w fun e w' => ∃ r,
      e = .returned r ∧ ErrIf (setm cm cg pol cmode cgran).1 r ∧ Blk w' g (mcells (setm cm cg pol cmode cgran).2.1 (setm cm cg pol cmode cgran).2.2 pol ov) 87 ∧ Keep (At g) w w' := by
  have c0 : w.cell? ⟨g, 0, none⟩ = some (.int .u8 (cm : Int)) := by rw [hb.cell]; rfl
  have c1 : w.cell? ⟨g, 1, none⟩ = some (.int .u8 (cg : Int)) := by rw [hb.cell]; rfl
  have c2 : w.cell? ⟨g, 2, none⟩ = some (.int .u8 (pol : Int)) := by rw [hb.cell]; rfl
  have f0 := hb.free 0
  have f1 := hb.free 1
  unfold U8
  by_cases h0 : cm = 0
  · have e : setm cm cg pol cmode cgran = (true, cmode, cgran) := by simp [setm, h0]
    rw [e]
    have t0 : ((cm : Int) == 0) = true := by simp; omega
    clear h0 e
    go_enter Try.func42, Try.ntmps42
    go_wp2
    go_ret
    exact ⟨_, rfl, rfl, by simpa [mcells, U8] using (hb.set 0 (.int .u8 (cmode : Int))).set 1 (.int .u8 (cgran : Int)), ((Keep.refl _ _).setAt _ _ _ (atSelf g)).setAt _ _ _ (atSelf g)⟩
  have t0 : ((cm : Int) == 0) = false := by simp; omega
  by_cases h1 : cg = cgran
  · have t1 : ((cg : Int) != (cgran : Int)) = false := by simp; omega
    by_cases h2 : cm = cmode
    · have e : setm cm cg pol cmode cgran = (true, cm, cg) := by simp [setm, h1, h2]
      rw [e]
      have t2 : ((cm : Int) != (cmode : Int)) = false := by simp; omega
      clear h0 h1 h2 e
      go_enter Try.func42, Try.ntmps42
      go_wp2
      go_ret
      exact ⟨_, rfl, rfl, hb, Keep.refl _ _⟩
    · have t2 : ((cm : Int) != (cmode : Int)) = true := by simp; omega
      by_cases h3 : pol = 0
      · have e : setm cm cg pol cmode cgran = (false, cm, cg) := by simp [setm, h0, h1, h2, h3]
        rw [e]
        have t3 : ((pol : Int) == 0) = true := by simp; omega
        clear h0 h1 h2 h3 e
        go_enter Try.func42, Try.ntmps42
        go_wp2_with (go_at_call 63; go_must (refine (errorsNew _ _).mono ?_); rintro e w1 ⟨t, a, rfl, hk⟩)
        go_ret
        exact ⟨_, rfl, ⟨t, a, rfl⟩, hb.keep hk (fun h => h), hk.mono (fun _ _ h => h.elim)⟩
      · have t3 : ((pol : Int) == 0) = false := by simp; omega
        by_cases h4 : cm < cmode
        · have e : setm cm cg pol cmode cgran = (true, cmode, cg) := by simp [setm, h0, h1, h2, h3, h4]
          rw [e]
          have t4 : ((cm : Int) < (cmode : Int)) := by omega
          clear h0 h1 h2 h3 h4 e
          go_enter Try.func42, Try.ntmps42
          go_wp2
          go_ret
          exact ⟨_, rfl, rfl, by simpa [mcells, U8] using hb.set 0 (.int .u8 (cmode : Int)), (Keep.refl _ _).setAt _ _ _ (atSelf g)⟩
        · have e : setm cm cg pol cmode cgran = (true, cm, cg) := by simp [setm, h0, h1, h2, h3, h4]
          rw [e]
          have t4 : ¬ ((cm : Int) < (cmode : Int)) := by omega
          clear h0 h1 h2 h3 h4 e
          go_enter Try.func42, Try.ntmps42
          go_wp2
          go_ret
          exact ⟨_, rfl, rfl, hb, Keep.refl _ _⟩
  · have e : setm cm cg pol cmode cgran = (false, cm, cg) := by simp [setm, h0, h1]
    rw [e]
    have t1 : ((cg : Int) != (cgran : Int)) = true := by simp; omega
    clear h0 h1 e
    go_enter Try.func42, Try.ntmps42
    go_wp2_with (go_at_call 63; go_must (refine (errorsNew _ _).mono ?_); rintro e w1 ⟨t, a, rfl, hk⟩)
    go_ret
    exact ⟨_, rfl, ⟨t, a, rfl⟩, hb.keep hk (fun h => h), hk.mono (fun _ _ h => h.elim)⟩

/-- Counters of different lengths are not merged. -/
theorem mergeRefused (g : Nat) (d s : Value) (nd ns : Nat) (xd xs : List Value) (w : World) (hd : Reads w 1 d nd xd) (hs : Reads w 1 s ns xs) (hl : nd ≠ ns) :
    Calls Try.prog 49 #[.pointer (some ⟨g, 0, none⟩), d, s] w fun e w' =>
      ∃ t a, e = .returned (.tuple #[.iface t (.pointer (some a)), .bool false]) ∧ Keep Non w w' := by
  obtain ⟨aa, ca, rfl⟩ := hd.slice
  obtain ⟨ab, cb, rfl⟩ := hs.slice
  have hne : ((ns : Int) != nd) = true := by simp; omega
  go_enter Try.func49, Try.ntmps49
  go_wp2_with (go_at_call 63; go_must (refine (errorsNew _ _).mono ?_); rintro e w1 ⟨t, a, rfl, hk⟩)
  go_ret2
  exact ⟨t, a, rfl, hk⟩

/-! ### impl.Merge -/
/-- Behind 'append([]T{}, xs...)'. -/
theorem Grew.copied {w w' : World} {v v' : Value} {T : TypeId} (g : Grew (w.alloc (.cells #[] T)) w' v v') (hv : v = .slice (some ⟨w.heap.size, 0, none⟩) 0 0) :
    Keep Non w w' ∧ ∀ g, v'.ownBlock = some g → w.heap.size ≤ g := by
  subst hv
  refine ⟨((Keep.refl _ _).alloc _).trans g.keep (fun i hi h => by simp [Own, Value.ownBlock] at h; omega), fun k hk => ?_⟩
  rcases g.lies hk with h | h
  · simp [Value.ownBlock] at h; omega
  · simp at h; omega
set_option maxRecDepth 100000 in
set_option maxHeartbeats 2000000 in
theorem merge_impl (mode : Nat) (set : Bool) (hset : (mode == 1) = set) (d s : Value) (zd zs : List Nat) (w : World) (h1 : 1 ≤ mode) (h3 : mode ≤ 3) (hd : Reads w 1 d zd.length (U32 zd)) (hs : Reads w 1 s zs.length (U32 zs))
    (m1 : zd.length ≤ 1000) (m2 : zs.length ≤ 1000) (bd : ∀ x ∈ zd, x < 4294967296) (bs : ∀ x ∈ zs, x < 4294967296) :
    Calls Try.prog 29 #[.int .i64 mode, d, s] w fun e w' => ∃ v' ok ov, e = .returned (.tuple #[v', .bool ok, .bool ov]) ∧ Keep Non w w' ∧ ok = decide (zd.length = zs.length) ∧
      (zd.length = zs.length → ov = overs set zd zs ∧ Row w' 24 1 v' zd.length (U32 (mixed set zd zs)) ∧ (∀ g, v'.ownBlock = some g → w.heap.size ≤ g)) := by
  have hb : Blk (w.alloc (.cells #[.int .u8 0, .int .u8 0, .int .u8 0, .bool false] 87)) w.heap.size (mcells 0 0 0 false) 87 := Blk.new w _ _
  have hmw : IntKind.u8.wrap (mode : Int) = (mode : Int) := by simp [IntKind.wrap, IntKind.bits, IntKind.signed]; omega
  have HM := Lib.hid hmw
  clear hmw
  go_enter Try.func29, Try.ntmps29
  have arm1 : ∀ (w1 : World), Keep (At w.heap.size) (w.alloc (.cells #[.int .u8 0, .int .u8 0, .int .u8 0, .bool false] 87)) w1 → Keep Non w w1 := fun w1 k1 => ((Keep.refl _ _).alloc _).trans k1 (fun i hi h => by unfold At at h; omega)
  have hsz : w.heap.size < (w.alloc (.cells #[.int .u8 0, .int .u8 0, .int .u8 0, .bool false] 87)).heap.size := by simp
  have HSET := Lib.hid hset
  have HSZ := Lib.hid hsz
  clear hset hsz
  have LAST : ∀ (w1 w2 w3 : World) (x2 v2 x3 v3 : Value), Blk w1 w.heap.size (mcells mode 1 0 false) 87 → w.heap.size < w1.heap.size → Grew (w1.alloc (.cells #[] 24)) w2 x2 v2 → x2 = .slice (some ⟨w1.heap.size, 0, none⟩) 0 0 →
      Grew (w2.alloc (.cells #[] 24)) w3 x3 v3 → x3 = .slice (some ⟨w2.heap.size, 0, none⟩) 0 0 → Row w2 24 1 v2 (0 + zd.length) ([] ++ U32 zd) →
      Keep Non w1 w3 ∧ Blk w3 w.heap.size (mcells mode 1 0 false) 87 ∧ Row w3 24 1 v2 zd.length (U32 zd) ∧ (∀ k, v2.ownBlock = some k → v3.ownBlock ≠ some k) ∧ (∀ k, v2.ownBlock = some k → w1.heap.size ≤ k) := by
    intro w1 w2 w3 x2 v2 x3 v3 hb1 hs1 g2 e2 g3 e3 r2
    obtain ⟨k2, l2⟩ := g2.copied e2
    obtain ⟨k3, l3⟩ := g3.copied e3
    have k13 := k2.trans k3 (fun _ _ h => h)
    have r2' : Row w2 24 1 v2 zd.length (U32 zd) := by simpa using r2
    refine ⟨k13, hb1.keep k13 (fun h => h), r2'.keep k3 (fun _ _ h => h), fun k h h' => ?_, l2⟩
    have := r2'.lt h
    have := l3 k h'
    omega
  by_cases hl : zd.length = zs.length
  · have HL := Lib.hid hl
    clear hl
    go_wp2_with (first
      | (go_at_call 42; go_must (refine (setMode _ 0 0 0 false _ mode 1 _ hb).mono ?_); rintro e w1 ⟨r, rfl, hr, hb1, k1⟩; obtain rfl : r = .nilIface := hr; have k01 := arm1 w1 k1; have hd1 := hd.keep k01 (fun _ _ h => h); have hs1 := hs.keep k01 (fun _ _ h => h))
      | (at_builtin; refine wpList_app sliceU32 rfl (.tmp 20) (.tmp 21) rfl rfl (Row.lit w1 24 1 [] 0 (by decide) rfl) rfl (hd1.alloc _) (U32_one _) (by unfold maxLen; omega) (by omega) ?_; intro v2 w2 r2 g2 n2)
      | (at_builtin; refine wpList_app sliceU32 rfl (.tmp 26) (.tmp 27) rfl rfl (Row.lit w2 24 1 [] 0 (by decide) rfl) rfl (Reads.alloc (hs1.keep (g2.copied rfl).1 (fun _ _ h => h)) _) (U32_one _) (by unfold maxLen; omega) (by omega) ?_; intro v3 w3 r3 g3 n3)
      | (go_at_call 49; have LL := LAST w1 w2 w3 _ v2 _ v3 hb1 (Nat.lt_of_lt_of_le HSZ.out k1.size) g2 rfl g3 rfl r2; go_must (refine (mergeCounters _ mode 1 0 set HSET.out v2 v3 zd zs w3 LL.2.1 LL.2.2.1 (by simpa using r3) LL.2.2.2.1 HL.out m1 bd bs).mono ?_); rintro e w4 ⟨rfl, r4, hb4, k4⟩))
    have LL := LAST w1 w2 w3 _ v2 _ v3 hb1 (Nat.lt_of_lt_of_le HSZ.out k1.size) g2 rfl g3 rfl r2
    have kk : Keep Non w w4 := (k01.trans LL.1 (fun _ _ h => h)).trans k4 (fun i hi h => by
      rcases h with h | h
      · omega
      · have := LL.2.2.2.2 i h; have := k01.size; omega)
    have FIN := Lib.hid (show decide (zd.length = zs.length) = true from decide_eq_true HL.out)
    go_quiet (fail)
    go_wp2
    go_ret3
    refine ⟨v2, true, overs set zd zs, rfl, kk.drewN _, FIN.out.symm, fun _ => ⟨rfl, r4.keep ((Keep.refl Non _).drewN _) (fun _ _ h => h), fun g hg => ?_⟩⟩
    have := LL.2.2.2.2 g hg; have := k01.size; omega
  · have HL := Lib.hid hl
    have hle : zd.length < zs.length ∨ zs.length < zd.length := by omega
    have HLE := Lib.hid hle
    clear hl hle
    go_wp2_with (first
      | (go_at_call 42; go_must (refine (setMode _ 0 0 0 false _ mode 1 _ hb).mono ?_); rintro e w1 ⟨r, rfl, hr, hb1, k1⟩; obtain rfl : r = .nilIface := hr; have k01 := arm1 w1 k1; have hd1 := hd.keep k01 (fun _ _ h => h); have hs1 := hs.keep k01 (fun _ _ h => h))
      | (at_builtin; refine wpList_app sliceU32 rfl (.tmp 20) (.tmp 21) rfl rfl (Row.lit w1 24 1 [] 0 (by decide) rfl) rfl (hd1.alloc _) (U32_one _) (by unfold maxLen; omega) (by omega) ?_; intro v2 w2 r2 g2 n2)
      | (at_builtin; refine wpList_app sliceU32 rfl (.tmp 26) (.tmp 27) rfl rfl (Row.lit w2 24 1 [] 0 (by decide) rfl) rfl (Reads.alloc (hs1.keep (g2.copied rfl).1 (fun _ _ h => h)) _) (U32_one _) (by unfold maxLen; omega) (by omega) ?_; intro v3 w3 r3 g3 n3)
      | (go_at_call 49; have LL := LAST w1 w2 w3 _ v2 _ v3 hb1 (Nat.lt_of_lt_of_le HSZ.out k1.size) g2 rfl g3 rfl r2; go_must (refine (mergeRefused _ v2 v3 zd.length (0 + zs.length) _ _ w3 LL.2.2.1.reads r3.reads (by have := HL.out; omega)).mono ?_); rintro e w4 ⟨t4, a4, rfl, k4⟩))
    have LL := LAST w1 w2 w3 _ v2 _ v3 hb1 (Nat.lt_of_lt_of_le HSZ.out k1.size) g2 rfl g3 rfl r2
    have kk : Keep Non w w4 := (k01.trans LL.1 (fun _ _ h => h)).trans k4 (fun _ _ h => h)
    have FIN := Lib.hid (show decide (zd.length = zs.length) = false from decide_eq_false HL.out)
    go_quiet (fail)
    go_wp2
    go_ret3
    exact ⟨v2, false, false, rfl, kk.drewN _, FIN.out.symm, fun h => absurd h HL.out⟩
end Go.Proofs.Ytfcdedcffmpjjaa
