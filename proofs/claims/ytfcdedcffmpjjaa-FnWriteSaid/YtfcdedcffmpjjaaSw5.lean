/-
  THE LAW FnWrite.
-/
import Derived.Test.YtfcdedcffmpjjaaSw4
namespace Go.Proofs.Ytfcdedcffmpjjaa
open Go.RowKit
open Go.ChangeShapes Go.WideShapes Go.ChangeAt Go.Deep

/-- A slice of steps of a writer that came in. -/
theorem three_open {H : Type} {enc : TypeId × Value → H} {w : World} {t e i s : TypeId} {f0 f1 f2 : Field} {a : Option Addr} {len cap : Nat} {d : DataW H} {ps : List MemPlace}
    (ht : Try.prog.underlying t = some (.slice e)) (he : Try.prog.underlying e = some (.struct #[f0, f1, f2])) (h0 : f0.type = i) (h1 : f1.type = s) (h2 : f2.type = i) (hi : Try.prog.underlying i = some (.int .i64)) (hss : Try.prog.underlying s = some .string)
    (hone : oneCellFields Try.prog #[f0, f1, f2] = true) (hC : Try.prog.cellsOf e = 3)
    (h : DataW.Trod enc Try.prog w 0 (fun _ => true) true t (.slice a len cap) d ps) :
    ∃ l : List (Int × ByteArray × Int), l.length = len ∧ Reads w 3 (.slice a len cap) len (l.flatMap three) ∧ ∀ m ∈ l, m.2.1.size ≤ maxLen := by
  refine reads_of three_length (by decide) ?_
  rcases structs_open ht he hone hC h with h | ⟨ad, rfl, _, _, hc⟩
  · exact .inl h
  · refine .inr ⟨ad, rfl, fun i' hil => ?_⟩
    obtain ⟨cs, hl, hcell, hf⟩ := hc i' hil
    obtain ⟨v0, y0, n0, c0, r0⟩ := hf 0 f0 rfl
    obtain ⟨v1, y1, n1, c1, r1⟩ := hf 1 f1 rfl
    obtain ⟨v2, y2, n2, c2, r2⟩ := hf 2 f2 rfl
    rw [h0] at r0
    rw [h1] at r1
    rw [h2] at r2
    obtain ⟨x0, e0, _, w0⟩ := DataW.trod_int hi r0
    obtain ⟨x1, e1, _, w1⟩ := DataW.trod_string hss r1
    obtain ⟨x2, e2, _, w2⟩ := DataW.trod_int hi r2
    simp only [List.cons.injEq, and_true] at e0 e1 e2
    subst e0; subst e1; subst e2
    refine ⟨(x0, x1, x2), w1, fun j u hj => hcell j u ?_⟩
    match j, hj with
    | 0, hj => rw [c0]; exact hj
    | 1, hj => rw [c1]; exact hj
    | 2, hj => rw [c2]; exact hj
/-- zzFits2 of a step. -/
theorem fits2 (x : Int) (s : ByteArray) (y : Int) (w : World) (hs : s.size ≤ 9223372036854775807) : Calls Try.prog 45 #[.agg #[.int .i64 x, .string s, .int .i64 y]] w fun e w' => e = .returned (.bool (decide (s.size ≤ 2147483647))) ∧ Keep Non w w' := by
  by_cases h : 2147483647 < s.size
  · have hd : decide (s.size ≤ 2147483647) = false := by simpa using h
    have HD := Lib.hid hd
    clear hd
    go_enter Try.func45, Try.ntmps45
    go_wp2
    go_ret
    exact ⟨by rw [HD.out]; rfl, (Keep.refl _ _).alloc _⟩
  · have hd : decide (s.size ≤ 2147483647) = true := by simp; omega
    have HD := Lib.hid hd
    clear hd
    go_enter Try.func45, Try.ntmps45
    go_wp2
    go_ret
    exact ⟨by rw [HD.out]; rfl, (Keep.refl _ _).alloc _⟩
set_option maxRecDepth 100000 in
set_option maxHeartbeats 2000000 in
/-- zzFits1: where it says yes there are not too many steps, and no text is too long. -/
theorem fits1 (sv : Value) (l : List (Int × ByteArray × Int)) (w : World) (hs : Reads w 3 sv l.length (l.flatMap three)) (hll : l.length ≤ 9223372036854775807) (hsz : ∀ m ∈ l, m.2.1.size ≤ maxLen) :
    Calls Try.prog 25 #[sv] w fun e w' => ∃ ok, e = .returned (.bool ok) ∧ Keep Non w w' ∧ (ok = true → l.length ≤ 2147483647 ∧ ∀ m ∈ l, m.2.1.size ≤ 2147483647) := by
  obtain ⟨aa, ca, rfl⟩ := hs.slice
  have HSZ := Lib.hid hsz
  clear hsz
  by_cases hbig : 2147483647 < l.length
  · go_enter Try.func25, Try.ntmps25
    go_wp2
    go_ret
    exact ⟨false, rfl, Keep.refl _ _, fun h => by cases h⟩
  go_enter Try.func25, Try.ntmps25
  go_wp2
  go_loopw [10] (fun i wr => ∃ k : Nat, k ≤ l.length ∧ i = .int .i64 k ∧ (∀ m ∈ l.take k, m.2.1.size ≤ 2147483647) ∧ Keep Non w wr) (fun i _ => l.length - (intOf i).toNat)
  case atStart => exact ⟨0, by omega, rfl, by simp, Keep.refl _ _⟩
  case round =>
    obtain ⟨k, hk, rfl, hv, hkp⟩ := hrel
    by_cases hlt : k < l.length
    · obtain ⟨ba, offa, ca', hva, hca⟩ := hs.at (by omega) (by omega)
      cases hva
      obtain ⟨c0, c1, c2⟩ := three_at hca hlt
      have d0 := hkp.cell c0 (fun h => h)
      have d1 := hkp.cell c1 (fun h => h)
      have d2 := hkp.cell c2 (fun h => h)
      have HV : Hid (l[k].2.1.size ≤ 2147483647 → ∀ m ∈ l.take (k + 1), m.2.1.size ≤ 2147483647) := Lib.hid (fun h => take_snoc_mem hlt hv h)
      have hxz := HSZ.out _ (List.getElem_mem hlt)
      have HX := Lib.hid hxz
      have HKP := Lib.hid hkp
      clear hv hca c0 c1 c2 hxz hkp
      generalize l[k] = x at *
      obtain ⟨x1, xd, x2⟩ := x
      simp only [] at d0 d1 d2
      by_cases hx : xd.size ≤ 2147483647
      · have hd : decide (xd.size ≤ 2147483647) = true := by simpa using hx
        go_wp2_with (go_at_call 45; go_must (refine (fits2 x1 xd x2 _ (by have := HX.out; unfold maxLen at this; simp only [] at this; omega)).mono ?_); rw [hd]; rintro e w1 ⟨rfl, k1⟩; have KK := HKP.out.alloc (.cells #[.int .i64 x1, .string xd, .int .i64 x2] 95))
        go_roundw
        case measure => simp [intOf]; omega
        case rel => exact ⟨k + 1, by omega, by go_num, HV.out hx, KK.trans k1 (fun _ _ h => h)⟩
      · have hd : decide (xd.size ≤ 2147483647) = false := by simpa using hx
        go_wp2_with (go_at_call 45; go_must (refine (fits2 x1 xd x2 _ (by have := HX.out; unfold maxLen at this; simp only [] at this; omega)).mono ?_); rw [hd]; rintro e w1 ⟨rfl, k1⟩; have KK := HKP.out.alloc (.cells #[.int .i64 x1, .string xd, .int .i64 x2] 95))
        go_ret
        exact ⟨false, rfl, KK.trans k1 (fun _ _ h => h), fun h => by cases h⟩
    · have hkl : k = l.length := by omega
      subst hkl
      rw [List.take_of_length_le (Nat.le_refl _)] at hv
      have HV := Lib.hid hv
      have HKP := Lib.hid hkp
      clear hv hkp
      go_wp2
      go_ret
      exact ⟨true, rfl, HKP.out, fun _ => ⟨by omega, HV.out⟩⟩
theorem sliceWS : SliceT Try.prog 54 97 (.agg #[.int .i64 0, .string ⟨#[]⟩, .int .i64 0]) 3 32 := ⟨Try.underlying54, by kernel_rfl, rfl, by decide⟩
theorem Reads.threeAt {w : World} {x y z : Value} {T : TypeId} {g : Nat} (hg : g = w.heap.size) : Reads (w.alloc (.cells #[x, y, z] T)) 3 (.slice (some ⟨g, 0, none⟩) 1 1) 1 [x, y, z] := by
  subst hg
  refine ⟨rfl, .inr ⟨_, 1, rfl, fun j u hj => ?_⟩⟩
  have hb := Blk.new w [x, y, z] T
  rw [addr_add, Nat.zero_add, hb.cell]
  exact hj
theorem three_one (m : Int × ByteArray × Int) : ∀ u ∈ three m, u.oneCell' = true := by
  intro u hu
  simp [three] at hu
  rcases hu with rfl | rfl | rfl <;> rfl
set_option maxRecDepth 100000 in
set_option maxHeartbeats 2000000 in
/-- writes: the same steps, as the reference's. -/
theorem writes_law (sv : Value) (l : List (Int × ByteArray × Int)) (w : World) (hs : Reads w 3 sv l.length (l.flatMap three)) (hll : l.length ≤ 2147483647) :
    Calls Try.prog 27 #[sv] w fun e w' => ∃ v', e = .returned v' ∧ Row w' 97 3 v' l.length (l.flatMap three) ∧ Keep Non w w' := by
  obtain ⟨aa, ca, rfl⟩ := hs.slice
  go_enter Try.func27, Try.ntmps27
  go_wp2
  go_loopw [3, 9] (fun v i wr => ∃ k : Nat, k ≤ l.length ∧ i = .int .i64 k ∧ Row wr 97 3 v k ((l.take k).flatMap three) ∧ Keep Non w wr ∧ (∀ g, v.ownBlock = some g → w.heap.size ≤ g)) (fun _ i _ => l.length - (intOf i).toNat)
  case atStart => exact ⟨0, by omega, rfl, Row.lit w 97 3 [] 0 (by decide) rfl, (Keep.refl _ _).alloc _, fun g h => by simp [Value.ownBlock] at h; omega⟩
  case round =>
    obtain ⟨k, hk, rfl, hr, hkp, hl⟩ := hrel
    by_cases hlt : k < l.length
    · obtain ⟨ba, offa, ca', hva, hca⟩ := hs.at (by omega) (by omega)
      cases hva
      obtain ⟨c0, c1, c2⟩ := three_at hca hlt
      have c0' := hkp.cell c0 (fun h => h)
      have c1' := hkp.cell c1 (fun h => h)
      have c2' := hkp.cell c2 (fun h => h)
      have HL := Lib.hid hl
      clear hl hca c0 c1 c2
      go_wp2_with (at_builtin; go_must (refine wpList_app (m := 1) (news := three l[k]) sliceWS rfl _ _ rfl rfl ((hr.alloc _).alloc _) rfl (Reads.threeAt (by simp)) (three_one _) (by unfold maxLen; omega) (by omega) ?_); intro v' w1 hr1 hg1 hn1)
      go_roundw
      case measure => simp [intOf]; omega
      case rel =>
        refine ⟨k + 1, by omega, by go_num, ?_, ?_, ?_⟩
        · rw [List.take_succ_eq_append_getElem hlt, List.flatMap_append]
          simpa using hr1
        · exact ((hkp.alloc _).alloc _).trans hg1.keep (fun i hi h => by have := HL.out i h; omega)
        · intro g hg
          rcases hg1.lies hg with h | h
          · exact HL.out g h
          · have := hkp.size
            simp at h; omega
    · have hkl : k = l.length := by omega
      subst hkl
      rw [List.take_of_length_le (Nat.le_refl _)] at hr
      have HR := Lib.hid hr
      have HKP := Lib.hid hkp
      clear hr hkp hl
      go_wp2
      go_ret
      exact ⟨_, rfl, HR.out, HKP.out⟩
theorem I64s_at {l : List Int} {k : Nat} (h : k < l.length) : (I64s l)[k]? = some (.int .i64 l[k]) := by simp [I64s, h]
theorem wrun_length (l : List (Int × ByteArray × Int)) (hv : ∀ m ∈ l, vstep m) : ∀ k, k ≤ l.length → (wrun (l.take k)).1.length = k ∧ (wrun (l.take k)).2.2 ≤ (wrun (l.take k)).2.1.length ∧ (wrun (l.take k)).2.1.length ≤ 40 * k
  | 0, _ => by simp [wrun]
  | k + 1, h => by
    obtain ⟨a1, a2, a3⟩ := wrun_length l hv k (by omega)
    have hm := (hv _ (List.getElem_mem (show k < l.length by omega))).2.2.2.2
    have := wstep_bd (m := l[k]) a2 hm
    rw [wrun_snoc (by omega)]
    omega
set_option maxRecDepth 100000 in
set_option maxHeartbeats 4000000 in
theorem write_law (sv : Value) (l : List (Int × ByteArray × Int)) (w : World) (hs : Reads w 3 sv l.length (l.flatMap three)) (hll : l.length ≤ 9223372036854775807) (hsz : ∀ m ∈ l, m.2.1.size ≤ maxLen) :
    Calls Try.prog 9 #[sv] w fun e w' => e = .returned (.bool true) ∧ Below w.heap.size w w' := by
  obtain ⟨aa, ca, rfl⟩ := hs.slice
  have HSZ := Lib.hid hsz
  clear hsz
  go_enter Try.func9, Try.ntmps9
  go_wp2_with fail
  refine (fits1 _ l w hs hll HSZ.out).mono ?_
  rintro e w1 ⟨ok1, rfl, k1, hok1⟩
  have HOK1 := Lib.hid hok1
  clear hok1
  cases ok1 with
  | false =>
    go_wp2
    go_ret
    exact ⟨rfl, k1.below (Nat.le_refl _) (fun _ _ h => h.elim)⟩
  | true =>
    obtain ⟨s1, s2⟩ := HOK1.out rfl
    have HS2 := Lib.hid s2
    clear s2 HOK1
    have hs1 := hs.keep k1 (fun _ _ h => h)
    go_wp2_with fail
    refine (writes_law _ l w1 hs1 s1).mono ?_
    rintro e w2 ⟨v2, rfl, r2, k2⟩
    have hs2 := hs1.keep k2 (fun _ _ h => h)
    go_wp2_with fail
    refine (write_spec v2 l w2 r2.reads s1 HS2.out).mono ?_
    rintro e w3 ⟨u1, u2, ok, rfl, k3, hok⟩
    have k13 := (k1.trans k2 (fun _ _ h => h)).trans k3 (fun _ _ h => h)
    have HOK := Lib.hid hok
    clear hok r2
    cases ok with
    | false =>
      go_wp2
      go_ret
      exact ⟨rfl, k13.below (Nat.le_refl _) (fun _ _ h => h.elim)⟩
    | true =>
      obtain ⟨b1, b2, q1, q2⟩ := HOK.out rfl
      have hlen := wrun_length l b2 l.length (Nat.le_refl _)
      rw [List.take_of_length_le (Nat.le_refl _)] at hlen
      obtain ⟨l1, _, l2⟩ := hlen
      have hs3 := hs2.keep k3 (fun _ _ h => h)
      have HB2 := Lib.hid b2
      have f1 : (wrun l).1.length ≤ 40 := by omega
      have f2 : (wrun l).2.1.length ≤ 1600 := by omega
      obtain ⟨R, hR⟩ : ∃ R, R = wrun l := ⟨_, rfl⟩
      rw [← hR] at q1 q2 f1 f2
      obtain ⟨y1, z1, rfl⟩ := q1.reads.slice
      obtain ⟨y2, z2, rfl⟩ := q2.reads.slice
      have Q1 := Lib.hid q1
      have Q2 := Lib.hid q2
      have HR := Lib.hid hR
      clear q1 q2 b2 HOK hR l1 l2
      go_wp2_with fail
      refine (write_impl _ l w3 hs3 (by omega) HB2.out).mono ?_
      rintro e w4 ⟨v4, v5, rfl, r4, r5, k4⟩
      rw [← HR.out] at r4 r5
      obtain ⟨y4, z4, rfl⟩ := r4.reads.slice
      obtain ⟨y5, z5, rfl⟩ := r5.reads.slice
      have Q1' := Lib.hid (Q1.out.keep k4 (fun _ _ h => h))
      have Q2' := Lib.hid (Q2.out.keep k4 (fun _ _ h => h))
      have R4 := Lib.hid r4
      have KB : Below w.heap.size w w4 := (k13.trans k4 (fun _ _ h => h)).below (Nat.le_refl _) (fun _ _ h => h.elim)
      have HKB := Lib.hid KB
      have cv1 := run_toString (P := Try.prog) Try.underlying28 Try.underlying5 Try.underlying9 r5.reads
      have cv2 := run_toString (P := Try.prog) Try.underlying28 Try.underlying5 Try.underlying9 Q2'.out.reads
      clear KB r4 r5 Q1 Q2 hs3 hs2 hs1
      go_wp2_with fail
      go_loopw [40] (fun i wr' => ∃ k m : Nat, k ≤ R.1.length ∧ i = .int .i64 k ∧ wr' = w4.drewN m) (fun i _ => R.1.length - (intOf i).toNat)
      case atStart => exact ⟨0, 0, by omega, rfl, rfl⟩
      case round =>
        obtain ⟨k, m, hk, rfl, rfl⟩ := hrel
        by_cases hlt : k < R.1.length
        · obtain ⟨_, _, _, e1, C1⟩ := R4.out.reads.at (by omega) (by omega)
          cases e1
          obtain ⟨_, _, _, e2, C2⟩ := Q1'.out.reads.at (by omega) (by omega)
          cases e2
          have x1 := C1 k _ (I64s_at hlt)
          have x2 := C2 k _ (I64s_at hlt)
          clear C1 C2
          go_wp2
          go_quiet (fail)
          go_wp2
          go_roundw
          case measure => simp [intOf]; omega
          case rel => exact ⟨k + 1, m + nq, by omega, by go_num, rfl⟩
        · go_wp2
          go_ret
          exact ⟨rfl, HKB.out.trans (((Keep.refl Non w4).drewN m).below HKB.out.size (fun _ _ h => h.elim))⟩
end Go.Proofs.Ytfcdedcffmpjjaa
