/-
  THE LAW FnRead.
-/
import Derived.Test.YtfcdedcffmpjjaaSRead2
namespace Go.Proofs.Ytfcdedcffmpjjaa
open Go.RowKit
open Go.ChangeShapes Go.WideShapes Go.ChangeAt Go.Deep
open Plain (M64)

theorem U64_at {l : List Nat} {k : Nat} (h : k < l.length) : (U64 l)[k]? = some (.int .u64 (l[k] : Nat)) := by simp [U64, h]
theorem Ts_at {l : List ByteArray} {k : Nat} (h : k < l.length) : (Ts l)[k]? = some (.string l[k]) := by simp [Ts, h]
set_option maxRecDepth 100000 in
set_option maxHeartbeats 1000000 in
/-- SameTexts of two readings of one list. -/
theorem sameTexts (a b : Value) (ts : List ByteArray) (w : World) (ha : Reads w 1 a ts.length (Ts ts)) (hb : Reads w 1 b ts.length (Ts ts)) (hl : ts.length ≤ 1000000) :
    Calls Try.prog 35 #[a, b] w fun e w' => e = .returned (.bool true) ∧ ∃ n, w' = w.drewN n := by
  obtain ⟨aa, ca, rfl⟩ := ha.slice
  obtain ⟨ab, cb, rfl⟩ := hb.slice
  go_enter Try.func35, Try.ntmps35
  go_wp2
  go_loopw [13] (fun i wr => ∃ k m : Nat, k ≤ ts.length ∧ i = .int .i64 k ∧ wr = w.drewN m) (fun i _ => ts.length - (intOf i).toNat)
  case atStart => exact ⟨0, 0, by omega, rfl, rfl⟩
  case round =>
    obtain ⟨k, m, hk, rfl, rfl⟩ := hrel
    by_cases hlt : k < ts.length
    · obtain ⟨ba, offa, ca', hva, hca⟩ := ha.at (by omega) (by omega)
      obtain ⟨bb, offb, cb', hvb, hcb⟩ := hb.at (by omega) (by omega)
      cases hva
      cases hvb
      have c1 := hca k _ (Ts_at hlt)
      have c2 := hcb k _ (Ts_at hlt)
      clear hca hcb
      go_wp2
      go_quiet (fail)
      go_wp2
      go_roundw
      case measure => simp [intOf]; omega
      case rel => exact ⟨k + 1, m + nq, by omega, by go_num, rfl⟩
    · go_wp2
      go_ret
      exact ⟨rfl, m, rfl⟩
theorem Reads.twoAt2 {w : World} {x y : Value} {T : TypeId} {g : Nat} (hg : g = w.heap.size) : Reads (w.alloc (.cells #[x, y] T)) 2 (.slice (some ⟨g, 0, none⟩) 1 1) 1 [x, y] := by
  subst hg; exact Reads.two _ _ _ _
theorem sliceRS : SliceT Try.prog 69 111 (.agg #[.int .i64 0, .int .i64 0]) 2 16 := ⟨Try.underlying69, by kernel_rfl, rfl, by decide⟩
set_option maxRecDepth 100000 in
set_option maxHeartbeats 2000000 in
/-- reads: the same steps, as the reference's. -/
theorem reads_law (sv : Value) (l : List (Int × Int)) (w : World) (hs : Reads w 2 sv l.length (l.flatMap two)) (hll : l.length ≤ 2147483647) :
    Calls Try.prog 33 #[sv] w fun e w' => ∃ v', e = .returned v' ∧ Row w' 111 2 v' l.length (l.flatMap two) ∧ Keep Non w w' := by
  obtain ⟨aa, ca, rfl⟩ := hs.slice
  go_enter Try.func33, Try.ntmps33
  go_wp2
  go_loopw [3, 9] (fun v i wr => ∃ k : Nat, k ≤ l.length ∧ i = .int .i64 k ∧ Row wr 111 2 v k ((l.take k).flatMap two) ∧ Keep Non w wr ∧ (∀ g, v.ownBlock = some g → w.heap.size ≤ g)) (fun _ i _ => l.length - (intOf i).toNat)
  case atStart => exact ⟨0, by omega, rfl, Row.lit w 111 2 [] 0 (by decide) rfl, (Keep.refl _ _).alloc _, fun g h => by simp [Value.ownBlock] at h; omega⟩
  case round =>
    obtain ⟨k, hk, rfl, hr, hkp, hl⟩ := hrel
    by_cases hlt : k < l.length
    · obtain ⟨ba, offa, ca', hva, hca⟩ := hs.at (by omega) (by omega)
      cases hva
      obtain ⟨c0, c1⟩ := two_at hca hlt
      have c0' := hkp.cell c0 (fun h => h)
      have c1' := hkp.cell c1 (fun h => h)
      have HL := Lib.hid hl
      clear hl hca c0 c1
      go_wp2_with (at_builtin; go_must (refine wpList_app (m := 1) sliceRS rfl _ _ rfl rfl ((hr.alloc _).alloc _) rfl (Reads.twoAt2 (by simp)) (ints2_one _ _ _) (by unfold maxLen; omega) (by omega) ?_); intro v' w1 hr1 hg1 hn1)
      go_roundw
      case measure => simp [intOf]; omega
      case rel =>
        refine ⟨k + 1, by omega, by go_num, ?_, ?_, ?_⟩
        · rw [List.take_succ_eq_append_getElem hlt, List.flatMap_append]
          simpa [two] using hr1
        · exact ((hkp.alloc _).alloc _).trans hg1.keep (fun i hi h => by have := HL.out i h; omega)
        · intro g hg
          rcases hg1.lies hg with h | h
          · exact HL.out g h
          · have := hkp.size
            simp at h; omega
    · have hkl : k = l.length := by omega
      subst hkl
      rw [List.take_of_length_le (Nat.le_refl _)] at hr
      have HR := Lib.hid hr
      have HKP := Lib.hid hkp
      clear hr hkp hl
      go_wp2
      go_ret
      exact ⟨_, rfl, HR.out, HKP.out⟩
theorem rstep_more {bs : List Nat} {st st' : Nat × List Nat × List ByteArray} {x : Int × Int} (h : rstep bs st x = some st') : st'.2.1.length ≤ st.2.1.length + 1 ∧ st'.2.2.length ≤ st.2.2.length + 1 := by
  unfold rstep at h
  split at h
  · rw [Option.bind_eq_some_iff] at h
    obtain ⟨ds, h1, h2⟩ := h
    split at h2
    · simp at h2; subst h2; simp
    · cases h2
  · split at h
    · simp only [] at h
      split at h <;> (simp at h; subst h; simp)
    · split at h
      · simp at h; subst h; simp
      · cases h
theorem rrun2_le (bs : List Nat) (l : List (Int × Int)) : ∀ k, k ≤ l.length → ∀ fin : Nat × List Nat × List ByteArray, rrun2 bs (l.take k) = some fin → fin.2.1.length ≤ k ∧ fin.2.2.length ≤ k
  | 0, _, fin, h => by simp [rrun2] at h; subst h; simp
  | k + 1, hk, fin, h => by
    rw [rrun2_snoc bs (by omega)] at h
    rw [Option.bind_eq_some_iff] at h
    obtain ⟨st, h1, h2⟩ := h
    obtain ⟨a1, a2⟩ := rrun2_le bs l k (by omega) st h1
    rcases rstep2_cases h2 with ⟨_, _, b, _, rfl⟩ | ⟨_, _, rfl⟩ | ⟨_, _, rfl⟩ | ⟨m, _, _, _, rfl⟩ | ⟨m, _, _, rfl⟩ | h2
    · simp; omega
    · simp; omega
    · simp; omega
    · simp; omega
    · simp; omega
    · have := rstep_more h2
      omega
set_option maxRecDepth 100000 in
set_option maxHeartbeats 4000000 in
theorem read_law (a : Option Addr) (c : Nat) (sv : Value) (bs : List Nat) (l : List (Int × Int)) (w : World) (hd : Reads w 1 (.slice a bs.length c) bs.length (By bs)) (hc : bs.length ≤ c) (hs : Reads w 2 sv l.length (l.flatMap two)) (h8 : ∀ x ∈ bs, x < 256)
    (hbl : bs.length ≤ 9223372036854775807) (hll : l.length ≤ 9223372036854775807) :
    Calls Try.prog 13 #[.slice a bs.length c, sv] w fun e w' => e = .returned (.bool true) ∧ Below w.heap.size w w' := by
  obtain ⟨aa, ca, rfl⟩ := hs.slice
  have H8 := Lib.hid h8
  clear h8
  by_cases h1 : 2147483647 < bs.length
  · go_enter Try.func13, Try.ntmps13
    go_wp2
    all_goals
      go_ret
      exact ⟨rfl, Below.refl _ _⟩
  by_cases h2 : 2147483647 < l.length
  · go_enter Try.func13, Try.ntmps13
    go_wp2
    all_goals
      go_ret
      exact ⟨rfl, Below.refl _ _⟩
  go_enter Try.func13, Try.ntmps13
  go_wp2_with fail
  refine (reads_law _ l w hs (by omega)).mono ?_
  rintro e w1 ⟨v1, rfl, r1, k1⟩
  have hd1 := hd.keep k1 (fun _ _ h => h)
  have hs1 := hs.keep k1 (fun _ _ h => h)
  go_wp2_with fail
  refine (read_spec a c v1 bs l w1 hd1 hc r1.reads (by omega) (by omega) H8.out).mono ?_
  rintro e w2 ⟨u1, u2, ok, rfl, k2, hok⟩
  have HOK := Lib.hid hok
  clear hok
  cases ok with
  | false =>
    go_wp2
    go_ret
    exact ⟨rfl, (k1.trans k2 (fun _ _ h => h)).below (Nat.le_refl _) (fun _ _ h => h.elim)⟩
  | true =>
    obtain ⟨b1, b2, b3, fin, hrun, q1, q2⟩ := HOK.out rfl
    obtain ⟨fp, fn, ft⟩ := fin
    have hd2 := hd1.keep k2 (fun _ _ h => h)
    have hs2 := hs1.keep k2 (fun _ _ h => h)
    have hfl : fn.length ≤ l.length ∧ ft.length ≤ l.length := by
      have := rrun2_le bs l (l.length) (Nat.le_refl _)
      rw [List.take_of_length_le (Nat.le_refl _)] at this
      exact this _ hrun
    have HRUN := Lib.hid hrun
    have HB3 := Lib.hid b3
    obtain ⟨f1, f2⟩ := hfl
    simp only [] at q1 q2
    obtain ⟨y1, z1, rfl⟩ := q1.reads.slice
    obtain ⟨y2, z2, rfl⟩ := q2.reads.slice
    have Q1 := Lib.hid q1
    have Q2 := Lib.hid q2
    clear hrun b3 HOK r1 q1 q2
    go_wp2_with fail
    refine (read_impl2 _ _ bs l w2 hd2 hs2 (by omega) (by omega) H8.out (fun m hm => by have := HB3.out m hm; omega) _ HRUN.out).mono ?_
    rintro e w3 ⟨v3, v4, rfl, r3, r4, k3⟩
    obtain ⟨y3, z3, rfl⟩ := r3.reads.slice
    obtain ⟨y4, z4, rfl⟩ := r4.reads.slice
    have Q1' := Lib.hid (Q1.out.keep k3 (fun _ _ h => h))
    have Q2' := Lib.hid (Q2.out.keep k3 (fun _ _ h => h))
    have R3 := Lib.hid r3
    have R4 := Lib.hid r4
    have KB : Below w.heap.size w w3 := ((k1.trans k2 (fun _ _ h => h)).trans k3 (fun _ _ h => h)).below (Nat.le_refl _) (fun _ _ h => h.elim)
    have HKB := Lib.hid KB
    clear KB r3 r4 Q1 Q2 hd2 hs2 hd1 hs1
    go_wp2_with (go_at_call 35; go_must (refine (sameTexts _ _ ft w3 R4.out.reads Q2'.out.reads (by omega)).mono ?_); rintro e w4 ⟨rfl, n4, rfl⟩)
    go_loopw [48] (fun i wr' => ∃ k m : Nat, k ≤ fn.length ∧ i = .int .i64 k ∧ wr' = w3.drewN m) (fun i _ => fn.length - (intOf i).toNat)
    case atStart => exact ⟨0, n4, by omega, rfl, rfl⟩
    case round =>
      obtain ⟨k, m, hk, rfl, rfl⟩ := hrel
      by_cases hlt : k < fn.length
      · obtain ⟨_, _, _, e1, C1⟩ := R3.out.reads.at (by omega) (by omega)
        cases e1
        obtain ⟨_, _, _, e2, C2⟩ := Q1'.out.reads.at (by omega) (by omega)
        cases e2
        have x1 := C1 k _ (U64_at hlt)
        have x2 := C2 k _ (U64_at hlt)
        clear C1 C2
        go_wp2
        go_quiet (fail)
        go_wp2
        go_roundw
        case measure => simp [intOf]; omega
        case rel => exact ⟨k + 1, m + nq, by omega, by go_num, rfl⟩
      · go_wp2
        go_ret
        exact ⟨rfl, HKB.out.trans (((Keep.refl Non w3).drewN m).below HKB.out.size (fun _ _ h => h.elim))⟩
end Go.Proofs.Ytfcdedcffmpjjaa
