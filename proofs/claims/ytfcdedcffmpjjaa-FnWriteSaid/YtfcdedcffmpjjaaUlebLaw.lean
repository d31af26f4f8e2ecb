/-
  CONTRACTS of spec.Uleb and impl.Uleb; the law FnUleb.
-/
import Derived.Test.YtfcdedcffmpjjaaUleb
import Derived.Test.YtfcdedcffmpjjaaOpen
namespace Go.Proofs.Ytfcdedcffmpjjaa
open Go.RowKit
open Plain (M64)
set_option maxRecDepth 100000 in
set_option maxHeartbeats 400000 in
theorem uleb_spec (x : Nat) (w : World) (hx : x < M64) :
    Calls Try.prog 18 #[.int .u64 x] w (Fresh w 5 1 (uleb x).length (B (uleb x))) := by
  go_enter Try.func18, Try.ntmps18
  go_wp2
  go_loopw [0, 3] (fun c bv wr => ∃ cur done, c = .int .u64 (cur : Nat) ∧ cur < M64 ∧ done ++ uleb cur = uleb x ∧ Row wr 5 1 bv done.length (B done) ∧ Keep Non w wr ∧ (∀ g, bv.ownBlock = some g → w.heap.size ≤ g))
    (fun c _ _ => (intOf c).toNat)
  case atStart => exact ⟨x, [], rfl, hx, rfl, Row.lit w 5 1 [] 0 (by decide) rfl, (Keep.refl _ _).alloc _, fun g h => by simp [Value.ownBlock] at h; omega⟩
  case round =>
    obtain ⟨cur, done, rfl, hc, hd, hr, hk, hl⟩ := hrel
    have hb : done.length + 1 ≤ 30 := by
      have h1 := uleb_len64 (v := x) hx
      have h2 := congrArg List.length hd
      simp at h2
      omega
    have HD := Lib.hid hd
    have HC := Lib.hid hc
    have HL := Lib.hid hl
    clear hd hc hl
    by_cases hs : cur < 128
    · go_wp2_with (at_builtin; go_must (refine wpList_app sliceBytes rfl _ _ rfl rfl (hr.alloc _) rfl (Reads.one _ _ _) (fun u hu => by simp at hu; subst hu; rfl) (by unfold maxLen; omega) (by omega) ?_); intro v' w1 hr1 hg1 hn1)
      go_ret
      have hd := HD.out
      rw [uleb_small hs] at hd
      refine ⟨v', rfl, ?_, ?_, ?_⟩
      · rw [← hd, B_append, B_single cur (by omega), List.length_append]
        exact hr1
      · exact (hk.alloc _).trans hg1.keep (fun i hi h => by have := HL.out i h; omega)
      · intro g hg
        rcases hg1.lies hg with h | h
        · exact HL.out g h
        · have := hk.size
          simp at h; omega
    · have hw := Plain.wrap_u64_div cur HC.out
      go_wp2_with (at_builtin; go_must (refine wpList_app sliceBytes rfl _ _ rfl rfl (hr.alloc _) rfl (Reads.one _ _ _) (fun u hu => by simp at hu; subst hu; rfl) (by unfold maxLen; omega) (by omega) ?_); intro v' w1 hr1 hg1 hn1)
      have hd := HD.out
      rw [uleb_big hs] at hd
      go_roundw
      case rel =>
        refine ⟨cur / 128, done ++ [UInt8.ofNat (cur % 128 + 128)], by go_num, ?_, ?_, ?_, ?_, ?_⟩
        · have := HC.out; unfold M64 at *; omega
        · rw [← hd]; simp
        · rw [B_append, B_single _ (by omega), List.length_append]
          have e1 : ((cur % 128 + 128 : Nat) : Int) = (cur : Int) % 128 + 128 := by omega
          rw [e1]
          exact hr1
        · exact (hk.alloc _).trans hg1.keep (fun i hi h => by have := HL.out i h; omega)
        · intro g hg
          rcases hg1.lies hg with h | h
          · exact HL.out g h
          · have := hk.size
            simp at h; omega
      case measure => simp [intOf]; omega
set_option maxRecDepth 100000 in
set_option maxHeartbeats 400000 in
theorem uleb_impl (a : Value) (ahead : List UInt8) (x : Nat) (w : World) (hx : x < M64) (ha : Reads w 1 a ahead.length (B ahead)) (hn : ahead.length ≤ 1000) :
    Calls Try.prog 19 #[a, .int .u64 x] w (Fresh w 5 1 (ahead ++ uleb x).length (B (ahead ++ uleb x))) := by
  have HX := Lib.hid hx
  clear hx
  go_enter Try.func19, Try.ntmps19
  go_wp2_with (first
    | (at_builtin; go_must (refine wpList_app sliceBytes rfl _ _ rfl rfl (Row.lit w 5 1 [] 0 (by decide) rfl) rfl (ha.alloc _) (B_one _) (by unfold maxLen; omega) (by omega) ?_); intro v1 w1 r1 g1 n1)
    | (go_at_call 38; go_must (refine (appendUleb _ _ _ _ _ HX.out r1 (by omega)).mono ?_); rintro e w2 ⟨v2, rfl, r2, k2, l2⟩))
  go_ret
  have k1 : Keep Non w w1 := ((Keep.refl _ _).alloc _).trans g1.keep (fun i hi h => by simp [Own, Value.ownBlock, Act.eval] at h; omega)
  have l1 : ∀ g, v1.ownBlock = some g → w.heap.size ≤ g := fun g hg => by
    rcases g1.lies hg with h | h
    · simp [Value.ownBlock, Act.eval] at h; omega
    · simp at h; omega
  refine ⟨v2, rfl, ?_, k1.trans k2 (fun i hi h => by have := l1 i h; omega), fun g hg => ?_⟩
  · rw [List.length_append]; simpa using r2
  · rcases l2 g hg with h | h
    · exact l1 g h
    · have := k1.size; omega

set_option maxRecDepth 100000 in
set_option maxHeartbeats 1000000 in
theorem uleb_law (a : Value) (ahead : List UInt8) (n : Nat) (x : Nat) (w : World) (hx : x < M64) (ha : Reads w 1 a n (B ahead)) (hv : ∃ ao c, a = .slice ao n c) :
    Calls Try.prog 5 #[a, .int .u64 x] w fun e w' => e = .returned (.bool true) ∧ Below w.heap.size w w' := by
  obtain ⟨ao, c, rfl⟩ := hv
  by_cases h0 : 300 < n
  · go_enter Try.func5, Try.ntmps5
    go_wp2
    all_goals
      go_ret
      exact ⟨rfl, Below.refl _ _⟩
  have hl : ahead.length = n := by simpa [B_length] using ha.1
  subst hl
  have HX := Lib.hid hx
  clear hx
  go_enter Try.func5, Try.ntmps5
  go_wp2_with (first
    | (at_builtin; refine wpList_app sliceBytes rfl (.tmp 12) (.tmp 13) rfl rfl (Row.lit w 5 1 [] 0 (by decide) rfl) rfl (ha.alloc _) (B_one _) (by unfold maxLen; omega) (by omega) ?_; intro v1 w1 r1 g1 n1)
    | (go_at_call 18; go_must (refine (uleb_spec _ _ HX.out).mono ?_); rintro e w2 ⟨v2, rfl, r2, k2, l2⟩; have r1' := r1.keep k2 (fun _ _ h => h))
    | (at_builtin; go_must (refine wpList_app sliceBytes rfl (.tmp 14) (.tmp 16) rfl rfl r1' rfl r2.reads (B_one _) (by unfold maxLen; have := uleb_len64 HX.out; omega) (by have := uleb_len64 HX.out; omega) ?_); intro v3 w3 r3 g3 n3))
  have k13 : Keep Non w w3 := by
    have k1 : Keep Non w w1 := ((Keep.refl _ _).alloc _).trans g1.keep (fun i hi h => by simp [Own, Value.ownBlock, Act.eval] at h; omega)
    have l1 : ∀ g, v1.ownBlock = some g → w.heap.size ≤ g := fun g hg => by
      rcases g1.lies hg with h | h
      · simp [Value.ownBlock, Act.eval] at h; omega
      · simp at h; omega
    exact (k1.trans k2 (fun _ _ h => h)).trans g3.keep (fun i hi h => by have := l1 i h; omega)
  have ha3 : Reads w3 1 (.slice ao ahead.length c) ahead.length (B ahead) := ha.keep k13 (fun _ _ h => h)
  have e3 : [] ++ B ahead ++ B (uleb x) = B (ahead ++ uleb x) := by simp [B]
  rw [e3] at r3
  have c3 := run_toString (P := Try.prog) Try.underlying28 Try.underlying5 Try.underlying9 r3.drew.reads
  go_region_with (go_at_call 19; go_must (refine (uleb_impl _ ahead x _ HX.out ha3.drew (by omega)).mono ?_); rintro e w4 ⟨v4, rfl, r4, k4, l4⟩; have c4 := run_toString (P := Try.prog) Try.underlying28 Try.underlying5 Try.underlying9 r4.reads; have c5 := run_toString (P := Try.prog) Try.underlying28 Try.underlying5 Try.underlying9 (r3.drew.keep k4 (fun _ _ h => h)).reads)
  all_goals
    go_wp2
    go_ret
    refine ⟨by simp [Act.put], ?_⟩
    exact (k13.drew.trans k4 (fun _ _ h => h)).below (Nat.le_refl _) (fun k _ h => h.elim)
end Go.Proofs.Ytfcdedcffmpjjaa
