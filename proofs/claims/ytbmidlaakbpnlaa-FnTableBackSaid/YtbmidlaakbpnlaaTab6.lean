/-
  THE LAW FnTable.
-/
import Derived.Test.YtbmidlaakbpnlaaTab5
namespace Go.Proofs.Ytbmidlaakbpnlaa
open Go.RowKit
open Go.ChangeShapes Go.WideShapes Go.ChangeAt Go.Deep
open Plain (M64)

/-- A test that leaves the world alone. -/
def OkPost (w : World) (Q : Prop) (e : Ending) (w' : World) : Prop := ∃ ok, e = .returned (.bool ok) ∧ w' = w ∧ (ok = true → Q)
set_option maxRecDepth 100000 in
set_option maxHeartbeats 1000000 in
theorem fits3 (sv : Value) (l : List ByteArray) (w : World) (hs : Reads w 1 sv l.length (Ts l)) (hll : l.length ≤ 9223372036854775807) (hsz : ∀ s ∈ l, s.size ≤ maxLen) :
    Calls Try.prog 7 #[sv] w (OkPost w (l.length ≤ 2147483647 ∧ ∀ s ∈ l, s.size ≤ 2147483647)) := by
  obtain ⟨aa, ca, rfl⟩ := hs.slice
  have HSZ := Lib.hid hsz
  clear hsz
  by_cases hbig : 2147483647 < l.length
  · go_enter Try.func7, Try.ntmps7
    go_wp2
    go_ret
    exact ⟨false, rfl, rfl, fun h => by cases h⟩
  go_enter Try.func7, Try.ntmps7
  go_wp2
  go_loop [10] (fun i => ∃ k : Nat, k ≤ l.length ∧ i = .int .i64 k ∧ (∀ s ∈ l.take k, s.size ≤ 2147483647)) (fun i => l.length - (intOf i).toNat)
  case atStart => exact ⟨0, by omega, rfl, by simp⟩
  case round =>
    obtain ⟨k, hk, rfl, hv⟩ := hrel
    by_cases hlt : k < l.length
    · obtain ⟨ba, offa, ca', hva, hca⟩ := hs.at (by omega) (by omega)
      cases hva
      have d0 := hca k _ (Ts_at hlt)
      have HV : Hid (l[k].size ≤ 2147483647 → ∀ m ∈ l.take (k + 1), m.size ≤ 2147483647) := Lib.hid (fun h => take_snoc_mem hlt hv h)
      have hxz := HSZ.out _ (List.getElem_mem hlt)
      unfold maxLen at hxz
      clear hv hca
      generalize l[k] = s at *
      by_cases hx : s.size ≤ 2147483647
      · go_wp2
        go_round
        case measure => simp [intOf]; omega
        case rel => exact ⟨k + 1, by omega, by go_num, HV.out hx⟩
      · go_wp2
        go_ret
        exact ⟨false, rfl, rfl, fun h => by cases h⟩
    · have hkl : k = l.length := by omega
      subst hkl
      rw [List.take_of_length_le (Nat.le_refl _)] at hv
      have HV := Lib.hid hv
      clear hv
      go_wp2
      go_ret
      exact ⟨true, rfl, rfl, fun _ => ⟨by omega, HV.out⟩⟩
set_option maxRecDepth 100000 in
set_option maxHeartbeats 1000000 in
theorem texts (sv : Value) (l : List ByteArray) (w : World) (hs : Reads w 1 sv l.length (Ts l)) (hll : l.length ≤ 9223372036854775807) (hsz : ∀ s ∈ l, s.size ≤ maxLen) :
    Calls Try.prog 8 #[sv] w (OkPost w (l.length ≤ 20 ∧ ∀ s ∈ l, s.size ≤ 300)) := by
  obtain ⟨aa, ca, rfl⟩ := hs.slice
  have HSZ := Lib.hid hsz
  clear hsz
  go_enter Try.func8, Try.ntmps8
  go_wp2
  go_loop [7] (fun i => ∃ k : Nat, k ≤ l.length ∧ i = .int .i64 k ∧ (∀ s ∈ l.take k, s.size ≤ 300)) (fun i => l.length - (intOf i).toNat)
  case atStart => exact ⟨0, by omega, rfl, by simp⟩
  case round =>
    obtain ⟨k, hk, rfl, hv⟩ := hrel
    by_cases hlt : k < l.length
    · obtain ⟨ba, offa, ca', hva, hca⟩ := hs.at (by omega) (by omega)
      cases hva
      have d0 := hca k _ (Ts_at hlt)
      have HV : Hid (l[k].size ≤ 300 → ∀ m ∈ l.take (k + 1), m.size ≤ 300) := Lib.hid (fun h => take_snoc_mem hlt hv h)
      have hxz := HSZ.out _ (List.getElem_mem hlt)
      unfold maxLen at hxz
      clear hv hca
      generalize l[k] = s at *
      by_cases hx : s.size ≤ 300
      · go_wp2
        go_round
        case measure => simp [intOf]; omega
        case rel => exact ⟨k + 1, by omega, by go_num, HV.out hx⟩
      · go_wp2
        go_ret
        exact ⟨false, rfl, rfl, fun h => by cases h⟩
    · have hkl : k = l.length := by omega
      subst hkl
      rw [List.take_of_length_le (Nat.le_refl _)] at hv
      have HV := Lib.hid hv
      clear hv
      go_wp2
      go_ret
      exact ⟨_, rfl, rfl, fun h => ⟨by simp at h; omega, HV.out⟩⟩
/-- Between two texts of the reference. -/
structure PI (w wr : World) (vn vt : Value) (told : List Nat) (all : List ByteArray) : Prop where
  nums : Row wr 27 1 vn told.length (U32 told)
  texts : Row wr 9 1 vt all.length (Ts all)
  keep : Keep Non w wr
  ln : ∀ b, vn.ownBlock = some b → w.heap.size ≤ b
  lt : ∀ b, vt.ownBlock = some b → w.heap.size ≤ b
theorem PI.tell {w W : World} {vn vt : Value} {told : List Nat} {all : List ByteArray} (h : PI w W vn vt told all) {u : Obj} {w1 : World} {v' : Value} {x : Nat}
    (r : Row w1 27 1 v' (told.length + 1) (U32 told ++ [.int .u32 (x : Int)])) (gr : Grew (W.alloc u) w1 vn v') : PI w w1 v' vt (told ++ [x]) all where
  nums := by simpa [U32_append, U32] using r
  texts := (h.texts.alloc u).keep gr.keep (fun b hb e => h.texts.ne h.nums (by decide) hb e)
  keep := (h.keep.alloc u).trans gr.keep (fun i hi e => by have := h.ln i e; omega)
  ln := fun b hb => by
    rcases gr.lies hb with e | e
    · exact h.ln b e
    · have := h.keep.size; simp at e; omega
  lt := h.lt
theorem PI.text {w W : World} {vn vt : Value} {told : List Nat} {all : List ByteArray} (h : PI w W vn vt told all) {u : Obj} {w1 : World} {v' : Value} {s : ByteArray}
    (r : Row w1 9 1 v' (all.length + 1) (Ts all ++ [.string s])) (gr : Grew (W.alloc u) w1 vt v') : PI w w1 vn v' told (all ++ [s]) where
  texts := by simpa [Ts_append, Ts] using r
  nums := (h.nums.alloc u).keep gr.keep (fun b hb e => h.nums.ne h.texts (by decide) hb e)
  keep := (h.keep.alloc u).trans gr.keep (fun i hi e => by have := h.lt i e; omega)
  lt := fun b hb => by
    rcases gr.lies hb with e | e
    · exact h.lt b e
    · have := h.keep.size; simp at e; omega
  ln := h.ln
set_option maxRecDepth 100000 in
set_option maxHeartbeats 4000000 in
theorem places_spec (sv : Value) (l : List ByteArray) (w : World) (hs : Reads w 1 sv l.length (Ts l)) (hll : l.length ≤ 1000) :
    Calls Try.prog 9 #[sv] w fun e w' => ∃ v1 v2, e = .returned (.tuple #[v1, v2]) ∧ Row w' 27 1 v1 (places l).1.length (U32 (places l).1) ∧ Row w' 9 1 v2 (places l).2.length (Ts (places l).2) ∧ Keep Non w w' := by
  obtain ⟨aa, ca, rfl⟩ := hs.slice
  have e1 : (w.alloc (.cells #[] 27)).heap.size = w.heap.size + 1 := by simp
  have I0 : PI w ((w.alloc (.cells #[] 27)).alloc (.cells #[] 9)) (.slice (some ⟨w.heap.size, 0, none⟩) 0 0) (.slice (some ⟨w.heap.size + 1, 0, none⟩) 0 0) [] [] :=
    { nums := (Row.lit w 27 1 [] 0 (by decide) rfl).alloc _
      texts := by
        have := Row.lit (w.alloc (.cells #[] 27)) 9 1 [] 0 (by decide) rfl
        rw [e1] at this
        exact this
      keep := ((Keep.refl _ _).alloc _).alloc _
      ln := fun b hb => by simp [Value.ownBlock] at hb; omega
      lt := fun b hb => by simp [Value.ownBlock] at hb; omega }
  have HI0 := Lib.hid I0
  clear e1 I0
  go_enter Try.func9, Try.ntmps9
  go_wp2
  go_loopw [4, 5, 13] (fun vn vt i wr => ∃ (k : Nat) (told : List Nat) (all : List ByteArray), k ≤ l.length ∧ i = .int .i64 k ∧ places (l.take k) = (told, all) ∧ told.length = k ∧ all.length ≤ k ∧ PI w wr vn vt told all) (fun _ _ i _ => l.length - (intOf i).toNat)
  case atStart => exact ⟨0, [], [], by omega, rfl, rfl, rfl, by simp, HI0.out⟩
  case round =>
    obtain ⟨k, told, all, hk, rfl, hp, hkl, hal, hI⟩ := hrel
    by_cases hlt : k < l.length
    · obtain ⟨ba, offa, ca', hva, hca⟩ := hs.at (by omega) (by omega)
      cases hva
      have d0 := hI.keep.cell (hca k _ (Ts_at hlt)) (fun h => h)
      have hps := places_snoc hlt
      rw [hp] at hps
      have HPS := Lib.hid hps
      obtain ⟨ta, tc, hte⟩ := hI.texts.reads.slice
      subst hte
      have HI := Lib.hid hI
      have HKL := Lib.hid hkl
      have hkl1 : told.length ≤ 1000 := by omega
      have hpl := place_le all l[k]
      have hadl := added_length all l[k]
      clear hps hp hI hca hkl
      generalize l[k] = s at *
      obtain ⟨pl, hple⟩ : ∃ pl, pl = place all s := ⟨_, rfl⟩
      have HPL := Lib.hid hple
      rw [← hple] at hpl
      clear hple
      go_wp2_with fail
      go_loop [8] (fun a => ∃ j : Nat, j ≤ pl ∧ a = .int .i64 j) (fun a => pl - (intOf a).toNat)
      case atStart => exact ⟨0, by omega, rfl⟩
      case round =>
        obtain ⟨j, hj, rfl⟩ := hrel
        by_cases hjl : j < all.length
        · obtain ⟨tb, toff, tc', hte, htc⟩ := HI.out.texts.reads.at (by omega) (by omega)
          cases hte
          have x0 := htc j _ (Ts_at hjl)
          clear htc
          by_cases hjp : j < pl
          · have hne : all[j] ≠ s := place_before all s j (by rw [← HPL.out]; exact hjp) hjl
            have hnb : (all[j].toList == s.toList) = false := by
              rw [beq_eq_false_iff_ne, Go.ByteArray.toList_eq, Go.ByteArray.toList_eq]
              exact fun e => hne (Go.WideShapes.bytes_inj e)
            go_wp2
            go_round
            case measure => simp [intOf]; omega
            case rel => exact ⟨j + 1, by omega, by go_num⟩
          · have hje : j = pl := by omega
            have heq : all[j] = s := by
              have := place_at all s (by rw [← HPL.out]; omega)
              have e : place all s = j := by rw [← HPL.out]; exact hje.symm
              simp only [e] at this
              exact this
            rw [heq] at x0
            have hne2 : ((j : Int) == (all.length : Int)) = false := by simp; omega
            have hps : places (l.take (k + 1)) = (told ++ [j], all) := by
              rw [HPS.out]
              have e : place all s = j := by rw [← HPL.out]; exact hje.symm
              simp only [placesStep, added, e, if_pos hjl]
            have HPS2 := Lib.hid hps
            have I2 := HI.out
            clear heq hps hje
            go_wp2_with (at_builtin; go_must (refine wpList_app (n := told.length) (xs := U32 told) (m := 1) sliceU32 rfl _ _ rfl rfl (Row.alloc I2.nums _) rfl (Reads.oneAt (by simp)) (u32_one _) (by unfold maxLen; omega) (by omega) ?_); intro v' w3 r3 g3 n3)
            go_roundw
            case measure => simp [intOf]; omega
            case rel => exact ⟨k + 1, told ++ [j], all, by omega, by go_num, HPS2.out, by simp [HKL.out], by omega, I2.tell r3 g3⟩
        · have hje : j = all.length := by omega
          subst hje
          have hps : places (l.take (k + 1)) = (told ++ [all.length], all ++ [s]) := by
            rw [HPS.out]
            have e : place all s = all.length := by rw [← HPL.out]; omega
            simp only [placesStep, added, e, if_neg (Nat.lt_irrefl _)]
          have HPS2 := Lib.hid hps
          clear hps
          go_wp2_with (first
            | ((with_reducible show wpList _ _ _ (Oper.mk (some 38) _ _ _ _ _ :: _) _ _); go_must (refine wpList_app (n := all.length) (xs := Ts all) (m := 1) sliceStr rfl _ _ rfl rfl (Row.alloc HI.out.texts _) rfl (Reads.oneAt (by simp)) (str_one _) (by unfold maxLen; omega) (by omega) ?_); intro v' w2 r2 g2 n2; have I2 := HI.out.text r2 g2; clear r2 g2 n2)
            | (at_builtin; go_must (refine wpList_app (n := told.length) (xs := U32 told) (m := 1) sliceU32 rfl _ _ rfl rfl (Row.alloc I2.nums _) rfl (Reads.oneAt (by simp)) (u32_one _) (by unfold maxLen; omega) (by omega) ?_); intro v' w3 r3 g3 n3))
          go_roundw
          case measure => simp [intOf]; omega
          case rel => exact ⟨k + 1, told ++ [all.length], all ++ [s], by omega, by go_num, HPS2.out, by simp [HKL.out], by simp; omega, I2.tell r3 g3⟩
    · have hkl2 : k = l.length := by omega
      subst hkl2
      rw [List.take_of_length_le (Nat.le_refl _)] at hp
      have HP := Lib.hid hp
      have HI := Lib.hid hI
      clear hp hI hkl
      go_wp2
      go_ret2
      refine ⟨_, _, rfl, ?_, ?_, HI.out.keep⟩
      · rw [HP.out]; exact HI.out.nums
      · rw [HP.out]; exact HI.out.texts
end Go.Proofs.Ytbmidlaakbpnlaa
