/-
  THE LAWS FnMerge, FnMergeLengths, FnMergeOrder.
-/
import Derived.Test.YtfcdedcffmpjjaaMerge3
namespace Go.Proofs.Ytfcdedcffmpjjaa
open Go.RowKit
open Go.ChangeShapes Go.WideShapes Go.ChangeAt

/-- Numbers of four bytes that came in. -/
theorem IsRow.u32 {w : World} {a : Option Addr} {len cap : Nat} {zs : List Int} (h : IsRow .u32 w a len cap zs) :
    ∃ l : List Nat, l.length = len ∧ Reads w 1 (.slice a len cap) len (U32 l) ∧ ∀ x ∈ l, x < 4294967296 := by
  rcases h with ⟨rfl, rfl, rfl, rfl⟩ | ⟨x, rfl, hl, hm, hz, hc, hw⟩
  · exact ⟨[], rfl, ⟨by simp [U32], .inl ⟨rfl, rfl⟩⟩, by simp⟩
  · refine ⟨(zs.take len).map Int.toNat, by simp; omega, ⟨by simp [U32]; omega, .inr ⟨x, cap, rfl, fun j u hj => ?_⟩⟩, fun y hy => ?_⟩
    · have hjl : j < len := by
        have := (List.getElem?_eq_some_iff.1 hj).1
        simp [U32] at this; omega
      have hjz : j < zs.length := by omega
      rw [hc j hjz]
      have hb := range_u32 hw j
      rw [U32_get, List.getElem?_map, List.getElem?_take, if_pos hjl, List.getElem?_eq_getElem hjz] at hj
      rw [List.getElem?_eq_getElem hjz] at hb
      simp at hj hb
      subst hj
      rw [List.getD_eq_getElem?_getD, List.getElem?_eq_getElem hjz]
      simp
      omega
    · obtain ⟨z, hz', rfl⟩ := List.mem_map.1 hy
      have := bounds_u32 (hw z (List.mem_of_mem_take hz'))
      omega

set_option maxRecDepth 100000 in
set_option maxHeartbeats 2000000 in
theorem mergeLengths_law (mode : Int) (d s : Value) (zd zs : List Nat) (w : World) (hd : Reads w 1 d zd.length (U32 zd)) (hs : Reads w 1 s zs.length (U32 zs))
    (bd : ∀ x ∈ zd, x < 4294967296) (bs : ∀ x ∈ zs, x < 4294967296) :
    Calls Try.prog 11 #[.int .i64 mode, d, s] w fun e w' => e = .returned (.bool true) ∧ Below w.heap.size w w' := by
  obtain ⟨aa, ca, hda⟩ := hd.slice
  obtain ⟨ab, cb, hsa⟩ := hs.slice
  by_cases hin : 1 ≤ mode ∧ mode ≤ 3 ∧ zd.length ≤ 40 ∧ zs.length ≤ 40
  · obtain ⟨i1, i2, i3, i4⟩ := hin
    obtain ⟨m, rfl⟩ := Int.eq_ofNat_of_zero_le (show 0 ≤ mode by omega)
    subst hda hsa
    go_enter Try.func11, Try.ntmps11
    go_wp2_with (go_at_call 29; go_must (refine (merge_impl m (m == 1) rfl _ _ zd zs _ (by omega) (by omega) hd hs (by omega) (by omega) bd bs).mono ?_); rintro e w1 ⟨v', ok, ov, rfl, k1, hok, _⟩; have HOK := Lib.hid hok; clear hok)
    go_ret
    refine ⟨ret_bool ?_, k1.below (Nat.le_refl _) (fun _ _ h => h.elim)⟩
    show (ok == ((zd.length : Int) == zs.length)) = true
    rw [HOK.out]
    by_cases h : zd.length = zs.length <;> simp [h]
    omega
  · subst hda hsa
    rcases (show mode < 1 ∨ (1 ≤ mode ∧ 3 < mode) ∨ (1 ≤ mode ∧ mode ≤ 3 ∧ 40 < zd.length) ∨ (1 ≤ mode ∧ mode ≤ 3 ∧ zd.length ≤ 40 ∧ 40 < zs.length) by omega) with h | ⟨h, h'⟩ | ⟨h, h', h''⟩ | ⟨h, h', h'', h3⟩
    all_goals
      clear hin
      go_enter Try.func11, Try.ntmps11
      go_wp2
      all_goals
        go_ret
        exact ⟨rfl, Below.refl _ _⟩

theorem mixed_comm (d s : List Nat) : mixed false d s = mixed false s d := by
  unfold mixed
  rw [List.zipWith_comm]
  congr 1
  funext a b
  simp [mixOne, mergeOne, Nat.add_comm]
theorem overs_comm (d s : List Nat) : overs false d s = overs false s d := by
  unfold overs
  rw [List.zipWith_comm]
  congr 2
  funext a b
  simp [overOne, Nat.add_comm]
theorem mixed_merged {d s : List Nat} (h : ∀ x ∈ d, x ≤ 1) : mixed true d s = merged true d s := by
  apply List.ext_getElem
  · simp [mixed, merged]
  · intro i h1 h2
    simp [mixed] at h1
    simp only [mixed, merged, List.getElem_zipWith]
    have := h _ (List.getElem_mem (show i < d.length by omega))
    unfold mixOne mergeOne
    simp
    split <;> omega
theorem mixed_false (d s : List Nat) : mixed false d s = merged false d s := rfl

set_option maxRecDepth 100000 in
set_option maxHeartbeats 2000000 in
theorem mergeOrder_law (mode : Int) (d s : Value) (zd zs : List Nat) (w : World) (hd : Reads w 1 d zd.length (U32 zd)) (hs : Reads w 1 s zs.length (U32 zs))
    (bd : ∀ x ∈ zd, x < 4294967296) (bs : ∀ x ∈ zs, x < 4294967296) :
    Calls Try.prog 12 #[.int .i64 mode, d, s] w fun e w' => e = .returned (.bool true) ∧ Below w.heap.size w w' := by
  obtain ⟨aa, ca, hda⟩ := hd.slice
  obtain ⟨ab, cb, hsa⟩ := hs.slice
  by_cases hin : 2 ≤ mode ∧ mode ≤ 3 ∧ zd.length ≤ 40 ∧ zd.length = zs.length
  · obtain ⟨i1, i2, i3, i4⟩ := hin
    obtain ⟨m, rfl⟩ := Int.eq_ofNat_of_zero_le (show 0 ≤ mode by omega)
    have hm : (m == 1) = false := by simp; omega
    have hne : ((zd.length : Int) != zs.length) = false := by simp; omega
    have HL := Lib.hid i4
    have HM := Lib.hid hm
    have l1 : zd.length ≤ zs.length := by omega
    have l2 : zs.length ≤ zd.length := by omega
    clear i4 hm
    subst hda hsa
    go_enter Try.func12, Try.ntmps12
    go_wp2_with fail
    refine (merge_impl m false HM.out _ _ zd zs _ (by omega) (by omega) hd hs (by omega) (by omega) bd bs).mono ?_
    rintro e w1 ⟨v1, ok1, ov1, rfl, k1, hok1, hr1⟩
    obtain ⟨ho1, r1, _⟩ := hr1 HL.out
    obtain rfl : ok1 = true := by rw [hok1]; simp [HL.out]
    clear hok1 hr1
    subst ho1
    have hd1 := hd.keep k1 (fun _ _ h => h)
    have hs1 := hs.keep k1 (fun _ _ h => h)
    go_wp2_with fail
    refine (merge_impl m false HM.out _ _ zs zd _ (by omega) (by omega) hs1 hd1 (by omega) (by omega) bs bd).mono ?_
    rintro e w2 ⟨v2, ok2, ov2, rfl, k2, hok2, hr2⟩
    obtain ⟨ho2, r2, _⟩ := hr2 HL.out.symm
    obtain rfl : ok2 = true := by rw [hok2]; simp [HL.out]
    clear hok2 hr2
    rw [overs_comm] at ho2
    subst ho2
    rw [mixed_comm] at r2
    have r1' := r1.keep k2 (fun _ _ h => h)
    have e1 := mixed_length (set := false) HL.out
    have e2 : (mixed false zd zs).length ≤ 40 := by omega
    have e3 : zs.length = (mixed false zd zs).length := by rw [e1, HL.out]
    rw [← e1] at r1'
    rw [e3] at r2
    clear e1 e3
    go_wp2_with fail
    refine (sameNums _ _ _ _ _ r1'.reads r2.reads (by omega) (by omega)).mono ?_
    rintro e w3 ⟨rfl, n3, rfl⟩
    go_wp2
    go_ret
    exact ⟨ret_bool (by simp), ((k1.trans k2 (fun _ _ h => h)).drewN _).below (Nat.le_refl _) (fun _ _ h => h.elim)⟩
  · subst hda hsa
    rcases (show mode < 2 ∨ (2 ≤ mode ∧ 3 < mode) ∨ (2 ≤ mode ∧ mode ≤ 3 ∧ zd.length ≠ zs.length) ∨ (2 ≤ mode ∧ mode ≤ 3 ∧ zd.length = zs.length ∧ 40 < zd.length) by omega) with h | ⟨h, h'⟩ | ⟨h, h', h''⟩ | ⟨h, h', h'', h3⟩
    · clear hin
      go_enter Try.func12, Try.ntmps12
      go_wp2
      all_goals
        go_ret
        exact ⟨rfl, Below.refl _ _⟩
    · clear hin
      go_enter Try.func12, Try.ntmps12
      go_wp2
      all_goals
        go_ret
        exact ⟨rfl, Below.refl _ _⟩
    · clear hin
      have hne : ((zd.length : Int) != zs.length) = true := by simp; omega
      clear h''
      go_enter Try.func12, Try.ntmps12
      go_wp2
      all_goals
        go_ret
        exact ⟨rfl, Below.refl _ _⟩
    · clear hin
      have hne : ((zd.length : Int) != zs.length) = false := by simp; omega
      clear h''
      go_enter Try.func12, Try.ntmps12
      go_wp2
      all_goals
        go_ret
        exact ⟨rfl, Below.refl _ _⟩

set_option maxRecDepth 100000 in
set_option maxHeartbeats 4000000 in
theorem merge_law (mode : Int) (d s : Value) (zd zs : List Nat) (w : World) (hd : Reads w 1 d zd.length (U32 zd)) (hs : Reads w 1 s zs.length (U32 zs))
    (bd : ∀ x ∈ zd, x < 4294967296) (bs : ∀ x ∈ zs, x < 4294967296) :
    Calls Try.prog 10 #[.int .i64 mode, d, s] w fun e w' => e = .returned (.bool true) ∧ Below w.heap.size w w' := by
  obtain ⟨aa, ca, hda⟩ := hd.slice
  obtain ⟨ab, cb, hsa⟩ := hs.slice
  by_cases hin : 1 ≤ mode ∧ mode ≤ 3 ∧ zd.length ≤ 40 ∧ zd.length = zs.length
  · obtain ⟨i1, i2, i3, i4⟩ := hin
    obtain ⟨m, rfl⟩ := Int.eq_ofNat_of_zero_le (show 0 ≤ mode by omega)
    have hne : ((zd.length : Int) != zs.length) = false := by simp; omega
    have HL := Lib.hid i4
    have l1 : zd.length ≤ zs.length := by omega
    have l2 : zs.length ≤ zd.length := by omega
    obtain ⟨set, hset⟩ : ∃ set, (m == 1) = set := ⟨_, rfl⟩
    have hseti : (((m : Nat) : Int) == 1) = set := by rw [← hset, Bool.eq_iff_iff]; simp; omega
    have HSET := Lib.hid hset
    clear i4 hset
    subst hda hsa
    go_enter Try.func10, Try.ntmps10
    go_wp2
    go_loopw [42] (fun i wr => ∃ k : Nat, k ≤ zd.length ∧ i = .int .i64 k ∧ (set = true → ∀ x ∈ zd.take k, x ≤ 1) ∧ wr = w) (fun i _ => zd.length - (intOf i).toNat)
    case atStart => exact ⟨0, by omega, rfl, by simp, rfl⟩
    case round =>
      obtain ⟨k, hk, rfl, hle, rfl⟩ := hrel
      by_cases hlt : k < zd.length
      · obtain ⟨ba, offa, ca', hva, hca⟩ := hd.at (by omega) (by omega)
        cases hva
        have c1 := hca k _ (U32_at hlt)
        have HLE := Lib.hid hle
        clear hle hca
        cases set with
        | true =>
          by_cases hx : zd[k] ≤ 1
          · have hx' : ((zd[k] : Nat) : Int) ≤ 1 := by omega
            go_wp2
            go_roundw
            case measure => simp [intOf]; omega
            case rel =>
              refine ⟨k + 1, by omega, by go_num, fun _ x hm => ?_, trivial⟩
              rw [List.take_succ_eq_append_getElem hlt] at hm
              rcases List.mem_append.1 hm with h | h
              · exact HLE.out rfl x h
              · simp at h; omega
          · have hx' : 1 < ((zd[k] : Nat) : Int) := by omega
            go_wp2
            go_ret
            exact ⟨rfl, Below.refl _ _⟩
        | false =>
          go_wp2
          go_roundw
          case measure => simp [intOf]; omega
          case rel => exact ⟨k + 1, by omega, by go_num, (fun h => by cases h), trivial⟩
      · have hkl : k = zd.length := by omega
        subst hkl
        have hsame : mixed set zd zs = merged set zd zs := by
          cases set with
          | true => exact mixed_merged (by simpa using hle rfl)
          | false => rfl
        have HS := Lib.hid hsame
        clear hle hsame
        go_wp2_with fail
        refine (merge_impl m set HSET.out _ _ zd zs _ (by omega) (by omega) hd hs (by omega) (by omega) bd bs).mono ?_
        rintro e w1 ⟨v1, ok1, ov1, rfl, k1, hok1, hr1⟩
        obtain ⟨ho1, r1, _⟩ := hr1 HL.out
        obtain rfl : ok1 = true := by rw [hok1]; simp [HL.out]
        clear hok1 hr1
        subst ho1
        have hd1 := hd.keep k1 (fun _ _ h => h)
        have hs1 := hs.keep k1 (fun _ _ h => h)
        go_wp2_with fail
        refine (merge_spec m set hseti _ _ zd zs _ hd1 hs1 HL.out (by omega) bd bs).mono ?_
        rintro e w2 ⟨v2, rfl, r2, k2, _⟩
        have r1' := r1.keep k2 (fun _ _ h => h)
        have e1 := mixed_length (set := set) HL.out
        have e2 : (mixed set zd zs).length ≤ 40 := by omega
        have hsm := HS.out
        rw [← hsm, ← e1] at r2
        rw [← e1] at r1'
        clear e1 hsm
        go_wp2_with fail
        refine (sameNums _ _ _ _ _ r1'.reads r2.reads (by omega) (by omega)).mono ?_
        rintro e w3 ⟨rfl, n3, rfl⟩
        go_wp2
        go_ret
        exact ⟨ret_bool (by simp), ((k1.trans k2 (fun _ _ h => h)).drewN _).below (Nat.le_refl _) (fun _ _ h => h.elim)⟩
  · subst hda hsa
    rcases (show mode < 1 ∨ (1 ≤ mode ∧ 3 < mode) ∨ (1 ≤ mode ∧ mode ≤ 3 ∧ zd.length ≠ zs.length) ∨ (1 ≤ mode ∧ mode ≤ 3 ∧ zd.length = zs.length ∧ 40 < zd.length) by omega) with h | ⟨h, h'⟩ | ⟨h, h', h''⟩ | ⟨h, h', h'', h3⟩
    · clear hin
      go_enter Try.func10, Try.ntmps10
      go_wp2
      all_goals
        go_ret
        exact ⟨rfl, Below.refl _ _⟩
    · clear hin
      go_enter Try.func10, Try.ntmps10
      go_wp2
      all_goals
        go_ret
        exact ⟨rfl, Below.refl _ _⟩
    · clear hin
      have hne : ((zd.length : Int) != zs.length) = true := by simp; omega
      clear h''
      go_enter Try.func10, Try.ntmps10
      go_wp2
      all_goals
        go_ret
        exact ⟨rfl, Below.refl _ _⟩
    · clear hin
      have hne : ((zd.length : Int) != zs.length) = false := by simp; omega
      clear h''
      go_enter Try.func10, Try.ntmps10
      go_wp2
      all_goals
        go_ret
        exact ⟨rfl, Below.refl _ _⟩
end Go.Proofs.Ytfcdedcffmpjjaa
