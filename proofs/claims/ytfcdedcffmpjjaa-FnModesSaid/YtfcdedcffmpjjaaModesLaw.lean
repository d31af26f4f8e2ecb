/-
  THE LAW FnModes.
-/
import Derived.Test.YtfcdedcffmpjjaaModesRun
namespace Go.Proofs.Ytfcdedcffmpjjaa
open Go.RowKit
open Go.ChangeShapes Go.WideShapes Go.ChangeAt Go.Deep

theorem modes_nat : ∀ {l : List (Int × Int)}, (∀ m ∈ l, vmode m = true) → ∃ lN : List (Nat × Nat), l = lN.map castM ∧ ∀ m ∈ lN, 1 ≤ m.1 ∧ m.1 ≤ 5 ∧ m.2 ≤ 2
  | [], _ => ⟨[], rfl, by simp⟩
  | (a, b) :: l, h => by
    obtain ⟨lN, e, hm⟩ := modes_nat (l := l) (fun m hm => h m (List.mem_cons_of_mem _ hm))
    have hv := h (a, b) List.mem_cons_self
    simp [vmode] at hv
    refine ⟨(a.toNat, b.toNat) :: lN, ?_, fun m hm' => ?_⟩
    · simp [castM, e]; omega
    · rcases List.mem_cons.1 hm' with rfl | h
      · simp; omega
      · exact hm m h
theorem Reads.twoAt {w : World} {x y : Value} {T : TypeId} {g : Nat} (hg : g = w.heap.size) : Reads (w.alloc (.cells #[x, y] T)) 2 (.slice (some ⟨g, 0, none⟩) 1 1) 1 [x, y] := by
  subst hg; exact Reads.two _ _ _ _
theorem Bs_at {l : List Bool} {k : Nat} (h : k < l.length) : (Bs l)[k]? = some (.bool l[k]) := by simp [Bs, h]
set_option maxRecDepth 100000 in
set_option maxHeartbeats 4000000 in
theorem modes_law (relaxed : Bool) (s : Value) (l : List (Int × Int)) (w : World) (hs : Reads w 2 s l.length (l.flatMap two)) (hm : l.length ≤ 9223372036854775807) :
    Calls Try.prog 8 #[.bool relaxed, s] w fun e w' => e = .returned (.bool true) ∧ Below w.heap.size w w' := by
  obtain ⟨aa, ca, rfl⟩ := hs.slice
  go_enter Try.func8, Try.ntmps8
  go_wp2
  · go_ret
    exact ⟨rfl, Below.refl _ _⟩
  go_loopw [5, 19] (fun v i wr => ∃ k : Nat, k ≤ l.length ∧ i = .int .i64 k ∧ (∀ m ∈ l.take k, vmode m = true) ∧ Row wr 42 2 v k ((l.take k).flatMap two) ∧ Keep Non w wr ∧ (∀ g, v.ownBlock = some g → w.heap.size ≤ g)) (fun _ i _ => l.length - (intOf i).toNat)
  case atStart => exact ⟨0, by omega, rfl, by simp, Row.lit w 42 2 [] 0 (by decide) rfl, (Keep.refl _ _).alloc _, fun g h => by simp [Value.ownBlock] at h; omega⟩
  case round =>
    obtain ⟨k, hk, rfl, hv, hr, hkp, hl⟩ := hrel
    have hbig : l.length ≤ 2147483647 := by omega
    by_cases hlt : k < l.length
    · obtain ⟨ba, offa, ca', hva, hca⟩ := hs.at (by omega) (by omega)
      cases hva
      obtain ⟨c0, c1⟩ := two_at hca hlt
      have c0' := hkp.cell c0 (fun h => h)
      have c1' := hkp.cell c1 (fun h => h)
      have HV := Lib.hid hv
      have HL := Lib.hid hl
      clear hv hl hca c0 c1
      by_cases t1 : l[k].1 < 1
      · go_wp2
        go_ret
        exact ⟨rfl, ((hkp.alloc _)).below (Nat.le_refl _) (fun _ _ h => h.elim)⟩
      by_cases t2 : 5 < l[k].1
      · go_wp2
        go_ret
        exact ⟨rfl, ((hkp.alloc _)).below (Nat.le_refl _) (fun _ _ h => h.elim)⟩
      by_cases t3 : l[k].2 < 1
      · go_wp2
        go_ret
        exact ⟨rfl, ((hkp.alloc _)).below (Nat.le_refl _) (fun _ _ h => h.elim)⟩
      by_cases t4 : 2 < l[k].2
      · go_wp2
        go_ret
        exact ⟨rfl, ((hkp.alloc _)).below (Nat.le_refl _) (fun _ _ h => h.elim)⟩
      have hgood := vmode_mk (m := l[k]) (by omega) (by omega) (by omega) (by omega)
      have HG := Lib.hid hgood
      clear hgood
      go_wp2_with (at_builtin; go_must (refine wpList_app (m := 1) sliceSpecMode rfl _ _ rfl rfl ((hr.alloc _).alloc _) rfl (Reads.twoAt (by simp)) (ints2_one _ _ _) (by unfold maxLen; omega) (by omega) ?_); intro v' w1 hr1 hg1 hn1)
      go_roundw
      case measure => simp [intOf]; omega
      case rel =>
        refine ⟨k + 1, by omega, by go_num, take_snoc_mem hlt HV.out HG.out, ?_, ?_, ?_⟩
        · rw [List.take_succ_eq_append_getElem hlt, List.flatMap_append]
          simpa [two] using hr1
        · exact ((hkp.alloc _).alloc _).trans hg1.keep (fun i hi h => by have := HL.out i h; omega)
        · intro g hg
          rcases hg1.lies hg with h | h
          · exact HL.out g h
          · have := hkp.size
            simp at h; omega
    · have hkl : k = l.length := by omega
      subst hkl
      rw [List.take_of_length_le (Nat.le_refl _)] at hv hr
      by_cases h1 : l.length < 1
      · go_wp2
        go_ret
        exact ⟨rfl, hkp.below (Nat.le_refl _) (fun _ _ h => h.elim)⟩
      by_cases h2 : 40 < l.length
      · go_wp2
        go_ret
        exact ⟨rfl, hkp.below (Nat.le_refl _) (fun _ _ h => h.elim)⟩
      obtain ⟨lN, hlN, hvN⟩ : ∃ lN : List (Nat × Nat), l = lN.map castM ∧ ∀ m ∈ lN, 1 ≤ m.1 ∧ m.1 ≤ 5 ∧ m.2 ≤ 2 := modes_nat hv
      subst hlN
      have hlen : (lN.map castM).length = lN.length := List.length_map _
      have HLEN := Lib.hid hlen
      have HL := Lib.hid hl
      have h3 : lN.length ≤ 40 := by omega
      have h4 : 1 ≤ lN.length := by omega
      clear h1 h2 hm hk hlt hbig
      have HVN := Lib.hid hvN
      rw [hlen] at hr hs
      have hs1 := hs.keep hkp (fun _ _ h => h)
      clear hlen hv hl hvN
      go_wp2_with fail
      refine (modes_spec relaxed _ lN _ hr.reads (by omega) HVN.out).mono ?_
      rintro e w1 ⟨v1, rfl, r1, k1⟩
      have hs2 := hs1.keep k1 (fun _ _ h => h)
      go_wp2_with fail
      refine (modes_impl relaxed _ lN _ (hs2.alloc _) (by omega) (fun m h => (HVN.out m h).2)).mono ?_
      rintro e w2 ⟨v2, rfl, r2, k2⟩
      have hlN := modesTo_length relaxed.toNat lN lN.length (Nat.le_refl _)
      rw [List.take_of_length_le (Nat.le_refl _)] at hlN
      have r1' := (r1.alloc (.cells #[.int .i64 (modesTo relaxed.toNat lN).2.1, .int .i64 (modesTo relaxed.toNat lN).2.2] 42)).keep k2 (fun _ _ h => h)
      obtain ⟨st, hst⟩ : ∃ st, st = modesTo relaxed.toNat lN := ⟨_, rfl⟩
      rw [← hst] at r1' r2 k2 hlN
      have HT := Lib.hid hlN
      simp only [← hst]
      have b1 := ((Blk.new w1 [.int .i64 (st.2.1 : Nat), .int .i64 (st.2.2 : Nat)] 42)).keep k2 (fun h => h)
      have d0 : w2.cell? ⟨w1.heap.size, 0, none⟩ = some (.int .i64 (st.2.1 : Int)) := by rw [b1.cell]; rfl
      have d1 : w2.cell? ⟨w1.heap.size, 1, none⟩ = some (.int .i64 (st.2.2 : Int)) := by rw [b1.cell]; rfl
      have z1 : w1.heap.size < w2.heap.size := b1.lt
      obtain ⟨g1, c1, rfl⟩ := r1'.at (by omega)
      obtain ⟨g2, c2, rfl⟩ := r2.at (by omega)
      have R1 := Lib.hid r1'
      have R2 := Lib.hid r2
      clear hst hlN r1 r1' r2
      have KB : Below w.heap.size w _ := (((hkp.trans k1 (fun _ _ h => h.elim)).alloc (.cells #[.int .i64 st.2.1, .int .i64 st.2.2] 42)).trans k2 (fun _ _ h => h.elim)).below (Nat.le_refl _) (fun _ _ h => h.elim)
      have HKB := Lib.hid KB
      clear KB
      go_wp2_with fail
      have R1' := Lib.hid (R1.out.alloc (.cells #[.int .i64 st.2.1, .int .i64 st.2.2] 41))
      have R2' := Lib.hid (R2.out.alloc (.cells #[.int .i64 st.2.1, .int .i64 st.2.2] 41))
      have HKB' := Lib.hid (HKB.out.trans (((Keep.refl Non w2).alloc (.cells #[.int .i64 st.2.1, .int .i64 st.2.2] 41)).below HKB.out.size (fun _ _ h => h.elim)))
      clear R1 R2 HKB
      generalize w2.alloc (.cells #[.int .i64 st.2.1, .int .i64 st.2.2] 41) = W2 at R1' R2' HKB' ⊢
      go_loopw [91] (fun i wr' => ∃ k m : Nat, k ≤ lN.length ∧ i = .int .i64 k ∧ wr' = W2.drewN m) (fun i _ => lN.length - (intOf i).toNat)
      case atStart => exact ⟨0, 0, by omega, rfl, rfl⟩
      case round =>
        obtain ⟨k, m, hk, rfl, rfl⟩ := hrel
        by_cases hlt : k < lN.length
        · obtain ⟨_, _, _, q1, C1⟩ := R1'.out.reads.at (by omega) (by omega)
          cases q1
          obtain ⟨_, _, _, q2, C2⟩ := R2'.out.reads.at (by omega) (by omega)
          cases q2
          have x1 := C1 k _ (Bs_at (by rw [HT.out]; omega))
          have x2 := C2 k _ (Bs_at (by rw [HT.out]; omega))
          rw [Nat.zero_add] at x1 x2
          clear C1 C2
          generalize st.1[k]'(by rw [HT.out]; omega) = bk at *
          cases bk
          all_goals
            go_wp2
            go_quiet (fail)
            go_wp2
            go_roundw
            case measure => simp [intOf]; omega
            case rel => exact ⟨k + 1, m + nq, by omega, by go_num, rfl⟩
        · go_wp2
          go_ret
          exact ⟨rfl, HKB'.out.trans (((Keep.refl Non W2).drewN m).below HKB'.out.size (fun _ _ h => h.elim))⟩
end Go.Proofs.Ytfcdedcffmpjjaa
