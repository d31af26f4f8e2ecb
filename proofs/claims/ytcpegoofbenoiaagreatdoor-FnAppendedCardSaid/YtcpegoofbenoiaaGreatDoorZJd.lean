/-
  CONTRACT of spec.Segments: what it says yes to.
-/
import Derived.Test.YtcpegoofbenoiaaGreatDoorZJc
import Derived.Test.YtcpegoofbenoiaaGreatDoorZRp1
namespace Go.Proofs.YtcpegoofbenoiaaGreatDoor
open Go.RowKit
open Go.ChangeShapes Go.WideShapes Go.ChangeAt Go.Deep
open Plain (M64)

set_option maxRecDepth 100000 in
set_option maxHeartbeats 1000000 in
theorem plain60 (s : ByteArray) (w : World) (hs : s.size ≤ maxLen) : Calls Tryz.prog 15 #[.string s, .bool false] w (OkPost w (s.size ≤ 60)) := by
  unfold maxLen at hs
  go_enter Tryz.func15, Tryz.ntmps15
  go_wp2
  go_loop [8] (fun i => ∃ k : Nat, k ≤ s.size ∧ i = .int .i64 k) (fun i => s.size - (intOf i).toNat)
  case atStart => exact ⟨0, by omega, rfl⟩
  case round =>
    obtain ⟨k, hk, rfl⟩ := hrel
    by_cases hlt : k < s.size
    · go_wp2
      all_goals
        first
        | (go_round
           case measure => simp [intOf]; omega
           case rel => exact ⟨k + 1, by omega, by go_num⟩)
        | (go_ret
           exact ⟨false, rfl, rfl, fun h => by cases h⟩)
    · have hkl : k = s.size := by omega
      subst hkl
      by_cases h60 : s.size ≤ 60
      · go_wp2
        all_goals
          go_ret
          exact ⟨true, rfl, rfl, fun _ => by first | exact h60 | trivial⟩
      · go_wp2
        go_ret
        exact ⟨false, rfl, rfl, fun h => by cases h⟩
/-- Of two segments, one behind the other. -/
def Aft (s t : Sg) : Prop := (s.args ≠ [] → t.args ≠ []) ∧ (s.os.size ≠ 0 → t.os.size ≠ 0) ∧ (s.arch.size ≠ 0 → t.arch.size ≠ 0)
/-- What the reference's test says yes to. -/
structure GoodS (l : List Sg) : Prop where
  ok : ∀ s ∈ l, s.ok
  mono : Mono l
  last : LastOnly l
  n1 : 1 ≤ l.length
  n4 : l.length ≤ 4
theorem mono_of : ∀ (l : List Sg), (∀ i (h : i + 1 < l.length), Aft (l[i]'(by omega)) l[i + 1]) → Mono l
  | [], _ => trivial
  | [_], _ => trivial
  | s :: t :: l, h => ⟨h 0 (by simp), mono_of (t :: l) (fun i hi => h (i + 1) (by simpa using hi))⟩
theorem last_of : ∀ (l : List Sg), (∀ i (h : i + 1 < l.length), (l[i]'(by omega)).funs = []) → LastOnly l
  | [], _ => trivial
  | [_], _ => trivial
  | s :: t :: l, h => ⟨h 0 (by simp), last_of (t :: l) (fun i hi => h (i + 1) (by simpa using hi))⟩
/-- What is known of the first k. -/
structure SoFar (l : List Sg) (k : Nat) : Prop where
  ok : ∀ s ∈ l.take k, s.ok
  aft : ∀ i (h : i + 1 < l.length), i + 1 < k → Aft (l[i]'(by omega)) l[i + 1]
  last : ∀ i (h : i + 1 < l.length), i < k → (l[i]'(by omega)).funs = []
theorem SoFar.good {l : List Sg} (h : SoFar l l.length) (h1 : 1 ≤ l.length) (h4 : l.length ≤ 4) : GoodS l :=
  ⟨fun s hs => h.ok s (by rwa [List.take_of_length_le (Nat.le_refl _)]), mono_of l (fun i hi => h.aft i hi hi), last_of l (fun i hi => h.last i hi (by omega)), h1, h4⟩
theorem SoFar.next {l : List Sg} {k : Nat} (h : SoFar l k) (hk : k < l.length) (ho : l[k].ok) (ha : ∀ j, k = j + 1 → ∀ hj : j < l.length, Aft l[j] l[k]) (hl : k + 1 < l.length → l[k].funs = []) : SoFar l (k + 1) := by
  refine ⟨take_snoc_mem hk h.ok ho, fun i hi hik => ?_, fun i hi hik => ?_⟩
  · by_cases e : i + 1 < k
    · exact h.aft i hi e
    · obtain rfl : i + 1 = k := by omega
      exact ha i rfl (by omega)
  · by_cases e : i < k
    · exact h.last i hi e
    · obtain rfl : i = k := by omega
      exact hl hi
theorem len0 {α : Type} {l : List α} : l ≠ [] ↔ 0 < l.length := by rw [List.length_pos_iff]
theorem tri (l m : List ByteArray) : l = [] ∨ (0 < l.length ∧ m = []) ∨ (0 < l.length ∧ ¬ m = []) := by
  by_cases h : l = []
  · exact .inl h
  · by_cases h' : m = []
    · exact .inr (.inl ⟨List.length_pos_iff.2 h, h'⟩)
    · exact .inr (.inr ⟨List.length_pos_iff.2 h, h'⟩)
theorem tri8 (a b : ByteArray) : (a.size = 0 ∧ a.toList.isEmpty = true) ∨ (a.toList.isEmpty = false ∧ b.toList.isEmpty = true) ∨ (a.toList.isEmpty = false ∧ b.toList.isEmpty = false ∧ b.size ≠ 0) := by
  by_cases ha : a.size = 0
  · exact .inl ⟨ha, emp_true ha⟩
  · by_cases hb : b.size = 0
    · exact .inr (.inl ⟨emp_false ha, emp_true hb⟩)
    · exact .inr (.inr ⟨emp_false ha, emp_false hb, hb⟩)
set_option maxRecDepth 100000 in
set_option maxHeartbeats 16000000 in
theorem segsOk (v : Value) (L : List SgV) (w : World) (h : SegR w v L) (hw : ∀ x ∈ L, x.sg.wide) (hl : L.length ≤ maxLen) : Calls Tryz.prog 8 #[v] w (OkP w (GoodS (L.map SgV.sg))) := by
  obtain ⟨fa, fc, rfl⟩ := h.reads.slice
  have hl' : L.length ≤ 9223372036854775807 := by unfold maxLen at hl; omega
  have HH := Lib.hid h
  have HW := Lib.hid hw
  have hw2 : 0 < L.length → IntKind.i64.wrap ((L.length : Int) - 1) = (L.length : Int) - 1 := fun h0 => by rw [IntKind.wrap_i64]; omega
  have HW2 := Lib.hid hw2
  clear h hw hl hw2
  go_enter Tryz.func8, Tryz.ntmps8
  go_wp2
  go_loopw [11] (fun i wr => ∃ k : Nat, k ≤ L.length ∧ i = .int .i64 k ∧ Keep Non w wr ∧ SoFar (L.map SgV.sg) k) (fun i _ => L.length - (intOf i).toNat)
  case atStart => exact ⟨0, by omega, rfl, Keep.refl _ _, by simp, fun _ _ h => by omega, fun _ _ h => by omega⟩
  case round =>
    obtain ⟨k, hk, rfl, hkp, hv⟩ := hrel
    obtain ⟨W0, rfl⟩ : ∃ W0, W0 = wr := ⟨_, rfl⟩
    by_cases hlt : k < L.length
    · have hR := (HH.out.far hkp)
      obtain ⟨ba, off, ca', hva, hca⟩ := hR.reads.at (by omega) (by omega)
      cases hva
      obtain ⟨q0, q1, q2, q3⟩ := seg_at hca hlt
      have hlm : k < (L.map SgV.sg).length := by simpa using hlt
      have HV : Hid (L[k].sg.ok → (∀ j, k = j + 1 → ∀ hj : j < L.length, Aft L[j].sg L[k].sg) → (k + 1 < L.length → L[k].sg.funs = []) → SoFar (L.map SgV.sg) (k + 1)) := Lib.hid (fun h1 h2 h3 => hv.next hlm (by simpa using h1) (fun j hj hjl => by have := h2 j hj (by simpa using hjl); simpa using this) (fun h => by have := h3 (by simpa using h); simpa using this))
      have HA := Lib.hid (hR.args _ (List.getElem_mem hlt))
      have HF := Lib.hid (hR.funs _ (List.getElem_mem hlt))
      have HWD := Lib.hid (HW.out _ (List.getElem_mem hlt))
      have HKP := Lib.hid hkp
      have HP : Hid (∀ j, k = j + 1 → ∀ hj : j < L.length, ∃ ya yc, W0.cell? ⟨ba, off + j * 4, none⟩ = some (.slice ya L[j].args.length yc) ∧ W0.cell? ⟨ba, off + j * 4 + 1, none⟩ = some (.string L[j].os) ∧ W0.cell? ⟨ba, off + j * 4 + 2, none⟩ = some (.string L[j].arch)) := Lib.hid (fun j _ hj => by
        obtain ⟨p0, p1, p2, _⟩ := seg_at hca hj
        obtain ⟨ya, yc, e⟩ := (hR.args _ (List.getElem_mem hj)).slice
        exact ⟨ya, yc, by rw [← e]; exact p0, p1, p2⟩)
      clear hca hR hkp hv hlm
      generalize L[k] = x at *
      obtain ⟨args, os, arch, funs, av, fv⟩ := x
      dsimp only at *
      obtain ⟨aa, ac, rfl⟩ := HA.out.slice
      obtain ⟨ua, uc, rfl⟩ := HF.out.reads.slice
      have hal : args.length ≤ 9223372036854775807 := by have := HWD.out.wn; simp only [SgV.sg] at this; unfold maxLen at this; omega
      have hfl : funs.length ≤ 9223372036854775807 := by have := HWD.out.wm; simp only [SgV.sg, List.length_map] at this; unfold maxLen at this; omega
      go_upto_region 4 with (fail)
      obtain ⟨W1, hW1⟩ : ∃ W, W = W0.alloc (.cells #[.slice aa args.length ac, .string os, .string arch, .slice ua funs.length uc] 47) := ⟨_, rfl⟩
      have hk1 : Keep Non W0 W1 := by rw [hW1]; exact (Keep.refl _ _).alloc _
      have hb1 : Blk W1 W0.heap.size [.slice aa args.length ac, .string os, .string arch, .slice ua funs.length uc] 47 := by rw [hW1]; exact Blk.new W0 [.slice aa args.length ac, .string os, .string arch, .slice ua funs.length uc] _
      rw [← hW1]
      clear hW1 q0 q1 q2 q3
      generalize Value.agg #[.slice aa args.length ac, .string os, .string arch, .slice ua funs.length uc] = u15
      obtain ⟨gx, hgx⟩ : ∃ g, g = W0.heap.size := ⟨_, rfl⟩
      rw [← hgx] at hb1 ⊢
      clear hgx
      have HA1 := Lib.hid (HA.out.keep hk1 (fun _ _ h => h))
      have HF1 := Lib.hid (HF.out.far hk1)
      have HK1 := Lib.hid hk1
      have x0 : W1.cell? ⟨gx, 0, none⟩ = some (.slice aa args.length ac) := by rw [hb1.cell]; rfl
      have x1 : W1.cell? ⟨gx, 1, none⟩ = some (.string os) := by rw [hb1.cell]; rfl
      have x2 : W1.cell? ⟨gx, 2, none⟩ = some (.string arch) := by rw [hb1.cell]; rfl
      have x3 : W1.cell? ⟨gx, 3, none⟩ = some (.slice ua funs.length uc) := by rw [hb1.cell]; rfl
      clear hk1 hb1 HA HF
      go_cut [61] from 16 to 61 (fun v wx => ∃ b, v = .bool b ∧ wx = W1 ∧ (b = false → ∀ j, k = j + 1 → ∀ hj : j < L.length, Aft L[j].sg ⟨args, os, arch, funs.map (·.1)⟩))
      case first =>
        by_cases hk0 : k = 0
        · subst hk0
          go_wp2_with fail
          go_meet
          case rel => exact ⟨false, rfl, rfl, fun _ j hj => by omega⟩
        · obtain ⟨j, hj⟩ : ∃ j, k = j + 1 := ⟨k - 1, by omega⟩
          have hjl : j < L.length := by omega
          obtain ⟨ya, yc, p0, p1, p2⟩ := HP.out j hj hjl
          have p0 := HK1.out.cell p0 (fun h => h)
          have p1 := HK1.out.cell p1 (fun h => h)
          have p2 := HK1.out.cell p2 (fun h => h)
          have hsub : IntKind.i64.wrap ((k : Int) - 1) = ((j : Nat) : Int) := by rw [IntKind.wrap_i64]; omega
          have hj0 : (0 : Int) ≤ ((j : Nat) : Int) := by omega
          have hj1 : ((j : Nat) : Int) < (L.length : Int) := by omega
          have HAFT : Hid ((L[j].args ≠ [] → args ≠ []) → (L[j].os.size ≠ 0 → os.size ≠ 0) → (L[j].arch.size ≠ 0 → arch.size ≠ 0) → ∀ j, k = j + 1 → ∀ hj : j < L.length, Aft L[j].sg ⟨args, os, arch, funs.map (·.1)⟩) := Lib.hid (fun h1 h2 h3 j' hj' hjl' => by
            obtain rfl : j' = j := by omega
            exact ⟨h1, h2, h3⟩)
          have hkpos : 0 < k := by omega
          clear hj hk0
          generalize L[j] = y at *
          obtain ⟨yargs, yos, yarch, yfuns, yav, yfv⟩ := y
          dsimp only at *
          rcases tri yargs args with rfl | ⟨hA, rfl⟩ | ⟨hA, hB⟩
          rotate_left
          · go_wp2_with fail
            all_goals
              go_meet
              case rel => exact ⟨_, rfl, rfl, fun hb => by first | cases hb | (exfalso; simp_all; done)⟩
          all_goals
            rcases tri8 yos os with ⟨hC, hC'⟩ | ⟨hC, hD⟩ | ⟨hC, hD, hD'⟩
            rotate_left
            · go_wp2_with fail
              all_goals
                go_meet
                case rel => exact ⟨_, rfl, rfl, fun hb => by first | cases hb | (exfalso; simp_all; done)⟩
            all_goals
              rcases tri8 yarch arch with ⟨hE, hE'⟩ | ⟨hE, hF⟩ | ⟨hE, hF, hF'⟩
              rotate_left
              · go_wp2_with fail
                all_goals
                  go_meet
                  case rel => exact ⟨_, rfl, rfl, fun hb => by first | cases hb | (exfalso; simp_all; done)⟩
              all_goals
                go_wp2_with fail
                all_goals
                  go_meet
                  case rel => exact ⟨_, rfl, rfl, fun _ => HAFT.out (fun h0 => by first | assumption | exact absurd rfl h0) (fun _ => by first | assumption | contradiction) (fun _ => by first | assumption | contradiction)⟩
      case rest =>
        obtain ⟨b, rfl, hwc, hb⟩ := hcut
        obtain rfl := hwc.symm
        have HB := Lib.hid hb
        clear hb
        cases b with
        | true =>
          go_wp2
          go_ret
          exact ⟨false, rfl, HKP.out.trans' HK1.out, fun h => by cases h⟩
        | false =>
          have HAFT := Lib.hid (HB.out rfl)
          clear HB HP
          have hos : os.size ≤ maxLen := HWD.out.wo
          have har : arch.size ≤ maxLen := HWD.out.wr
          have HAS : Hid (∀ s ∈ args, s.size ≤ maxLen) := Lib.hid HWD.out.wa
          have HFS : Hid (∀ y ∈ funs, y.1.wide) := Lib.hid (fun y hy => HWD.out.wf _ (List.mem_map_of_mem hy))
          have hw2 : IntKind.i64.wrap ((L.length : Int) - 1) = (L.length : Int) - 1 := HW2.out (by omega)
          go_upto_region 6 with (fail)
          go_cut [96] from 62 to 96 (fun v wx => ∃ b, v = .bool b ∧ wx = W1 ∧ (b = false → funs.length ≤ 8 ∧ (k + 1 < L.length → funs = []) ∧ args.length ≤ 6 ∧ os.size ≤ 60 ∧ arch.size ≤ 60))
          case first =>
            by_cases h8 : funs.length ≤ 8
            rotate_left
            · go_wp2_with fail
              all_goals
                go_meet
                case rel => exact ⟨_, rfl, rfl, fun hb => by first | cases hb | (exfalso; simp_all; done)⟩
            have hcase : funs = [] ∨ (0 < funs.length ∧ (k : Int) < (L.length : Int) - 1) ∨ (0 < funs.length ∧ ¬ (k : Int) < (L.length : Int) - 1) := by
              by_cases h0 : funs = []
              · exact .inl h0
              · have := List.length_pos_iff.2 h0
                by_cases h1 : (k : Int) < (L.length : Int) - 1
                · exact .inr (.inl ⟨this, h1⟩)
                · exact .inr (.inr ⟨this, h1⟩)
            rcases hcase with rfl | ⟨hp, hq⟩ | ⟨hp, hq⟩
            rotate_left
            · go_wp2_with fail
              all_goals
                go_meet
                case rel => exact ⟨_, rfl, rfl, fun hb => by first | cases hb | (exfalso; simp_all; done) | (exfalso; omega)⟩
            all_goals
              by_cases h6 : args.length ≤ 6
              rotate_left
              · go_wp2_with fail
                all_goals
                  go_meet
                  case rel => exact ⟨_, rfl, rfl, fun hb => by first | cases hb | (exfalso; simp_all; done) | (exfalso; omega)⟩
              go_wp2_with fail
              refine (plain60 os _ hos).mono ?_
              rintro e w2 ⟨ok1, rfl, h2, hok1⟩
              obtain rfl := h2.symm
              cases ok1 with
              | false =>
                clear hok1
                go_wp2_with fail
                go_meet
                case rel => exact ⟨_, rfl, rfl, fun hb => by cases hb⟩
              | true =>
                have HO1 := Lib.hid (hok1 rfl)
                clear hok1
                go_wp2_with fail
                refine (plain60 arch _ har).mono ?_
                rintro e w3 ⟨ok2, rfl, h3, hok2⟩
                obtain rfl := h3.symm
                cases ok2 with
                | false =>
                  clear hok2
                  go_wp2_with fail
                  go_meet
                  case rel => exact ⟨_, rfl, rfl, fun hb => by cases hb⟩
                | true =>
                  have HO2 := Lib.hid (hok2 rfl)
                  clear hok2
                  go_wp2_with fail
                  go_meet
                  case rel => exact ⟨_, rfl, rfl, fun _ => ⟨h8, fun h => by first | rfl | trivial | (exfalso; omega), h6, HO1.out, HO2.out⟩⟩
          case rest =>
            obtain ⟨b, rfl, hwc, hb⟩ := hcut
            obtain rfl := hwc.symm
            have HB := Lib.hid hb
            clear hb
            cases b with
            | true =>
              go_wp2
              go_ret
              exact ⟨false, rfl, HKP.out.trans' HK1.out, fun h => by cases h⟩
            | false =>
              obtain ⟨h8, hfk, h6, ho6, hr6⟩ := HB.out rfl
              have HFK := Lib.hid hfk
              clear HB hfk
              go_wp2_with fail
              go_loopw [100] (fun i wr => ∃ m : Nat, m ≤ args.length ∧ i = .int .i64 m ∧ Keep Non W1 wr ∧ ∀ s ∈ args.take m, s.size ≤ 60) (fun i _ => args.length - (intOf i).toNat)
              case atStart => exact ⟨0, by omega, rfl, Keep.refl _ _, by simp⟩
              case round =>
                obtain ⟨m, hm, rfl, hkm, hvm⟩ := hrel
                by_cases hml : m < args.length
                · obtain ⟨b3, o3, c3, hv3, hc3⟩ := (HA1.out.keep hkm (fun _ _ h => h)).at (by omega) (by omega)
                  cases hv3
                  have d0 := hc3 m _ (Ts_at hml)
                  have HVM : Hid (args[m].size ≤ 60 → ∀ s ∈ args.take (m + 1), s.size ≤ 60) := Lib.hid (fun h => take_snoc_mem hml hvm h)
                  have hsz := HAS.out _ (List.getElem_mem hml)
                  have HKM := Lib.hid hkm
                  clear hc3 hvm hkm
                  generalize args[m] = s at *
                  go_wp2_with fail
                  refine (plain60 s _ hsz).mono ?_
                  rintro e w2 ⟨ok1, rfl, h2, hok1⟩
                  obtain rfl := h2.symm
                  cases ok1 with
                  | false =>
                    clear hok1
                    go_wp2
                    go_ret
                    exact ⟨false, rfl, (HKP.out.trans' HK1.out).trans' HKM.out, fun h => by cases h⟩
                  | true =>
                    have HO1 := Lib.hid (hok1 rfl)
                    clear hok1
                    go_wp2
                    go_roundw
                    case measure => simp [intOf]; omega
                    case rel => exact ⟨m + 1, by omega, by go_num, HKM.out, HVM.out HO1.out⟩
                · have hml2 : m = args.length := by omega
                  subst hml2
                  rw [List.take_of_length_le (Nat.le_refl _)] at hvm
                  have HVA := Lib.hid hvm
                  have HKM := Lib.hid hkm
                  have x3' := hkm.cell x3 (fun h => h)
                  obtain ⟨wm, hwm⟩ : ∃ W, W = wr := ⟨_, rfl⟩
                  rw [← hwm] at HKM x3' ⊢
                  clear hvm hkm hwm
                  go_wp2_with fail
                  go_loopw [111] (fun i wr => ∃ m : Nat, m ≤ funs.length ∧ i = .int .i64 m ∧ Keep Non wm wr ∧ ∀ y ∈ funs.take m, 1 ≤ y.1.cs.length ∧ y.1.cs.length ≤ 12) (fun i _ => funs.length - (intOf i).toNat)
                  case atStart => exact ⟨0, by omega, rfl, Keep.refl _ _, by simp⟩
                  case round =>
                    obtain ⟨m, hm, rfl, hkm, hvm⟩ := hrel
                    by_cases hml : m < funs.length
                    · have hR := (HF1.out.far (HKM.out.trans' hkm))
                      obtain ⟨b3, o3, c3, hv3, hc3⟩ := hR.reads.at (by omega) (by omega)
                      cases hv3
                      obtain ⟨q0, q1, q2⟩ := three_at hc3 hml
                      have hU := hR.cs _ (List.getElem_mem hml)
                      have hcl := (HFS.out _ (List.getElem_mem hml)).wn
                      have HVM : Hid ((1 ≤ funs[m].1.cs.length ∧ funs[m].1.cs.length ≤ 12) → ∀ y ∈ funs.take (m + 1), 1 ≤ y.1.cs.length ∧ y.1.cs.length ≤ 12) := Lib.hid (fun h => take_snoc_mem hml hvm h)
                      have HKM2 := Lib.hid hkm
                      obtain ⟨ga, gc, hgc⟩ := hU.slice
                      rw [hgc] at q2
                      unfold maxLen at hcl
                      clear hc3 hR hU hvm hkm hgc
                      generalize funs[m] = y at *
                      obtain ⟨f, uv⟩ := y
                      dsimp only at *
                      by_cases hc1 : 1 ≤ f.cs.length
                      · by_cases hc2 : f.cs.length ≤ 12
                        · go_wp2
                          go_roundw
                          case measure => simp [intOf]; omega
                          case rel => exact ⟨m + 1, by omega, by go_num, HKM2.out.alloc _, HVM.out ⟨hc1, hc2⟩⟩
                        · go_wp2
                          go_ret
                          exact ⟨false, rfl, ((HKP.out.trans' HK1.out).trans' HKM.out).trans' (HKM2.out.alloc _), fun h => by cases h⟩
                      · go_wp2
                        go_ret
                        exact ⟨false, rfl, ((HKP.out.trans' HK1.out).trans' HKM.out).trans' (HKM2.out.alloc _), fun h => by cases h⟩
                    · have hml2 : m = funs.length := by omega
                      subst hml2
                      rw [List.take_of_length_le (Nat.le_refl _)] at hvm
                      have hok : Sg.ok ⟨args, os, arch, funs.map (·.1)⟩ := by
                        refine ⟨h6, HVA.out, ho6, hr6, by simpa using h8, fun f hf => ?_, fun f hf => ?_⟩
                        · obtain ⟨y, hy, rfl⟩ := List.mem_map.1 hf
                          exact hvm y hy
                        · obtain ⟨y, hy, rfl⟩ := List.mem_map.1 hf
                          have := HFS.out y hy
                          exact ⟨this.wp, this.wf, this.wv⟩
                      have HN := Lib.hid (HV.out hok HAFT.out (fun h => by have := HFK.out h; simp [SgV.sg, this]))
                      have HKM2 := Lib.hid hkm
                      clear hvm hkm hok
                      go_wp2_with fail
                      go_roundw
                      case measure => simp [intOf]; omega
                      case rel => exact ⟨k + 1, by omega, by go_num, ((HKP.out.trans' HK1.out).trans' HKM.out).trans' HKM2.out, HN.out⟩
    · have hkl : k = L.length := by omega
      subst hkl
      have hlm : L.length = (L.map SgV.sg).length := by simp
      rw [hlm] at hv
      have HV := Lib.hid hv
      have HKP := Lib.hid hkp
      clear hv hkp hlm
      by_cases h1 : 1 ≤ L.length
      · go_wp2
        go_ret
        exact ⟨decide ((L.length : Int) ≤ 4), rfl, HKP.out, fun h => HV.out.good (by simpa using h1) (by have := of_decide_eq_true h; simp; omega)⟩
      · go_wp2
        go_ret
        exact ⟨false, rfl, HKP.out, fun h => by cases h⟩
end Go.Proofs.YtcpegoofbenoiaaGreatDoor
