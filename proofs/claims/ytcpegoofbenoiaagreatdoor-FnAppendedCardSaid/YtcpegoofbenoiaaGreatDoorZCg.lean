/-
  CONTRACT: what a run says of itself, as a map.
-/
import Derived.Test.YtcpegoofbenoiaaGreatDoorZGCm
namespace Go.Proofs.YtcpegoofbenoiaaGreatDoor
open Go.RowKit
open Go.ChangeShapes Go.WideShapes Go.ChangeAt Go.Deep
open Plain (M64)

theorem argvs_snoc : ∀ (l : List ByteArray) (i : Nat) (a : ByteArray), argvs i (l ++ [a]) = argvs i l ++ [(kArgv ++ dig (i + l.length), a)]
  | [], i, a => by simp [argvs]
  | b :: l, i, a => by
    simp only [List.cons_append, argvs, argvs_snoc l (i + 1) a, List.length_cons]
    rw [show i + 1 + l.length = i + (l.length + 1) by omega]
theorem argv_size (i : Nat) : (kArgv ++ dig i).size = 5 := by rw [ByteArray.size_append]; rfl
theorem argv_inj {i j : Nat} (hi : i < 10) (hj : j < 10) (h : kArgv ++ dig i = kArgv ++ dig j) : i = j := by
  have h1 := congrArg (fun b : ByteArray => b.data.toList) h
  simp only [ByteArray.data_append, Array.toList_append, List.append_cancel_left_eq] at h1
  simp only [dig, List.cons.injEq, and_true] at h1
  have h2 := congrArg UInt8.toNat h1
  simp at h2
  omega
theorem argvs_keys : ∀ (l : List ByteArray) (i : Nat) (s : ByteArray), s ∈ keysL (argvs i l) → ∃ j, i ≤ j ∧ j < i + l.length ∧ s = kArgv ++ dig j
  | [], _, s, h => by simp [keysL, argvs] at h
  | b :: l, i, s, h => by
    simp only [keysL, argvs, List.map_cons, List.mem_cons] at h
    rcases h with rfl | h
    · exact ⟨i, Nat.le_refl _, by simp, rfl⟩
    · obtain ⟨j, h1, h2, h3⟩ := argvs_keys l (i + 1) s h
      exact ⟨j, by omega, by simp only [List.length_cons]; omega, h3⟩
theorem argv_new {l : List ByteArray} {i k : Nat} (h1 : i + l.length ≤ k) (h2 : k < 10) : kArgv ++ dig k ∉ keysL (argvs i l) := fun h => by
  obtain ⟨j, _, hj, e⟩ := argvs_keys l i _ h
  have := argv_inj h2 (by omega) e
  omega
/-- The pairs ahead of the arguments'. -/
def heads (os arch : ByteArray) : List (ByteArray × ByteArray) := (if os.size = 0 then [] else [(kOs, os)]) ++ (if arch.size = 0 then [] else [(kArch, arch)])
theorem heads_keys {os arch s : ByteArray} (h : s ∈ keysL (heads os arch)) : s = kOs ∨ s = kArch := by
  unfold heads keysL at h
  split at h <;> split at h <;> simp at h
  · exact .inr h
  · exact .inl h
  · exact h
theorem argc_new (os arch : ByteArray) : kArgc ∉ keysL (heads os arch) := fun h => by
  rcases heads_keys h with h | h
  · exact absurd h (by decide)
  · exact absurd (congrArg ByteArray.size h) (by decide)
theorem heads_argv (os arch : ByteArray) (i : Nat) : kArgv ++ dig i ∉ keysL (heads os arch) := fun h => by
  rcases heads_keys h with h | h
  · have := congrArg ByteArray.size h; rw [argv_size] at this; exact absurd this (by decide)
  · have := congrArg ByteArray.size h; rw [argv_size] at this; exact absurd this (by decide)
theorem size0 {s : ByteArray} : s.size = 0 ↔ s = ⟨#[]⟩ := by
  constructor
  · intro h
    exact str_of_list (by simpa using (Array.eq_empty_of_size_eq_zero (xs := s.data) h))
  · rintro rfl; rfl
theorem emp_true {s : ByteArray} (h : s.size = 0) : s.toList.isEmpty = true := by rw [size0.1 h, Go.ByteArray.toList_eq]; rfl
theorem emp_false {s : ByteArray} (h : ¬ s.size = 0) : s.toList.isEmpty = false := by
  rw [List.isEmpty_eq_false_iff, Go.ByteArray.toList_eq]
  exact fun e => h (by rw [show s.size = s.data.toList.length from rfl, e]; rfl)
theorem emp_of {s : ByteArray} (h : (!s.toList.isEmpty) = false) : s.size = 0 := Decidable.byContradiction fun e => by rw [emp_false e] at h; cases h
theorem emp_not {s : ByteArray} (h : (!s.toList.isEmpty) = true) : ¬ s.size = 0 := fun e => by rw [emp_true e] at h; cases h
/-- Within bounds. -/
structure Sg.ok (s : Sg) : Prop where
  nargs : s.args.length ≤ 6
  arg : ∀ a ∈ s.args, a.size ≤ 60
  os : s.os.size ≤ 60
  arch : s.arch.size ≤ 60
  nfun : s.funs.length ≤ 8
  fun1 : ∀ f ∈ s.funs, 1 ≤ f.cs.length ∧ f.cs.length ≤ 12
  fit : ∀ f ∈ s.funs, f.pkg < 4294967296 ∧ f.fn < 4294967296 ∧ ∀ v ∈ f.cs, v < 4294967296
theorem pairs_eq (s : Sg) : pairs s = heads s.os s.arch ++ (if s.args = [] then [] else (kArgc, dig s.args.length) :: argvs 0 s.args) := by simp [pairs, heads]
def ArgsPost (s : Sg) (w : World) (e : Ending) (w' : World) : Prop := ∃ mb, e = .returned (.map (some mb)) ∧ OwnsSM w' mb (pairs s) ∧ Keep Non w w' ∧ w.heap.size ≤ mb
set_option maxRecDepth 100000 in
set_option maxHeartbeats 4000000 in
theorem argsT (s : Sg) (av fv : Value) (w : World) (hs : s.ok) (ha : Reads w 1 av s.args.length (Ts s.args)) :
    Calls Tryz.prog 19 #[.agg #[av, .string s.os, .string s.arch, fv]] w (ArgsPost s w) := by
  obtain ⟨aa, ac, rfl⟩ := ha.slice
  obtain ⟨args, os, arch, funs⟩ := s
  have h1 : args.length ≤ 6 := hs.nargs
  have h2 : os.size ≤ maxLen := by have := hs.os; simp only at this; unfold maxLen; omega
  have h3 : arch.size ≤ maxLen := by have := hs.arch; simp only at this; unfold maxLen; omega
  have HS := Lib.hid hs
  have HA := Lib.hid ha
  clear hs ha
  simp only at *
  have hb0 : Blk ((w.alloc (.cells #[.slice aa args.length ac, .string os, .string arch, fv] 27)).alloc (.map #[] 0)) w.heap.size [.slice aa args.length ac, .string os, .string arch, fv] 27 := (Blk.new w [.slice aa args.length ac, .string os, .string arch, fv] _).alloc _
  have hm0 : OwnsSM ((w.alloc (.cells #[.slice aa args.length ac, .string os, .string arch, fv] 27)).alloc (.map #[] 0)) (w.heap.size + 1) [] := by
    have := OwnsSM.new (w.alloc (.cells #[.slice aa args.length ac, .string os, .string arch, fv] 27))
    simpa using this
  have hk0 : Keep Non w ((w.alloc (.cells #[.slice aa args.length ac, .string os, .string arch, fv] 27)).alloc (.map #[] 0)) := ((Keep.refl _ _).alloc _).alloc _
  have HB0 := Lib.hid hb0
  have HM0 := Lib.hid hm0
  have HK0 := Lib.hid hk0
  clear hb0 hm0 hk0
  have hle : w.heap.size ≤ w.heap.size + 1 := by omega
  have hz1 : (kOs : ByteArray).size ≤ maxLen := by decide
  have hz2 : (kArch : ByteArray).size ≤ maxLen := by decide
  have hz3 : (kArgc : ByteArray).size ≤ maxLen := by decide
  have hmm := @run_makeMap Tryz.prog
  go_enter Tryz.func19, Tryz.ntmps19
  go_upto_region 2 with (fail)
  generalize (w.alloc (.cells #[.slice aa args.length ac, .string os, .string arch, fv] 27)).alloc (.map #[] 0) = W0 at *
  have x1 : W0.cell? ⟨w.heap.size, 1, none⟩ = some (.string os) := by rw [HB0.out.cell]; rfl
  go_upto_if 9 with (fail)
  go_cut [] from 10 to 12 (fun wx => Blk wx w.heap.size [.slice aa args.length ac, .string os, .string arch, fv] 27 ∧ OwnsSM wx (w.heap.size + 1) (if os.size = 0 then [] else [(kOs, os)]) ∧ Keep Non w wx)
  case first =>
    go_wp2_with (first
      | (at_mapUpdate; go_must (refine wpSM_store _ rfl _ _ _ rfl rfl HM0.out rfl rfl hz1 h2 (by simp [keysL]) (by simp) ?_); intro w1 o1 k1))
    rotate_left
    · have hz : os.size = 0 := emp_of (by assumption)
      go_meet
      case rel => exact ⟨HB0.out, by rw [if_pos hz]; exact HM0.out, HK0.out⟩
    · have hz : ¬ os.size = 0 := emp_not (by assumption)
      go_meet
      case rel =>
        refine ⟨HB0.out.keep k1 (by simp [At]), ?_, HK0.out.trans k1 (fun i hi e => by have e : i = w.heap.size + 1 := e; omega)⟩
        rw [if_neg hz]
        exact o1
  case rest =>
    obtain ⟨hb, hm, hk⟩ := hcut
    have HB1 := Lib.hid hb
    have HM1 := Lib.hid hm
    have HK1 := Lib.hid hk
    clear hb hm hk x1 HB0 HM0 HK0
    have x2 : wc.cell? ⟨w.heap.size, 2, none⟩ = some (.string arch) := by rw [HB1.out.cell]; rfl
    go_upto_if 15 with (fail)
    go_cut [] from 16 to 18 (fun wx => Blk wx w.heap.size [.slice aa args.length ac, .string os, .string arch, fv] 27 ∧ OwnsSM wx (w.heap.size + 1) (heads os arch) ∧ Keep Non w wx)
    case first =>
      · have hnk : kArch ∉ keysL (if os.size = 0 then [] else [(kOs, os)]) := by
          split
          · simp [keysL]
          · simp only [keysL, List.map_cons, List.map_nil, List.mem_singleton]
            exact fun e => absurd (congrArg ByteArray.size e) (by decide)
        have hnl : (if os.size = 0 then [] else [(kOs, os)]).length ≤ 1000 := by split <;> simp
        have HNK := Lib.hid hnk
        have HNL := Lib.hid hnl
        clear hnk hnl
        go_wp2_with (first
          | (at_mapUpdate; go_must (refine wpSM_store _ rfl _ _ _ rfl rfl HM1.out rfl rfl hz2 h3 HNK.out HNL.out ?_); intro w1 o1 k1))
        rotate_left
        · have hz : arch.size = 0 := emp_of (by assumption)
          go_meet
          case rel => exact ⟨HB1.out, by rw [heads, if_pos hz, List.append_nil]; exact HM1.out, HK1.out⟩
        have hz : ¬ arch.size = 0 := emp_not (by assumption)
        go_meet
        case rel =>
          refine ⟨HB1.out.keep k1 (by simp [At]), ?_, HK1.out.trans k1 (fun i hi e => by have e : i = w.heap.size + 1 := e; omega)⟩
          rw [heads, if_neg hz]
          exact o1
    case rest =>
      obtain ⟨hb, hm, hk⟩ := hcut
      have HB2 := Lib.hid hb
      have HM2 := Lib.hid hm
      have HK2 := Lib.hid hk
      clear hb hm hk x2 HB1 HM1 HK1
      have x0 : wc.cell? ⟨w.heap.size, 0, none⟩ = some (.slice aa args.length ac) := by rw [HB2.out.cell]; rfl
      go_upto_if 22 with (fail)
      have HARGC := Lib.hid (argc_new os arch)
      have HHL : Hid ((heads os arch).length ≤ 2) := Lib.hid (by unfold heads; split <;> split <;> simp)
      by_cases hn : (0 : Int) < (args.length : Int)
      rotate_left
      · have hnil : args = [] := List.eq_nil_of_length_eq_zero (by omega)
        go_wp2_with fail
        go_ret
        refine ⟨_, rfl, ?_, HK2.out, hle⟩
        rw [pairs_eq]
        subst hnil
        simpa using HM2.out
      · have hne : args ≠ [] := fun e => by rw [e] at hn; simp at hn
        have hd60 : (dig args.length).size ≤ maxLen := (by decide : 1 ≤ maxLen)
        go_wp2_with (first
          | (go_at_call 38; refine (Tryz.strconv_Itoa_small args.length (by omega) _).mono ?_; rintro e w1 ⟨rfl, rfl⟩; rw [dig_eq (by omega)])
          | (at_mapUpdate; go_must (refine wpSM_store (s := kArgc) _ rfl _ _ _ rfl rfl HM2.out rfl rfl hz3 hd60 HARGC.out (by have := HHL.out; omega) ?_); intro w1 o1 k1; have HM3 := Lib.hid o1; have HB3 := Lib.hid (HB2.out.keep k1 (by simp [At])); have HK3 := Lib.hid (HK2.out.trans k1 (fun i hi e => by have e : i = w.heap.size + 1 := e; omega)); have x0 := k1.cell x0 (by simp [At]); clear o1 k1))
        go_loopw [31] (fun i wr => ∃ k : Nat, k ≤ args.length ∧ i = .int .i64 k ∧ OwnsSM wr (w.heap.size + 1) (heads os arch ++ [(kArgc, dig args.length)] ++ argvs 0 (args.take k)) ∧ Keep Non w wr) (fun i _ => args.length - (intOf i).toNat)
        case atStart => exact ⟨0, by omega, rfl, by simpa [argvs] using HM3.out, HK3.out⟩
        case round =>
          obtain ⟨k, hk, rfl, hm, hkp⟩ := hrel
          by_cases hlt : k < args.length
          · obtain ⟨b3, o3, c3, hv3, hc3⟩ := (HA.out.keep hkp (fun _ _ h => h)).at (by omega) (by decide)
            cases hv3
            have d0 := hc3 k _ (Ts_at hlt)
            have hal : args[k].size ≤ maxLen := by have := HS.out.arg _ (List.getElem_mem hlt); unfold maxLen; omega
            have hav : (kArgv ++ dig k).size ≤ maxLen := by rw [argv_size]; decide
            have hnew : kArgv ++ dig k ∉ keysL (heads os arch ++ [(kArgc, dig args.length)] ++ argvs 0 (args.take k)) := by
              simp only [keysL, List.map_append, List.mem_append, List.map_cons, List.map_nil, List.mem_singleton]
              rintro ((h | h) | h)
              · exact heads_argv _ _ _ h
              · have := congrArg ByteArray.size h; rw [argv_size] at this; exact absurd this (by decide)
              · exact argv_new (by simp; omega) (by omega) h
            have hlen : (heads os arch ++ [(kArgc, dig args.length)] ++ argvs 0 (args.take k)).length ≤ 1000 := by
              have := HHL.out
              simp only [List.length_append, argvs_len, List.length_take, List.length_cons, List.length_nil]; omega
            have HNEW := Lib.hid hnew
            have HLEN := Lib.hid hlen
            have HM := Lib.hid hm
            have HKP := Lib.hid hkp
            clear hc3 hnew hlen hm hkp
            go_wp2_with (first
              | (go_at_call 38; refine (Tryz.strconv_Itoa_small k (by omega) _).mono ?_; rintro e w1 ⟨rfl, rfl⟩; rw [dig_eq (by omega)])
              | (at_mapUpdate; go_must (refine wpSM_store (s := kArgv ++ dig k) _ rfl _ _ _ rfl rfl HM.out rfl rfl hav hal HNEW.out HLEN.out ?_); intro w1 o1 k1))
            go_roundw
            case measure => simp [intOf]; omega
            case rel =>
              refine ⟨k + 1, by omega, by go_num, ?_, HKP.out.trans k1 (fun i hi e => by have e : i = w.heap.size + 1 := e; omega)⟩
              rw [List.take_add_one, List.getElem?_eq_getElem hlt]
              simp only [Option.toList_some]
              rw [argvs_snoc, ← List.append_assoc, List.length_take, Nat.min_eq_left hk, Nat.zero_add]
              exact o1
          · obtain rfl : k = args.length := by omega
            have HM := Lib.hid hm
            have HKP := Lib.hid hkp
            clear hm hkp
            go_wp2_with fail
            go_ret
            refine ⟨_, rfl, ?_, HKP.out, hle⟩
            have := HM.out
            rw [List.take_length] at this
            rw [pairs_eq]
            simp only
            rw [if_neg hne]
            simpa using this
end Go.Proofs.YtcpegoofbenoiaaGreatDoor
