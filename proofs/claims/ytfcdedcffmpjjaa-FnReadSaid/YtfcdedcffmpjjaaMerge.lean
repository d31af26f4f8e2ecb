/-
  CONTRACTS for counters that are merged.
-/
import Derived.Test.YtfcdedcffmpjjaaModes2
import Derived.Test.YtfcdedcffmpjjaaOpen
import Derived.Deep.QuietTactic
import Derived.BigQuiet
namespace Go.Proofs.Ytfcdedcffmpjjaa
open Go.RowKit

theorem sliceU32 : SliceT Try.prog 58 24 (.int .u32 0) 1 4 := ⟨Try.underlying58, by kernel_rfl, rfl, by decide⟩

/-- errors.New hands back an error, in new memory. -/
theorem errorsNew (s : ByteArray) (w : World) :
    Calls Try.prog 63 #[.string s] w fun e w' => ∃ t a, e = .returned (.iface t (.pointer (some a))) ∧ Keep Non w w' := by
  go_enter Try.func63, Try.ntmps63
  go_wp2
  go_ret
  exact ⟨_, _, rfl, (Keep.refl _ _).alloc _⟩

/-! ### SameNums -/
set_option maxRecDepth 100000 in
set_option maxHeartbeats 1000000 in
theorem sameNums (a b : Value) (za zb : List Nat) (w : World) (ha : Reads w 1 a za.length (U32 za)) (hb : Reads w 1 b zb.length (U32 zb)) (hla : za.length ≤ 1000) (hlb : zb.length ≤ 1000)  :
    Calls Try.prog 31 #[a, b] w fun e w' => e = .returned (.bool (decide (za = zb))) ∧ ∃ n, w' = w.drewN n := by
  obtain ⟨aa, ca, rfl⟩ := ha.slice
  obtain ⟨ab, cb, rfl⟩ := hb.slice
  by_cases hl : za.length = zb.length
  · by_cases h0 : za.length = 0
    · have e1 : za = [] := List.eq_nil_of_length_eq_zero h0
      have e2 : zb = [] := List.eq_nil_of_length_eq_zero (by omega)
      subst e1; subst e2
      go_enter Try.func31, Try.ntmps31
      go_wp2
      refine wp_loop_rounds 1 ?_
      rw [rounds_succ]
      go_wp2
      go_ret
      exact ⟨rfl, 0, rfl⟩
    · obtain ⟨ba, offa, ca', hva, hca⟩ := ha.at (by omega) (by omega)
      obtain ⟨bb, offb, cb', hvb, hcb⟩ := hb.at (by omega) (by omega)
      cases hva
      cases hvb
      go_enter Try.func31, Try.ntmps31
      go_wp2
      go_loopw [13] (fun i wr => ∃ k m : Nat, k ≤ za.length ∧ i = .int .i64 k ∧ za.take k = zb.take k ∧ wr = w.drewN m) (fun i _ => za.length - (intOf i).toNat)
      case atStart => exact ⟨0, 0, by omega, rfl, rfl, rfl⟩
      case round =>
        obtain ⟨k, m, hk, rfl, ht, rfl⟩ := hrel
        by_cases hlt : k < za.length
        · have c1 := hca k _ (U32_at hlt)
          have c2 := hcb k _ (U32_at (show k < zb.length by omega))
          go_wp2
          go_quiet (fail)
          go_wp2
          · have hne : ((za[k] : Nat) : Int) ≠ zb[k] := by simpa using (show ((za[k] : Nat) : Int) != zb[k] by assumption)
            go_ret
            refine ⟨ret_bool (decide_eq_false fun e => hne ?_).symm, _, World.drewN_drewN _ _ _⟩
            simp [e]
          · have heq : ((za[k] : Nat) : Int) = zb[k] := by
              have h : ((((za[k] : Nat) : Int) != zb[k]) = false) := by assumption
              simpa using h
            go_roundw
            case rel =>
              refine ⟨k + 1, m + nq, by omega, by go_num, ?_, rfl⟩
              rw [List.take_succ_eq_append_getElem hlt, List.take_succ_eq_append_getElem (show k < zb.length by omega), ht]
              congr 1
              simp; omega
            case measure => simp [intOf]; omega
        · have hkl : k = za.length := by omega
          subst hkl
          have he : za = zb := by
            rw [List.take_of_length_le (Nat.le_refl _), List.take_of_length_le (by omega)] at ht
            exact ht
          have HE := Lib.hid he
          clear he ht
          go_wp2
          go_ret
          exact ⟨ret_bool (by simp [HE.out]), m, rfl⟩
  · have hne : ((za.length : Int) != zb.length) = true := by rw [bne_iff_ne]; omega
    go_enter Try.func31, Try.ntmps31
    go_wp2
    go_ret
    exact ⟨ret_bool (decide_eq_false fun e => hl (by rw [e])).symm, 0, rfl⟩

/-! ### What merging makes of two numbers, and of two lists -/
def mergeOne (set : Bool) (x y : Nat) : Nat := if set then max x (min y 1) else if x + y < 4294967296 then x + y else 4294967295
def overOne (set : Bool) (x y : Nat) : Bool := !set && decide (4294967296 ≤ x + y)
def merged (set : Bool) (d s : List Nat) : List Nat := List.zipWith (mergeOne set) d s
def overs (set : Bool) (d s : List Nat) : Bool := (List.zipWith (overOne set) d s).any id
theorem satSum_nat (x y : Nat) : satSum (x : Int) (y : Int) = ((mergeOne false x y : Nat) : Int) := by
  unfold satSum mergeOne
  by_cases h : x + y < 4294967296
  · rw [if_pos (by omega)]; simp [h]
  · rw [if_neg (by omega)]; simp [h]
theorem satOver_nat (x y : Nat) : satOver (x : Int) (y : Int) = overOne false x y := by
  unfold satOver overOne
  simp
  omega
theorem max_min_nat (x y : Nat) : (if (x : Int) < (if 1 < (y : Int) then 1 else (y : Int)) then (if 1 < (y : Int) then 1 else (y : Int)) else (x : Int)) = ((mergeOne true x y : Nat) : Int) := by
  unfold mergeOne
  rw [if_pos rfl, show ((max x (min y 1) : Nat) : Int) = max (x : Int) (min (y : Int) 1) by omega]
  split <;> split <;> omega
theorem merged_length {set : Bool} {d s : List Nat} (h : d.length = s.length) : (merged set d s).length = d.length := by simp [merged]; omega
theorem merged_get {set : Bool} {d s : List Nat} {k : Nat} (hd : k < d.length) (hs : k < s.length) (h : k < (merged set d s).length) : (merged set d s)[k] = mergeOne set d[k] s[k] := by
  simp [merged]
theorem overs_take {set : Bool} {d s : List Nat} {k : Nat} (hd : k < d.length) (hs : k < s.length) :
    ((List.zipWith (overOne set) d s).take (k + 1)).any id = (((List.zipWith (overOne set) d s).take k).any id || overOne set d[k] s[k]) := by
  rw [List.take_succ_eq_append_getElem (by simp; omega), List.any_append]
  simp


/-- A round's step of an append of one number of four bytes. -/
theorem round_u32 {w wr w1 : World} {v v' : Value} {u : Value} {T : TypeId} {S : Nat → Prop} (hk : Keep S w wr) (hl : ∀ g, v.ownBlock = some g → w.heap.size ≤ g)
    {n : Nat} (hg : Grew ((wr.drewN n).alloc (.cells #[u] T)) w1 v v') : Keep S w w1 ∧ (∀ g, v'.ownBlock = some g → w.heap.size ≤ g) := by
  refine ⟨((hk.drewN n).alloc _).trans hg.keep (fun i hi h => by have := hl i h; omega), fun g h => ?_⟩
  rcases hg.lies h with h | h
  · exact hl g h
  · have := hk.size
    have e1 : ((wr.drewN n).alloc (.cells #[u] T)).heap.size = wr.heap.size + 1 := by
      show (wr.heap.push _).size = _
      simp
    omega

set_option maxRecDepth 100000 in
set_option maxHeartbeats 2000000 in
theorem merge_spec (mode : Int) (set : Bool) (hset : (mode == 1) = set) (d s : Value) (zd zs : List Nat) (w : World) (hd : Reads w 1 d zd.length (U32 zd)) (hs : Reads w 1 s zs.length (U32 zs))
    (hl : zd.length = zs.length) (hm : zd.length ≤ 1000) (bd : ∀ x ∈ zd, x < 4294967296) (bs : ∀ x ∈ zs, x < 4294967296) :
    Calls Try.prog 30 #[.int .i64 mode, d, s] w fun e w' => ∃ v', e = .returned (.tuple #[v', .bool (overs set zd zs)]) ∧
      Row w' 24 1 v' zd.length (U32 (merged set zd zs)) ∧ Keep Non w w' ∧ (∀ g, v'.ownBlock = some g → w.heap.size ≤ g) := by
  obtain ⟨aa, ca, rfl⟩ := hd.slice
  obtain ⟨ab, cb, rfl⟩ := hs.slice
  have l1 : zd.length ≤ zs.length := by omega
  have l2 : zs.length ≤ zd.length := by omega
  clear hl
  have HSET := Lib.hid hset
  clear hset
  go_enter Try.func30, Try.ntmps30
  go_wp2
  go_loopw [8, 9, 16] (fun v o i wr => ∃ (k : Nat) (ob : Bool), k ≤ zd.length ∧ i = .int .i64 k ∧ o = .bool ob ∧ ob = ((List.zipWith (overOne set) zd zs).take k).any id ∧
      Row wr 24 1 v k (U32 ((merged set zd zs).take k)) ∧ Keep Non w wr ∧ (∀ g, v.ownBlock = some g → w.heap.size ≤ g)) (fun _ _ i _ => zd.length - (intOf i).toNat)
  case atStart => exact ⟨0, false, by omega, rfl, rfl, by simp, Row.lit w 24 1 [] 0 (by decide) rfl, (Keep.refl _ _).alloc _, fun g h => by simp [Value.ownBlock] at h; omega⟩
  case round =>
    obtain ⟨k, ob, hk, rfl, rfl, ho, hr, hkp, hl⟩ := hrel
    have HO := Lib.hid ho
    have HR := Lib.hid hr
    have HL := Lib.hid hl
    clear hr hl ho
    by_cases hlt : k < zd.length
    · have hlt2 : k < zs.length := by omega
      obtain ⟨ba, offa, ca', hva, hca⟩ := hd.at (by omega) (by omega)
      obtain ⟨bb, offb, cb', hvb, hcb⟩ := hs.at (by omega) (by omega)
      cases hva
      cases hvb
      have c1 := hkp.cell (hca k _ (U32_at hlt)) (fun h => h)
      have c2 := hkp.cell (hcb k _ (U32_at hlt2)) (fun h => h)
      have b1 := bd _ (List.getElem_mem hlt)
      have b2 := bs _ (List.getElem_mem hlt2)
      have hov := overs_take (set := set) hlt hlt2
      have hmg := List.take_succ_eq_append_getElem (l := merged set zd zs) (i := k) (by simp [merged]; omega)
      rw [merged_get hlt hlt2] at hmg
      have HOV := Lib.hid hov
      have HMG := Lib.hid hmg
      clear hca hcb bd bs hov hmg
      cases set with
      | true =>
        have hmode : mode = 1 := by simpa using HSET.out
        subst hmode
        go_wp2
        go_quiet ((go_at_call 17; exact Calls.quiet_of_same ((add_spec _ _ _ (by omega) (by omega) (by omega) (by omega)).mono fun e w' ⟨h1, h2⟩ => ⟨h1, h2.symm⟩)))
        go_wp2
        go_quiet (fail)
        have hr := HR.out
        go_wp2_with (at_builtin; go_must (refine wpList_app sliceU32 rfl _ _ rfl rfl (Row.alloc (hr.keep ((Keep.refl Non _).drewN _) (fun _ _ h => h)) _) rfl (Reads.one _ _ _) (fun u hu => by simp at hu; subst hu; rfl) (by unfold maxLen; omega) (by omega) ?_); intro v' w1 hr1 hg1 hn1)
        all_goals
          have R := round_u32 hkp HL.out hg1
          have hmg := HMG.out
          go_roundw
          case measure => simp [intOf]; omega
          case rel =>
            refine ⟨k + 1, _, by omega, by go_num, rfl, ?_, ?_, R.1, R.2⟩
            · rw [HOV.out, ← HO.out]; simp [overOne, *]
            · rw [hmg, U32_append]
              rw [max_min_nat] at hr1
              exact hr1
      | false =>
        have hm1 := HSET.out
        go_wp2_with fail
        go_quiet ((go_at_call 17; exact Calls.quiet_of_same ((add_spec _ _ _ (by omega) (by omega) (by omega) (by omega)).mono fun e w' ⟨h1, h2⟩ => ⟨h1, h2.symm⟩)))
        have hr := HR.out
        go_wp2_with (at_builtin; go_must (refine wpList_app sliceU32 rfl _ _ rfl rfl (Row.alloc (hr.keep ((Keep.refl Non _).drewN _) (fun _ _ h => h)) _) rfl (Reads.one _ _ _) (fun u hu => by simp at hu; subst hu; rfl) (by unfold maxLen; omega) (by omega) ?_); intro v' w1 hr1 hg1 hn1)
        all_goals
          have R := round_u32 hkp HL.out hg1
          have hmg := HMG.out
          go_roundw
          case measure => simp [intOf]; omega
          case rel =>
            refine ⟨k + 1, _, by omega, by go_num, rfl, ?_, ?_, R.1, R.2⟩
            · rw [HOV.out, ← HO.out]; simp [satOver_nat, *]
            · rw [hmg, U32_append]
              rw [satSum_nat] at hr1
              exact hr1
    · have hkl : k = zd.length := by omega
      subst hkl
      have ho := HO.out
      have hr := HR.out
      rw [List.take_of_length_le (by simp; omega)] at ho
      rw [List.take_of_length_le (by simp [merged]; omega)] at hr
      subst ho
      clear hr
      go_wp2
      go_ret2
      have hr := HR.out
      rw [List.take_of_length_le (by simp [merged]; omega)] at hr
      exact ⟨_, rfl, hr, hkp, HL.out⟩
end Go.Proofs.Ytfcdedcffmpjjaa
