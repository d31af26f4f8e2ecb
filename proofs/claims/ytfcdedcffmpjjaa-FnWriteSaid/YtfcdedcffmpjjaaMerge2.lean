/-
  CONTRACTS for counters that are merged, second part: MergeCounters.
-/
import Derived.Test.YtfcdedcffmpjjaaMerge
namespace Go.Proofs.Ytfcdedcffmpjjaa
open Go.RowKit

def U8 (n : Nat) : Value := .int .u8 (n : Int)
/-- The cells of a Merger. -/
def mcells (cm cg pol : Nat) (ov : Bool) : List Value := [U8 cm, U8 cg, U8 pol, .bool ov]

theorem satMethod (g : Nat) (cm cg pol : Nat) (ov : Bool) (x y : Nat) (w : World) (hb : Blk w g (mcells cm cg pol ov) 87) (hx : x < 4294967296) (hy : y < 4294967296) :
    Calls Try.prog 64 #[.pointer (some ⟨g, 0, none⟩), .int .u32 x, .int .u32 y] w fun e w' =>
      e = .returned (.int .u32 (mergeOne false x y : Nat)) ∧ Blk w' g (mcells cm cg pol (ov || overOne false x y)) 87 ∧ Keep (At g) w w' := by
  have c3 : w.cell? ⟨g, 3, none⟩ = some (.bool ov) := by rw [hb.cell]; rfl
  have f3 := hb.free 3
  rw [← satSum_nat, ← satOver_nat]
  cases hov : satOver x y with
  | true =>
    go_enter Try.func64, Try.ntmps64
    go_wp2_with (go_at_call 37; refine (satAdd_pub _ _ _ (by omega) (by omega) (by omega) (by omega)).mono ?_; rintro e w' ⟨rfl, rfl⟩)
    go_ret
    refine ⟨rfl, ?_, Keep.one _ _ _ _⟩
    have := hb.set 3 (.bool true)
    simpa [mcells] using this
  | false =>
    go_enter Try.func64, Try.ntmps64
    go_wp2_with (go_at_call 37; refine (satAdd_pub _ _ _ (by omega) (by omega) (by omega) (by omega)).mono ?_; rintro e w' ⟨rfl, rfl⟩)
    go_ret
    exact ⟨rfl, by simpa using hb, Keep.refl _ _⟩

/-- What MergeCounters makes of two numbers, and of two lists. -/
def mixOne (set : Bool) (x y : Nat) : Nat := if set then (if y = 0 then x else 1) else mergeOne false x y
def mixed (set : Bool) (d s : List Nat) : List Nat := List.zipWith (mixOne set) d s
theorem mixed_length {set : Bool} {d s : List Nat} (h : d.length = s.length) : (mixed set d s).length = d.length := by simp [mixed]; omega
theorem mixed_get {set : Bool} {d s : List Nat} {k : Nat} (hd : k < d.length) (hs : k < s.length) (h : k < (mixed set d s).length) : (mixed set d s)[k] = mixOne set d[k] s[k] := by
  simp [mixed]

theorem overs_set (d s : List Nat) : overs true d s = false := by
  unfold overs
  rw [List.any_eq_false]
  intro x hx
  obtain ⟨i, h, rfl⟩ := List.getElem_of_mem hx
  simp [overOne]
/-- The first k of one list, the rest of another. -/
def upto (L d : List Nat) (k : Nat) : List Nat := L.take k ++ d.drop k
theorem upto_zero (L d : List Nat) : upto L d 0 = d := by simp [upto]
theorem upto_all {L d : List Nat} (h : L.length = d.length) : upto L d d.length = L := by simp [upto, ← h]
theorem upto_length {L d : List Nat} (h : L.length = d.length) (k : Nat) : (upto L d k).length = d.length := by simp [upto]; omega
theorem upto_at {L d : List Nat} {k : Nat} (h : L.length = d.length) (i : Nat) (hi : i < d.length) :
    (upto L d k)[i]'(by rw [upto_length h]; exact hi) = if i < k then L[i]'(by omega) else d[i] := by
  simp only [upto]
  by_cases hik : i < k
  · rw [List.getElem_append_left (by simp; omega), if_pos hik]; simp
  · rw [List.getElem_append_right (by simp; omega), if_neg hik]
    simp only [List.getElem_drop, List.length_take]
    congr 1
    omega
theorem upto_get {L d : List Nat} {k : Nat} (h : L.length = d.length) (hk : k < d.length) : (upto L d k)[k]'(by rw [upto_length h]; exact hk) = d[k] := by
  rw [upto_at h k hk, if_neg (by omega)]
theorem upto_succ {L d : List Nat} {k : Nat} (h : L.length = d.length) (hk : k < d.length) : upto L d (k + 1) = (upto L d k).set k (L[k]'(by omega)) := by
  apply List.ext_getElem
  · simp [upto_length h]
  · intro i h1 h2
    rw [upto_length h] at h1
    rw [List.getElem_set, upto_at h i h1]
    by_cases e : k = i
    · subst e; simp
    · rw [if_neg e, upto_at h i h1]
      by_cases h3 : i < k
      · rw [if_pos h3, if_pos (by omega)]
      · rw [if_neg h3, if_neg (by omega)]
theorem upto_same {L d : List Nat} {k : Nat} (h : L.length = d.length) (hk : k < d.length) (he : L[k]'(by omega) = d[k]) : upto L d (k + 1) = upto L d k := by
  rw [upto_succ h hk, he]
  apply List.ext_getElem
  · simp
  · intro i h1 h2
    rw [List.getElem_set]
    split
    · rename_i e; subst e; rw [upto_get h hk]
    · rfl

/-- The blocks that MergeCounters may turn. -/
def MG (g : Nat) (d : Value) : Nat → Prop := fun k => k = g ∨ d.ownBlock = some k

set_option maxRecDepth 100000 in
set_option maxHeartbeats 2000000 in
theorem mergeCounters (g : Nat) (cm cg pol : Nat) (set : Bool) (hset : (cm == 1) = set) (d s : Value) (zd zs : List Nat) (w : World) (hb : Blk w g (mcells cm cg pol false) 87)
    (hd : Row w 24 1 d zd.length (U32 zd)) (hs : Row w 24 1 s zs.length (U32 zs)) (hds : ∀ k, d.ownBlock = some k → s.ownBlock ≠ some k)
    (hl : zd.length = zs.length) (hm : zd.length ≤ 1000) (bd : ∀ x ∈ zd, x < 4294967296) (bs : ∀ x ∈ zs, x < 4294967296) :
    Calls Try.prog 49 #[.pointer (some ⟨g, 0, none⟩), d, s] w fun e w' =>
      e = .returned (.tuple #[.nilIface, .bool (overs set zd zs)]) ∧ Row w' 24 1 d zd.length (U32 (mixed set zd zs)) ∧
      Blk w' g (mcells cm cg pol false) 87 ∧ Keep (MG g d) w w' := by
  have l1 : zd.length ≤ zs.length := by omega
  have l2 : zs.length ≤ zd.length := by omega
  have HLEN := Lib.hid hl
  have HML := Lib.hid (mixed_length (set := set) hl)
  clear hl
  obtain ⟨aa, ca, rfl⟩ := hd.reads.slice
  obtain ⟨ab, cb, rfl⟩ := hs.reads.slice
  have c0 : w.cell? ⟨g, 0, none⟩ = some (.int .u8 (cm : Int)) := by rw [hb.cell]; rfl
  have c3 : w.cell? ⟨g, 3, none⟩ = some (.bool false) := by rw [hb.cell]; rfl
  have f3 := hb.free 3
  by_cases h0 : zd.length = 0
  · have e1 : zd = [] := List.eq_nil_of_length_eq_zero h0
    have e2 : zs = [] := List.eq_nil_of_length_eq_zero (by omega)
    subst e1; subst e2
    clear h0 l1 l2 hm
    by_cases hc : cm = 1
    · have hc' : ((cm : Int) == 1) = true := by simp; omega
      go_enter Try.func49, Try.ntmps49
      go_wp2
      refine wp_loop_rounds 1 ?_
      rw [rounds_succ]
      go_wp2
      go_ret2
      exact ⟨rfl, hd.keep (Keep.one _ g 3 _) (fun i hi e => hd.neBlk hb (by decide) (hi.trans (congrArg some e))), hb.set 3 _, Keep.setAt (Keep.refl _ _) _ _ _ (.inl rfl)⟩
    · have hc' : ((cm : Int) == 1) = false := by simp; omega
      go_enter Try.func49, Try.ntmps49
      go_wp2
      refine wp_loop_rounds 1 ?_
      rw [rounds_succ]
      go_wp2
      go_ret2
      exact ⟨rfl, hd.keep (Keep.one _ g 3 _) (fun i hi e => hd.neBlk hb (by decide) (hi.trans (congrArg some e))), hb.set 3 _, Keep.setAt (Keep.refl _ _) _ _ _ (.inl rfl)⟩
  · obtain ⟨gd, cd, hvd⟩ := hd.at (by omega)
    obtain ⟨gs, cs, hvs⟩ := hs.at (by omega)
    cases hvd
    cases hvs
    have hgs : gs ≠ gd := fun e => hds gd rfl (by simp [Value.ownBlock, e])
    have hgd : g ≠ gd := fun e => hd.neBlk hb (by decide) (by simp [Value.ownBlock, e])
    clear hds
    have hne : ((zs.length : Int) != zd.length) = false := by simp; omega
    cases set with
    | true =>
      have hc : cm = 1 := by simpa using hset
      subst hc
      have c0' : w.cell? ⟨g, 0, none⟩ = some (.int .u8 1) := c0
      clear c0 hset
      go_enter Try.func49, Try.ntmps49
      go_wp2
      go_loopw [8] (fun i wr => ∃ k : Nat, k ≤ zd.length ∧ i = .int .i64 k ∧ Row wr 24 1 (.slice (some ⟨gd, 0, none⟩) zd.length ca) zd.length (U32 (upto (mixed true zd zs) zd k)) ∧ Keep (At gd) w wr) (fun i _ => zd.length - (intOf i).toNat)
      case atStart => exact ⟨0, by omega, rfl, by rw [upto_zero]; exact hd, Keep.refl _ _⟩
      case round =>
        obtain ⟨k, hk, rfl, hr, hkp⟩ := hrel
        by_cases hlt : k < zd.length
        · have hlt2 : k < zs.length := by omega
          have hs' := hs.keep hkp (fun i hi e => by simp [Value.ownBlock] at hi; exact hgs (hi.trans e))
          have c2 := (hs'.cell k (by omega)).trans (U32_at hlt2)
          have c1 := (hr.cell k (by omega)).trans (U32_at (by rw [upto_length HML.out]; exact hlt))
          have f1 := hr.free k
          by_cases hz : zs[k] = 0
          · have hz1 : ((zs[k] : Nat) : Int) ≤ 0 := by omega
            have HZ := Lib.hid hz
            clear hz
            go_wp2
            go_roundw
            case measure => simp [intOf]; omega
            case rel =>
              refine ⟨k + 1, by omega, by go_num, ?_, hkp⟩
              rw [upto_same HML.out hlt (by rw [mixed_get hlt hlt2, HZ.out]; simp [mixOne])]
              exact hr
          · have hz1 : 0 < ((zs[k] : Nat) : Int) := by omega
            go_wp2
            go_roundw
            case measure => simp [intOf]; omega
            case rel =>
              refine ⟨k + 1, by omega, by go_num, ?_, hkp.setCell (fun _ => show _ = _ from rfl) _⟩
              have := hr.store k (.int .u32 1)
              rw [upto_succ HML.out hlt, mixed_get hlt hlt2]
              simpa [U32, List.map_set, mixOne, hz] using this
        · have hkl : k = zd.length := by omega
          subst hkl
          rw [upto_all HML.out] at hr
          have c3' := hkp.cell c3 (fun e => hgd e)
          have hb' := hb.keep hkp (fun e => hgd e)
          have f3' := hb'.free 3
          go_wp2
          go_ret2
          refine ⟨by rw [overs_set]; rfl, hr.keep (Keep.one _ g 3 _) (fun i hi e => by simp [Value.ownBlock] at hi; exact hgd (e.symm.trans hi.symm)), hb'.set 3 _, ?_⟩
          exact (hkp.mono (S' := MG g _) (fun i _ h => .inr (by simp [Value.ownBlock]; exact h.symm))).setCell (fun _ => .inl rfl) _
    | false =>
      have hc : ((cm : Int) == 1) = false := by simp at hset ⊢; omega
      have HC := Lib.hid hset
      clear hset
      go_enter Try.func49, Try.ntmps49
      go_wp2
      go_loopw [9] (fun i wr => ∃ k : Nat, k ≤ zd.length ∧ i = .int .i64 k ∧ Row wr 24 1 (.slice (some ⟨gd, 0, none⟩) zd.length ca) zd.length (U32 (upto (mixed false zd zs) zd k)) ∧
          Blk wr g (mcells cm cg pol (((List.zipWith (overOne false) zd zs).take k).any id)) 87 ∧ Keep (MG g (.slice (some ⟨gd, 0, none⟩) zd.length ca)) w wr) (fun i _ => zd.length - (intOf i).toNat)
      case atStart => exact ⟨0, by omega, rfl, by rw [upto_zero]; exact hd, by simpa using hb, Keep.refl _ _⟩
      case round =>
        obtain ⟨k, hk, rfl, hr, hbk, hkp⟩ := hrel
        by_cases hlt : k < zd.length
        · have hlt2 : k < zs.length := by omega
          have hs' := hs.keep hkp (fun i hi e => by
            simp [Value.ownBlock] at hi
            subst hi
            rcases e with e | e
            · exact (hs.neBlk hb (by decide) (by simp [Value.ownBlock, e])).elim
            · simp [Value.ownBlock] at e; exact hgs e.symm)
          have c2 := (hs'.cell k (by omega)).trans (U32_at hlt2)
          have c1 := (hr.cell k (by omega)).trans (U32_at (by rw [upto_length HML.out]; exact hlt))
          rw [upto_get HML.out hlt] at c1
          have b1 := bd _ (List.getElem_mem hlt)
          have b2 := bs _ (List.getElem_mem hlt2)
          clear c0 c3 f3 hc
          go_wp2_with fail
          go_region_with (go_at_call 64; go_must (refine (satMethod _ cm cg pol _ _ _ _ hbk.drew b1 b2).mono ?_); rintro e w4 ⟨rfl, hb4, k4⟩; have r4 := Row.keep (Row.drew hr) k4 (fun i hi e => by simp [Value.ownBlock] at hi; exact hgd (e.symm.trans hi.symm)); have c4 := (r4.cell k (by omega)).trans (U32_at (by rw [upto_length HML.out]; exact hlt)); have f4 := r4.free k)
          all_goals
            go_wp2
            have e1 : (Value.int .i64 ((k : Int) + 1)) = Value.int .i64 ((k + 1 : Nat) : Int) := by go_num
            have e2 : Row (w4.setCell ⟨gd, k, none⟩ (.int .u32 (mergeOne false zd[k] zs[k] : Nat))) 24 1 (.slice (some ⟨gd, 0, none⟩) zd.length ca) zd.length (U32 (upto (mixed false zd zs) zd (k + 1))) := by
              have := r4.store k (.int .u32 (mergeOne false zd[k] zs[k] : Nat))
              rw [upto_succ HML.out hlt, mixed_get hlt hlt2]
              simpa [U32, List.map_set, mixOne] using this
            have e3 : Blk (w4.setCell ⟨gd, k, none⟩ (.int .u32 (mergeOne false zd[k] zs[k] : Nat))) g (mcells cm cg pol (((List.zipWith (overOne false) zd zs).take (k + 1)).any id)) 87 := by
              rw [overs_take hlt hlt2]
              exact hb4.setOther (fun e => hgd e) _
            have e4 : Keep (MG g (.slice (some ⟨gd, 0, none⟩) zd.length ca)) w (w4.setCell ⟨gd, k, none⟩ (.int .u32 (mergeOne false zd[k] zs[k] : Nat))) :=
              (hkp.drew.trans k4 (fun i _ h => .inl h)).setAt gd k _ (.inr rfl)
            go_roundw
            case rel => exact ⟨k + 1, by omega, e1, e2, e3, e4⟩
            case measure => simp [intOf]; omega
        · have hkl : k = zd.length := by omega
          subst hkl
          rw [upto_all HML.out] at hr
          rw [List.take_of_length_le (by simp; omega)] at hbk
          have c3' : wr.cell? ⟨g, 3, none⟩ = some (.bool (overs false zd zs)) := by rw [hbk.cell]; rfl
          have f3' := hbk.free 3
          go_wp2
          go_ret2
          exact ⟨rfl, hr.keep (Keep.one _ g 3 _) (fun i hi e => by simp [Value.ownBlock] at hi; exact hgd (e.symm.trans hi.symm)), hbk.set 3 _, hkp.setAt _ _ _ (.inl rfl)⟩
end Go.Proofs.Ytfcdedcffmpjjaa
