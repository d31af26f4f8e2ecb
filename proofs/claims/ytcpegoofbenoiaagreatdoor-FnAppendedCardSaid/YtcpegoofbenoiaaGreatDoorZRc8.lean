/-
  CONTRACT: what stands ahead of a segment's functions is read.
-/
import Derived.Test.YtcpegoofbenoiaaGreatDoorZRc7
namespace Go.Proofs.YtcpegoofbenoiaaGreatDoor
open Go.RowKit
open Go.ChangeShapes Go.WideShapes Go.ChangeAt Go.Deep
open Plain (M64)

/-- The reader's cells behind a segment's preamble. -/
structure SegC (s : Sg) (fe n0 : Nat) (cs cs' : List Value) (w : World) : Prop where
  fe : cs'[48]? = some (.int .u64 fe)
  same : ∀ i, (5 ≤ i ∧ i < 48) ∨ 51 ≤ i → cs'[i]? = cs[i]?
  args : if s.args = [] then cs'[2]? = cs[2]? else ∃ v, cs'[2]? = some v ∧ Row w 9 1 v s.args.length (Ts s.args) ∧ ∀ b, v.ownBlock = some b → n0 ≤ b
  arch : cs'[3]? = if s.arch.size = 0 then cs[3]? else some (.string s.arch)
  os : cs'[4]? = if s.os.size = 0 then cs[4]? else some (.string s.os)
def prsOf (s : Sg) (all ks : List ByteArray) : List (Nat × Nat) := ks.map (prOf all (pairs s))
def headL (s : Sg) (all ks : List ByteArray) : Nat := 16 + (tbytes all).length + (argB (tbytes all).length (prsOf s all ks)).length
def PreP (s : Sg) (fe gd g bb c p : Nat) (cs : List Value) (bs : List UInt8) (w : World) (e : Ending) (w' : World) : Prop :=
  e = .returned .nilIface ∧ ∃ cs', DR w' gd g bb c p cs' bs ∧ SegC s fe w.heap.size cs cs' w' ∧ Keep (fun i => i = g ∨ i = gd) w w'
set_option maxRecDepth 100000 in
set_option maxHeartbeats 4000000 in
theorem preT (packed : Bool) (s : Sg) (fe gd g bb c p : Nat) (cs : List Value) (bs r : List UInt8) (all ks : List ByteArray) (w : World) (h : DR w gd g bb c p cs bs) (hbs : bs.drop p = segB packed fe all (prsOf s all ks) s.funs ++ r) (hp4 : p % 4 = 0) (hl : bs.length ≤ 1000000) (hS : SegT s all ks) (hs : s.ok) (hfe : fe ≤ 1000) :
    Calls Tryz.prog 49 #[.pointer (some ⟨gd, 0, none⟩)] w (PreP s fe gd g bb c (p + headL s all ks) cs bs w) := by
  obtain ⟨T, hT⟩ : ∃ x, x = tbytes all := ⟨_, rfl⟩
  obtain ⟨A, hA⟩ : ∃ x, x = argB T.length (prsOf s all ks) := ⟨_, rfl⟩
  have hTl : T.length ≤ 1840 := by rw [hT]; exact hS.tlen
  have hAl : A.length ≤ 100 := by
    obtain ⟨a1, a2⟩ := hS.alen hs
    rw [hA, argB_length, prsOf, a1]; omega
  have h4 : (16 + T.length + A.length) % 4 = 0 := by rw [hA]; exact seg4 _ _
  have e0 : segB packed fe all (prsOf s all ks) s.funs = shdrB fe T.length A.length ++ (T ++ (A ++ fcsB packed s.funs)) := by
    rw [segB, hA, hT]; simp only [List.append_assoc]
  have hb0 : bs.drop p = shdrB fe T.length A.length ++ (T ++ (A ++ (fcsB packed s.funs ++ r))) := by
    rw [hbs, e0]; simp only [List.append_assoc]
  have hb1 : bs.drop (p + 16) = T ++ (A ++ (fcsB packed s.funs ++ r)) := by
    rw [← List.drop_drop, hb0, List.drop_append_of_le_length (by rw [shdrB_length]; exact Nat.le_refl _), List.drop_of_length_le (by rw [shdrB_length]; exact Nat.le_refl _), List.nil_append]
  have hb2 : bs.drop (p + 16 + T.length) = A ++ (fcsB packed s.funs ++ r) := by
    rw [← List.drop_drop, hb1, List.drop_left]
  have hpl : p + 16 + T.length + A.length ≤ bs.length := by
    have a1 := congrArg List.length hb0
    have : 0 < A.length ∨ A.length = 0 := by omega
    simp [shdrB_length] at a1
    omega
  have hq : p + headL s all ks = p + 16 + T.length + A.length := by rw [headL, ← hT, ← hA]; omega
  have HT := Lib.hid hT
  have HA := Lib.hid hA
  have HB0 := Lib.hid hb0
  have HB1 := Lib.hid hb1
  have HB2 := Lib.hid hb2
  have HQ := Lib.hid hq
  have HS := Lib.hid hS
  have HSO := Lib.hid hs
  have H := Lib.hid h
  have x5 := h.x5
  rw [hq]
  clear hT hA hb0 hb1 hb2 hq hS hs e0 hbs
  have hdl := h.blk.lt
  have hgl := h.rd.blk.lt
  clear h
  go_enter Tryz.func49, Tryz.ntmps49
  go_upto_region 1 with (fail)
  go_cut [3] from 12 to 19 (fun v wx => v = .nilIface ∧ DR wx gd g bb c (p + 16) (((cs.set 48 (.int .u64 fe)).set 49 (.int .u32 T.length)).set 50 (.int .u32 A.length)) bs ∧ Keep (fun i => i = g ∨ i = gd) w wx)
  case first =>
    go_region_with (go_at_call 78; go_must (refine (shdrRead gd g bb c p cs bs _ fe T.length A.length _ H.out.drew HB0.out hl (by omega) (by omega) (by omega)).mono ?_); rintro e w2 ⟨rfl, hD2, k2⟩)
    all_goals
      go_wp2_with fail
      go_meet
      case rel => exact ⟨rfl, hD2, k2.undrew⟩
  case rest =>
    obtain ⟨rfl, hD1, k1⟩ := hcut
    obtain ⟨cs1, hcs1⟩ : ∃ x, x = ((cs.set 48 (.int .u64 fe)).set 49 (.int .u32 T.length)).set 50 (.int .u32 A.length) := ⟨_, rfl⟩
    rw [← hcs1] at hD1
    have HCS1 := Lib.hid hcs1
    have HD1 := Lib.hid hD1
    have HK1 := Lib.hid k1
    have HLC : Hid (cs.length = 56) := Lib.hid H.out.len
    have HZ : Hid (w.heap.size ≤ wc.heap.size) := Lib.hid k1.size
    clear hcs1 hD1 k1 x5
    go_upto_region 7 with (go_at_call 79; refine (readStringTableT gd g bb c (p + 16) cs1 bs _ all _ HD1.out hl (by rw [← HT.out]; exact HB1.out) (by rw [HCS1.out, ← HT.out, List.getElem?_set_ne (by decide), List.getElem?_set_self (by simp [HLC.out])]) (by have := HS.out.len; omega) (fun t ht => by have := HS.out.short t ht; omega) (by rw [← HT.out]; omega)).mono ?_; rintro e w2 ⟨rfl, gt, gr, bt, ct, pr, v, hD2, hT2, l1, l2, l3, k2⟩)
    rw [← HT.out] at hD2 hT2
    have HD2 := Lib.hid hD2
    have HT2 := Lib.hid hT2
    have HK2 := Lib.hid (HK1.out.trans' k2)
    have HL : Hid (wc.heap.size ≤ gt ∧ wc.heap.size ≤ gr ∧ wc.heap.size ≤ bt ∧ g < wc.heap.size ∧ gd < wc.heap.size) := Lib.hid ⟨l1, l2, l3, by have := HZ.out; omega, by have := HZ.out; omega⟩
    clear hD2 hT2 k2 l1 l2 l3
    have hz0 : (cs1.set 0 (.pointer (some ⟨gt, 0, none⟩)))[0]? = some (.pointer (some ⟨gt, 0, none⟩)) := by rw [List.getElem?_set_self (by have := HD1.out.len; omega)]
    have hz50 : (cs1.set 0 (.pointer (some ⟨gt, 0, none⟩)))[50]? = some (.int .u32 A.length) := by rw [List.getElem?_set_ne (by decide), HCS1.out, List.getElem?_set_self (by simp [HLC.out])]
    have HZ0 := Lib.hid hz0
    have HZ50 := Lib.hid hz50
    have HZ2 : Hid (w.heap.size ≤ w2.heap.size) := Lib.hid HK2.out.size
    clear hz0 hz50
    go_upto_region 10 with (go_at_call 80; refine (readArgsT s wc.heap.size gd g bb c (p + 16 + T.length) gt gr bt ct pr (cs1.set 0 (.pointer (some ⟨gt, 0, none⟩))) bs (fcsB packed s.funs ++ r) v all ks _ HD2.out (by rw [← HT.out]; exact HT2.out) HZ0.out (by have := HZ50.out; rw [HA.out, HT.out] at this; exact this) (by have := HB2.out; rw [HA.out, HT.out] at this; rw [HT.out]; exact this) hl HS.out HSO.out HL.out.2.2.2.1 HL.out.2.2.2.2 HL.out.1 HL.out.2.1 HL.out.2.2.1).mono ?_; rintro e w3 ⟨rfl, cs3, hD3, hA3, k3⟩)
    have eA : (argB (tbytes all).length (ks.map (prOf all (pairs s)))).length = A.length := by rw [HA.out, HT.out]; rfl
    rw [eA] at hD3
    have hP4' : (p + 16 + T.length + A.length) % 4 = 0 := by omega
    generalize p + 16 + T.length + A.length = P at *
    have HD3 := Lib.hid hD3
    have HA3 := Lib.hid hA3
    have HK3 := Lib.hid (HK2.out.trans' k3)
    clear hD3 hA3 k3 eA
    have x5 := HD3.out.x5
    have hna := aheadSeek
    have hme := methodSeek
    have HSK : Hid (seekTo 1 P bs.length 0 = ((P : Nat) : Int)) := Lib.hid (by simp [seekTo])
    go_upto_region 13 with (go_at_call 159; refine (seekG 1 g bb c P P _ bs _ (by decide) HSK.out HD3.out.rd hl hpl hpl (by decide) (by decide)).mono ?_; rintro e w4 ⟨rfl, r4, k4⟩)
    have HD4 := Lib.hid (HD3.out.move k4 r4)
    have HA4 : Hid (ArgC s w2.heap.size (cs1.set 0 (.pointer (some ⟨gt, 0, none⟩))) cs3 w4) := Lib.hid ⟨HA3.out.same, by
      have := HA3.out.args
      split at this
      · rename_i hn; rw [if_pos hn]; exact this
      · rename_i hn
        obtain ⟨v, hv, hr, ho⟩ := this
        rw [if_neg hn]
        exact ⟨v, hv, hr.keep k4 (fun b hb e => hr.neBlk HD3.out.rd.blk (by decide) (by have e : b = g := e; rw [hb, e])), ho⟩, HA3.out.arch, HA3.out.os⟩
    have HK4 := Lib.hid (HK3.out.trans' (k4.mono (fun i _ e => .inl e)))
    clear r4 k4 x5 HD3 HA3
    have hr1 : (P : Int) % 4 = 0 := by omega
    have hr2 : Int.tmod (P : Int) 4 = 0 := by rw [Int.tmod_eq_emod_of_nonneg (by omega)]; exact hr1
    go_wp2_with fail
    go_ret
    refine ⟨rfl, cs3, HD4.out, ⟨?_, fun i hi => ?_, ?_, ?_, ?_⟩, HK4.out⟩
    · rw [HA4.out.same 48 (by decide), List.getElem?_set_ne (by decide), HCS1.out, List.getElem?_set_ne (by decide), List.getElem?_set_ne (by decide), List.getElem?_set_self (by simp [HLC.out])]
    · rw [HA4.out.same i (by omega), List.getElem?_set_ne (by omega), HCS1.out, List.getElem?_set_ne (by omega), List.getElem?_set_ne (by omega), List.getElem?_set_ne (by omega)]
    · have := HA4.out.args
      split at this
      · rename_i hn
        rw [if_pos hn, this, List.getElem?_set_ne (by decide), HCS1.out, List.getElem?_set_ne (by decide), List.getElem?_set_ne (by decide), List.getElem?_set_ne (by decide)]
      · rename_i hn
        obtain ⟨v, hv, hr, ho⟩ := this
        rw [if_neg hn]
        exact ⟨v, hv, hr, fun b hb => by have := ho b hb; have := HZ2.out; omega⟩
    · rw [HA4.out.arch, List.getElem?_set_ne (by decide), HCS1.out, List.getElem?_set_ne (by decide), List.getElem?_set_ne (by decide), List.getElem?_set_ne (by decide)]
    · rw [HA4.out.os, List.getElem?_set_ne (by decide), HCS1.out, List.getElem?_set_ne (by decide), List.getElem?_set_ne (by decide), List.getElem?_set_ne (by decide)]
end Go.Proofs.YtcpegoofbenoiaaGreatDoor
