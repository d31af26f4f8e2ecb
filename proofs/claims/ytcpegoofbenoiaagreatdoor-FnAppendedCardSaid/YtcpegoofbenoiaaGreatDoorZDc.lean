/-
  CONTRACT: AppendSegment.
-/
import Derived.Test.YtcpegoofbenoiaaGreatDoorZGDa
import Derived.Test.YtcpegoofbenoiaaGreatDoorZGCs
namespace Go.Proofs.YtcpegoofbenoiaaGreatDoor
open Go.RowKit
open Go.ChangeShapes Go.WideShapes Go.ChangeAt Go.Deep
open Plain (M64)

/-- A segment with what stands behind it. -/
def segF (packed : Bool) (n fe : Nat) (s : Sg) (all ks : List ByteArray) : List UInt8 := segB packed fe all (ks.map (prOf all (pairs s))) s.funs ++ footB n
def AppPost (Q : Nat → Prop) (packed : Bool) (s : Sg) (gc gb fe fl segs go bb : Nat) (pend out : List UInt8) (w : World) (e : Ending) (w' : World) : Prop :=
  ∃ (all ks : List ByteArray) (st al : Nat) (tm po : Value), e = .returned .nilIface ∧ SegT s all ks ∧ st < 4294967296 ∧ al < 4294967296 ∧ CW w' gc (.pointer none) gb (fe + s.funs.length) st al tm fl (segs + 1) go bb [] po (out ++ (pend ++ segF packed (segs + 1) (fe + s.funs.length) s all ks)) ∧ Keep Q w w' ∧ (∀ i, CWF gc gb go bb tm po i → Q i)
theorem lookKeep {w w' : World} {gs mb gc ma r : Nat} {ss sm : Value} {fz : Bool} {all seen : List ByteArray} {kvs : List (ByteArray × ByteArray)} {cs : List Value} (ht : Tab w gs 91 [] mb ss sm fz all) (hc : Blk w gc cs 98) (hr : RangeSM w ma r kvs seen) (hmm : ma ≠ mb)
    (k : Keep (fun i => i = gs ∨ i = mb ∨ ss.ownBlock = some i) w w') : Blk w' gc cs 98 ∧ RangeSM w' ma r kvs seen ∧ w'.rangeLeft ma r = w.rangeLeft ma r := by
  refine ⟨hc.keep k (fun e => ?_), hr.keep k (fun e => ?_) (fun e => ?_)⟩
  · rcases e with e | e | e
    · exact hc.ne ht.blk (by decide) e
    · exact ht.map.neBlk hc (Eq.symm e)
    · exact ht.strs.neBlk hc (by decide) e
  · rcases e with e | e | e
    · exact hr.owns.neBlk (by rw [e]; exact ht.blk)
    · exact hmm e
    · exact hr.owns.neRow ht.strs e
  · rcases e with e | e | e
    · exact hr.neBlk (by rw [e]; exact ht.blk)
    · exact hr.neTab (by rw [e]; exact ht.map)
    · exact hr.neRow ht.strs e
set_option maxRecDepth 100000 in
set_option maxHeartbeats 16000000 in
theorem appendT (packed : Bool) (Q : Nat → Prop) (s : Sg) (ma : Nat) (fs : List (Fc × Value)) (fv : Value) (gc : Nat) (gs0 : Value) (gb fe st al : Nat) (tm : Value) (fl segs go bb : Nat) (pend : List UInt8) (po : Value) (out : List UInt8) (w : World)
    (h : CW w gc gs0 gb fe st al tm fl segs go bb pend po out) (hM : Mag w) (ho : OwnsSM w ma (pairs s)) (hs : s.ok) (hF : ∀ w', Keep Q w w' → FR w' fv fs) (hfs : fs.map (·.1) = s.funs) (hQ : ∀ i, CWF gc gb go bb tm po i → Q i) (hQn : ∀ i, w.heap.size ≤ i → Q i) (hma : ¬ Q ma) (hmg : ¬ Q 1)
    (hpl : pend.length ≤ 32) (hol : out.length ≤ 100000) (hfe : fe ≤ 1000) (hsg : segs ≤ 100) (hfl : fl = if packed then 2 else 1) (h2 : st < 4294967296) (h3 : al < 4294967296) :
    Calls Tryz.prog 20 #[.pointer (some ⟨gc, 0, none⟩), .map (some ma), .iface 65 (.agg #[fv])] w (AppPost Q packed s gc gb fe fl segs go bb pend out w) := by
  -- the table
  obtain ⟨W0, hW0⟩ : ∃ W, W = w.setCell ⟨gc, 0, none⟩ (.pointer (some ⟨w.heap.size, 0, none⟩)) := ⟨_, rfl⟩
  have z0 : W0.heap.size = w.heap.size := by rw [hW0]; simp
  obtain ⟨W1, hW1⟩ : ∃ W, W = W0.alloc stO := ⟨_, rfl⟩
  have f0 := h.blk.free 0
  have x0 : w.cell? ⟨gc, 0, none⟩ = some gs0 := by rw [h.blk.cell]; rfl
  have HFL := Lib.hid hfl
  clear hfl
  have hgz := h.blk.lt
  have c1 : Blk W1 gc (ccells (.pointer (some ⟨w.heap.size, 0, none⟩)) gb fe st al tm fl segs) 98 := by
    rw [hW1, hW0]; exact (h.blk.set 0 _).alloc _
  have t1 : Blk W1 w.heap.size [.map none, .slice none 0 0, .slice none 0 0, .bool false] 91 := by
    have := stNew W0
    rw [z0] at this
    rw [hW1]; exact this
  have k1 : Keep (At gc) w W1 := by rw [hW1, hW0]; exact ((Keep.refl (At gc) _).setAt _ _ _ rfl).alloc _
  have z1 : W1.heap.size = w.heap.size + 1 := by rw [hW1, size1, z0]
  have hmk : ma < w.heap.size := ho.lt
  have H := Lib.hid h
  have HM := Lib.hid hM
  have HO := Lib.hid ho
  have HS := Lib.hid hs
  have HF := Lib.hid hF
  have HFS := Lib.hid hfs
  have HQ := Lib.hid hQ
  have HQN := Lib.hid hQn
  have HMA := Lib.hid hma
  have HMG := Lib.hid hmg
  have HC1 := Lib.hid c1
  have HT1 := Lib.hid t1
  have HK1 := Lib.hid k1
  have HZ1 := Lib.hid z1
  unfold stO at hW1
  rw [hW0] at hW1
  clear h hM ho hs hF hfs hQ hQn hma hmg c1 t1 k1 z1 z0 hW0
  go_enter Tryz.func20, Tryz.ntmps20
  go_upto_region 2 with (fail)
  rw [← hW1]
  clear hW1 x0 f0 hgz
  have y0 : W1.cell? ⟨gc, 0, none⟩ = some (.pointer (some ⟨w.heap.size, 0, none⟩)) := by rw [HC1.out.cell]; rfl
  obtain ⟨gs, hgs⟩ : ∃ g, g = w.heap.size := ⟨_, rfl⟩
  rw [← hgs] at HC1 HT1 y0
  have HGS := Lib.hid hgs
  have hggs : gc ≠ gs := HC1.out.ne HT1.out (by decide)
  clear hgs
  go_upto_region 3 with (go_at_call 35; refine (initWriter gs _ [] W1 HT1.out).mono ?_; rintro e w2 ⟨rfl, mb, sm, t2, k2, l2, l3⟩; have HC2 := Lib.hid (HC1.out.keep k2 (fun e => hggs e)); have HK2 := Lib.hid k2; have HT2 := Lib.hid t2; have HL2 := Lib.hid l2; have HL3 := Lib.hid l3; clear t2 k2 l2 l3 y0; have y0 : w2.cell? ⟨gc, 0, none⟩ = some (.pointer (some ⟨gs, 0, none⟩)) := (by rw [HC2.out.cell]; rfl))
  go_upto_region 5 with (go_at_call 36; refine (lookup gs 91 [] mb _ sm false [] ⟨#[]⟩ w2 HT2.out (by decide) (by decide) (by decide) (by decide) (.inl rfl)).mono ?_; rintro e w3 ⟨ss, rfl, t3, k3, l3⟩; have HT3 := Lib.hid t3; have HK3 := Lib.hid k3; have HL4 := Lib.hid l3; clear t3 k3 l3 y0)
  -- what is known there
  have hs1 := HZ1.out
  have hz2 := HK2.out.size
  have hgsw := HGS.out
  have hmb := HL2.out
  have hmbl : mb < w2.heap.size := HT2.out.map.lt
  have hgsl : gs < w2.heap.size := HT2.out.blk.lt
  have hsm : ∀ b, sm.ownBlock = some b → b < w2.heap.size := fun b hb => HT2.out.lt b (.inr (.inr (.inr hb)))
  have hkN : Keep (fun i => i = gc ∨ w.heap.size ≤ i) w w3 := by
    refine ((HK1.out.mono (fun i _ e => .inl e)).trans HK2.out (fun i hi e => ?_)).trans HK3.out (fun i hi e => ?_)
    · have e : i = gs := e
      omega
    · rcases e with e | e | e
      · omega
      · omega
      · simp [Value.ownBlock] at e
  have hc3 : Blk w3 gc (ccells (.pointer (some ⟨gs, 0, none⟩)) gb fe st al tm fl segs) 98 := HC2.out.keep HK3.out (fun e => by
    rcases e with e | e | e
    · exact hggs e
    · have := H.out.blk.lt; omega
    · simp [Value.ownBlock] at e)
  have ho3 : OwnsSM w3 ma (pairs s) := HO.out.keep hkN (fun e => e.elim (fun e => HO.out.neBlk (by rw [e]; exact H.out.blk)) (by omega))
  have hl4 : ∀ b, ss.ownBlock = some b → w2.heap.size ≤ b := fun b hb => (HL4.out b hb).resolve_left (fun e => by simp [Value.ownBlock] at e)
  have hz3 := HK3.out.size
  have HC3 := Lib.hid hc3
  have HO3 := Lib.hid ho3
  have HKN := Lib.hid hkN
  have HSS := Lib.hid hl4
  have HSM := Lib.hid hsm
  have hww : w.heap.size ≤ w2.heap.size := by omega
  have HWW := Lib.hid hww
  have HMBL : Hid (w.heap.size < mb ∧ mb < w3.heap.size ∧ gs < w3.heap.size ∧ w2.heap.size ≤ w3.heap.size) := Lib.hid (by omega)
  clear hc3 ho3 hkN hl4 hsm hs1 hz2 hgsw hmb hmbl hgsl hz3 hww
  go_upto_region 6 with (at_range; go_must (refine wpSM_range _ rfl _ rfl rfl HO3.out ?_); intro w4 r4 k4 n4)
  have HR4 := Lib.hid r4
  have HK4 := Lib.hid k4
  have HN4 := Lib.hid n4
  clear r4 k4 n4
  obtain ⟨r, hr⟩ : ∃ r, r = w3.heap.size := ⟨_, rfl⟩
  rw [← hr] at HR4 HN4
  have hkp : (pairs s).length ≤ 9 := by have := pairs_len s; have := HS.out.nargs; omega
  rw [← hr]
  have HRE := Lib.hid hr
  clear hr
  go_frame
  go_loopw [8] (fun _ wr => ∃ (ss' : Value) (all seen : List ByteArray), Tab wr gs 91 [] mb ss' sm false all ∧ Blk wr gc (ccells (.pointer (some ⟨gs, 0, none⟩)) gb fe st al tm fl segs) 98 ∧ RangeSM wr ma r (pairs s) seen ∧ SeenT (pairs s) all seen ∧ all.length + 2 * wr.rangeLeft ma r ≤ 1 + 2 * (pairs s).length ∧ Keep (fun i => i = gc ∨ w.heap.size ≤ i) w wr ∧ (∀ b, ss'.ownBlock = some b → w2.heap.size ≤ b)) (fun _ wr => wr.rangeLeft ma r)
  case atStart => exact ⟨ss, _, [], HT3.out.far HK4.out, HC3.out.keep HK4.out (fun h => h), HR4.out, seenT_start _, by have := added_length [] ⟨#[]⟩; simp at this; rw [HN4.out]; omega, HKN.out.trans HK4.out (fun _ _ h => h.elim), HSS.out⟩
  case round =>
    obtain ⟨ss', all, seen, ht, hc, hrg, hsn, hln, hkq, hss⟩ := hrel
    have HT := Lib.hid ht
    have HC := Lib.hid hc
    have HRG := Lib.hid hrg
    have HSN := Lib.hid hsn
    have HKQ := Lib.hid hkq
    have HSS' := Lib.hid hss
    clear ht hc hrg hsn hkq hss
    go_wp2_with (first
      | (at_next; refine wpSM_next _ rfl _ rfl rfl HRG.out ?_ ?_)
      | fail)
    · intro hdone
      have hseg : ∀ ks : List ByteArray, ks.Perm (keysL (pairs s)) → SegT s all ks := fun ks hp => HSN.out.done_all hdone (by omega) hp
      have HSEG := Lib.hid hseg
      have hal : all.length ≤ 30 := by omega
      have ho8 := HRG.out.owns
      have HO8 := Lib.hid ho8
      clear hdone hseg ho8 hln
      obtain ⟨W8, hW8⟩ : ∃ W, W = wr.alloc (.cells #[.slice none 0 0, .int .i64 0] 56) := ⟨_, rfl⟩
      have k8 : Keep Non wr W8 := by rw [hW8]; exact (Keep.refl _ _).alloc _
      have b8 : Blk W8 wr.heap.size [.slice none 0 0, .int .i64 0] 56 := by rw [hW8]; exact Blk.new wr [.slice none 0 0, .int .i64 0] _
      have HK8 := Lib.hid k8
      have HB8 := Lib.hid b8
      go_upto_region 11 with (fail)
      rw [← hW8]
      clear hW8 k8 b8
      obtain ⟨gw, hgw⟩ : ∃ g, g = wr.heap.size := ⟨_, rfl⟩
      rw [← hgw] at HB8 ⊢
      have HGW := Lib.hid hgw
      clear hgw
      obtain ⟨ntm, xtm, rtm⟩ := H.out.tmp
      have htlt : ∀ b, tm.ownBlock = some b → b < w.heap.size := fun b hb => rtm.lt hb
      have hq8 : ∀ i, PTF gc gw gs mb tm (.slice none 0 0) ss' sm i → CTF gc w.heap.size tm i := by
        have a1 := HGS.out
        have a2 := HMBL.out.1
        have a3 := HWW.out
        have a4 := HGW.out
        have a5 := HKQ.out.size
        rintro i ((e | e | e | e) | e | e | e | e)
        · exact .inl e
        · exact .inr (.inl e)
        · exact .inr (.inr (by omega))
        · simp [Value.ownBlock] at e
        · exact .inr (.inr (by omega))
        · exact .inr (.inr (by omega))
        · have := HSS'.out i e; exact .inr (.inr (by omega))
        · have := HL3.out i e; have := HZ1.out; exact .inr (.inr (by omega))
      have hnew : ∀ W : World, w.heap.size ≤ W.heap.size → ∀ i, W.heap.size ≤ i → CTF gc w.heap.size tm i := fun W hW i hi => .inr (.inr (by omega))
      have hma8 : ¬ CTF gc w.heap.size tm ma := by
        rintro (e | e | e)
        · exact HO.out.neBlk (by rw [e]; exact H.out.blk)
        · exact HO.out.neRow rtm e
        · omega
      have hqq : ∀ i, CTF gc w.heap.size tm i → Q i := by
        rintro i (e | e | e)
        · exact HQ.out i (.inl e)
        · exact HQ.out i (.inr (.inl e))
        · exact HQN.out i e
      have hkW : Keep (CTF gc w.heap.size tm) w W8 := (HKQ.out.trans' (HK8.out.mono (fun _ _ h => h.elim))).mono (fun i _ e => e.elim .inl (fun e => .inr (.inr e)))
      have hp8 : PT W8 gc gs gb fe st al tm fl segs gw (.slice none 0 0) [] mb ss' sm false all := by
        refine ⟨⟨HC.out.keep HK8.out (fun h => h), ⟨HB8.out, Row.nil _ _ _, Nat.le_refl _⟩, ⟨ntm, xtm, (rtm.keep HKQ.out (fun b hb e => ?_)).keep HK8.out (fun _ _ h => h)⟩, H.out.shape, fun b hb e => by simp [Value.ownBlock] at e⟩, HT.out.far HK8.out, fun b hb => ⟨fun e => ?_, fun e => by simp [Value.ownBlock] at e⟩⟩
        · rcases e with e | e
          · exact H.out.tmg (by rw [hb, e])
          · have := htlt b hb; omega
        · have := htlt b e; have := HL3.out b hb; have := HZ1.out; omega
      have hin8 : ∀ x ∈ pairs s, place all x.1 < all.length ∧ place all x.2 < all.length := (HSEG.out (keysL (pairs s)) (List.Perm.refl _)).has
      have htl : (tbytes all).length ≤ 1840 := (HSEG.out (keysL (pairs s)) (List.Perm.refl _)).tlen
      have hsz8 : ∀ x ∈ pairs s, x.1.size ≤ 1000 ∧ x.2.size ≤ 1000 := fun x hx => ⟨Nat.le_trans (pairs_short HS.out x hx).1 (by decide), Nat.le_trans (pairs_short HS.out x hx).2 (by decide)⟩
      have HP8 := Lib.hid hp8
      have HQ8 := Lib.hid hq8
      have HNEW := Lib.hid hnew
      have HMA8 := Lib.hid hma8
      have HQQ := Lib.hid hqq
      have HKW := Lib.hid hkW
      have HIN8 := Lib.hid hin8
      have HSZ8 := Lib.hid hsz8
      have HTL := Lib.hid htl
      clear hq8 hnew hma8 hqq hkW hp8 hin8 hsz8 htl rtm htlt
      have hz8 : Hid (w.heap.size ≤ W8.heap.size) := Lib.hid HKW.out.size
      go_upto_region 12 with (go_at_call 39; refine (preaT (CTF gc w.heap.size tm) (pairs s) ma gc gs gb fe st al tm fl segs gw _ mb ss' sm all W8 HP8.out (HO8.out.keep HK8.out (fun h => h)) HQ8.out (HNEW.out W8 hz8.out) HMA8.out hal hkp HIN8.out HSZ8.out (by omega) h2 h3).mono ?_; rintro e w9 ⟨tm9, pv9, ks, rfl, p9, pb9, k9, q9⟩)
      have hseg := HSEG.out ks p9
      have hal22 : (argB (tbytes all).length (ks.map (prOf all (pairs s)))).length ≤ 30 := by
        have e1 := prsB_len (l := ks.map (prOf all (pairs s))) (fun x hx => by
          obtain ⟨k, hk, rfl⟩ := List.mem_map.1 hx
          have h1 := p9.mem_iff.1 hk
          obtain ⟨v, hv⟩ := Option.isSome_iff_exists.1 (getSM_isSome.2 h1)
          have h2 := getSM_mem hv
          have h3 := HIN8.out _ h2
          simp only [prOf, hv, Option.getD_some]
          have h4 := h3.1
          have h5 := h3.2
          simp only at h4 h5
          omega) (by rw [List.length_map, p9.length_eq]; simp [keysL]; omega)
        rw [argB_length, e1, List.length_map, p9.length_eq]
        simp only [keysL, List.length_map]
        omega
      obtain ⟨prs, hprs⟩ : ∃ prs, prs = ks.map (prOf all (pairs s)) := ⟨_, rfl⟩
      rw [← hprs] at pb9 hal22
      obtain ⟨T, hT⟩ : ∃ T, T = (tbytes all).length := ⟨_, rfl⟩
      have htl := HTL.out
      rw [← hT] at pb9 hal22 htl
      obtain ⟨A, hA⟩ : ∃ A, A = (argB T prs).length := ⟨_, rfl⟩
      rw [← hA] at pb9 hal22
      obtain ⟨B9, hB9⟩ : ∃ B9, B9 = shdrB fe st al ++ tbytes all ++ argB T prs := ⟨_, rfl⟩
      have hl9 : B9.length = 16 + T + A := by rw [hB9, List.length_append, List.length_append, shdrB_length, hT, hA, hT]
      have hd9 : B9.drop 16 = tbytes all ++ argB T prs := by
        rw [hB9, List.append_assoc, List.drop_left' (shdrB_length _ _ _)]
      rw [← hB9] at pb9
      have HSG := Lib.hid hseg
      have HPRS := Lib.hid hprs
      have HTT := Lib.hid hT
      have HAA := Lib.hid hA
      have HL9 := Lib.hid hl9
      have HD9 := Lib.hid hd9
      have HP9 := Lib.hid pb9
      have HK9 := Lib.hid (HKW.out.trans' k9)
      have HQ9 := Lib.hid q9
      have hnf : fs.length = s.funs.length := by rw [← HFS.out, List.length_map]
      have HNF := Lib.hid hnf
      have hfl8 : fs.length ≤ 8 := by rw [hnf]; exact HS.out.nfun
      have hb9 : B9.length ≤ 100000 := by omega
      have HX1 : Hid (∀ x ∈ fs, 1 ≤ x.1.cs.length ∧ x.1.cs.length ≤ 12) := Lib.hid (fun x hx => HS.out.fun1 x.1 (by rw [← HFS.out]; exact List.mem_map_of_mem hx))
      have HX2 : Hid (∀ x ∈ fs, x.1.pkg < 4294967296 ∧ x.1.fn < 4294967296 ∧ ∀ v ∈ x.1.cs, v < 4294967296) := Lib.hid (fun x hx => HS.out.fit x.1 (by rw [← HFS.out]; exact List.mem_map_of_mem hx))
      have hT32 : T < 4294967296 := by omega
      have hA32 : A < 4294967296 := by omega
      have hf64 : fe + fs.length < 18446744073709551616 := by omega
      have hz9 : Hid (w.heap.size ≤ w9.heap.size) := Lib.hid HK9.out.size
      clear hseg hprs hT hA hB9 hl9 hd9 pb9 k9 q9 hnf p9
      go_upto_region 15 with (go_at_call 40; refine (writeCountersT packed (CTF gc w.heap.size tm) fs fv gc _ gb fe T A tm9 fl segs gw pv9 B9 w9 HP9.out HFL.out hb9 (by omega) HQ9.out (HNEW.out w9 hz9.out) (fun w' k' => HF.out w' ((HK9.out.trans' k').mono (fun i _ e => HQQ.out i e))) hfl8 HX1.out HX2.out).mono ?_; rintro e w10 ⟨tm10, pv10, rfl, pb10, k10, q10⟩)
      rw [HFS.out] at pb10
      obtain ⟨B10, hB10⟩ : ∃ B10, B10 = B9 ++ fcsB packed s.funs := ⟨_, rfl⟩
      have hfcs := fcsB_len packed s.funs HS.out.fun1 HS.out.fit
      have hl10 : B10.length = 16 + T + A + (fcsB packed s.funs).length := by rw [hB10, List.length_append, HL9.out]
      have hd10 : shdrB (fe + fs.length) T A ++ B10.drop 16 = segB packed (fe + s.funs.length) all prs s.funs := by
        rw [hB10, List.drop_append_of_le_length (by rw [HL9.out]; omega), HD9.out, segB, HNF.out, ← HTT.out, ← HAA.out]
        simp [List.append_assoc]
      rw [← hB10] at pb10
      have hnf8 : s.funs.length ≤ 8 := HS.out.nfun
      have hsl : (segB packed (fe + s.funs.length) all prs s.funs).length ≤ 2600 := by
        rw [segB_length, ← HTT.out, ← HAA.out]; omega
      have hsp : 0 < (segB packed (fe + s.funs.length) all prs s.funs).length := by
        rw [segB_length]; omega
      have HP10 := Lib.hid pb10
      have HD10 := Lib.hid hd10
      have HK10 := Lib.hid (HK9.out.trans' k10)
      have HQ10 := Lib.hid q10
      have hb10 : B10.length ≤ 100000 := by omega
      have h1610 : 16 ≤ B10.length := by omega
      clear pb10 hB10 hl10 hd10 k10 q10 hfcs htl
      go_upto_region 18 with (go_at_call 41; refine (patchT gc _ gb (fe + fs.length) T A tm10 fl segs gw pv10 B10 w10 HP10.out hb10 h1610 hf64 hT32 hA32).mono ?_; rintro e w11 ⟨pv11, rfl, pb11, k11, l11⟩; rw [HD10.out] at pb11; have HP11 := Lib.hid pb11; have HK11 := Lib.hid (HK10.out.trans' (k11.mono (fun i _ e => HQ10.out i (e.elim (fun e => .inr (.inr (.inl e))) (fun e => .inr (.inr (.inr e))))))); clear pb11 k11 l11)
      obtain ⟨SB, hSB⟩ : ∃ SB, SB = segB packed (fe + s.funs.length) all prs s.funs := ⟨_, rfl⟩
      rw [← hSB] at HP11 hsl hsp
      have HSB := Lib.hid hSB
      obtain ⟨pa, pc, rfl⟩ := HP11.out.wr.row.reads.slice
      have HBW11 : Hid (BW w11 gb go bb pend po out) := Lib.hid (H.out.bw.keep HK11.out H.out.apart)
      have HM11 : Hid (Mag w11) := Lib.hid (HM.out.keep HK11.out (fun e => HMG.out (HQQ.out _ e)))
      have hfit : pend.length + SB.length ≤ 4096 := by omega
      clear hSB hb10 h1610 hb9
      go_upto_region 23 with (first
        | (go_at_call 21; refine (wbytes _ gw _ _ HP11.out.wr.blk).mono ?_; rintro e w12 ⟨rfl, rfl⟩)
        | (go_at_call 42; refine (writeBytesT gc _ (fe + fs.length) T A tm10 fl segs gb go bb pend SB po _ out _ HBW11.out HP11.out.blk HP11.out.wr.row.reads hsp hfit).mono ?_; rintro e w13 ⟨rfl, b13, k13⟩))
      obtain ⟨n10, x10, r10⟩ := HP11.out.tmp
      have hap : ∀ b, tm10.ownBlock = some b → ¬ BWF gb go bb po b := fun b hb e => H.out.apart b e (HQ10.out b (.inr (.inl hb)))
      have hgcn : ∀ i, i = gb ∨ i = bb → i ≠ gc := fun i e => H.out.gcb i (e.elim .inl (fun e => .inr (.inr (.inl e))))
      have hb2 : ∀ i, i = gb ∨ i = bb → BWF gb go bb po i := fun i e => e.elim .inl (fun e => .inr (.inr (.inl e)))
      have hqb : ∀ i, BWF gb go bb po i → Q i := fun i e => HQ.out i (.inr (.inr e))
      have hmgb : ¬ BWF gb go bb po 1 := fun e => HMG.out (hqb _ e)
      have hmgc : 1 ≠ gc := fun e => HMG.out (HQ.out _ (.inl e))
      have c13 := HP11.out.blk.keep k13 (fun e => hgcn gc e rfl)
      have m13 := HM11.out.keep k13 (fun e => hmgb (hb2 _ e))
      have r13 := r10.keep k13 (fun b hb e => hap b hb (hb2 b e))
      have HBW13 := Lib.hid b13
      have HC13 := Lib.hid c13
      have HM13 := Lib.hid m13
      have HR13 := Lib.hid r13
      have HK13 : Hid (Keep Q w w13) := Lib.hid ((HK11.out.mono (fun i _ e => HQQ.out i e)).trans' (k13.mono (fun i _ e => hqb i (hb2 i e))))
      have HAP := Lib.hid hap
      have HQB := Lib.hid hqb
      have HB2 := Lib.hid hb2
      have HGN : Hid (∀ i, BWF gb go bb po i → i ≠ gc) := Lib.hid H.out.gcb
      have hfit2 : (pend ++ SB).length + 16 ≤ 4096 := by rw [List.length_append]; omega
      clear b13 c13 m13 r13 r10 k13 hap hqb hb2 hgcn hmgb
      go_upto_region 26 with (go_at_call 43; refine (writeFooterT gc _ (fe + fs.length) T A tm10 fl segs gb go bb (pend ++ SB) po out w13 HBW13.out HC13.out HM13.out hfit2 (by omega) (by simp)).mono ?_; rintro e w14 ⟨rfl, b14, c14, k14⟩)
      have r14 := HR13.out.keep k14 (fun b hb e => by
        rcases e with e | e
        · exact HR13.out.neBlk HC13.out (by decide) (by rw [hb, e])
        · exact HAP.out b hb (HB2.out b e))
      have HBW14 := Lib.hid b14
      have HC14 := Lib.hid c14
      have HR14 := Lib.hid r14
      have HK14 : Hid (Keep Q w w14) := Lib.hid (HK13.out.trans' (k14.mono (fun i _ e => e.elim (fun e => HQ.out i (.inl e)) (fun e => HQB.out i (HB2.out i e)))))
      have y1 : w14.cell? ⟨gc, 1, none⟩ = some (.pointer (some ⟨gb, 0, none⟩)) := by rw [HC14.out.cell]; rfl
      have hfp : 0 < (pend ++ SB ++ footB (segs + 1)).length := by rw [List.length_append, footB_length]; omega
      clear b14 c14 r14 k14
      go_upto_region 29 with (go_at_call 44; refine (bwFlush gb go bb _ po out w14 HBW14.out hfp (by omega)).mono ?_; rintro e w15 ⟨rfl, po15, b15, k15, l15⟩)
      have c15 := HC14.out.keep k15 (fun e => HGN.out gc e rfl)
      have r15 := HR14.out.keep k15 (fun b hb e => HAP.out b hb e)
      have f15 := c15.free 0
      have y15 : w15.cell? ⟨gc, 0, none⟩ = some (.pointer (some ⟨gs, 0, none⟩)) := by rw [c15.cell]; rfl
      have hz15 : w.heap.size ≤ w14.heap.size := HK14.out.size
      have hb15 : ∀ i, BWF gb go bb po15 i → BWF gb go bb po i ∨ w.heap.size ≤ i := fun i hi => by
        rcases hi with e | e | e | e
        · exact .inl (.inl e)
        · exact .inl (.inr (.inl e))
        · exact .inl (.inr (.inr (.inl e)))
        · rcases l15 i e with e | e
          · exact .inl (.inr (.inr (.inr e)))
          · exact .inr (by omega)
      have hgc15 : ∀ i, BWF gb go bb po15 i → i ≠ gc := by
        obtain ⟨zs, hzb, _⟩ := b15.buf
        rintro i (rfl | rfl | rfl | e) rfl
        · exact c15.ne b15.blk (by decide) rfl
        · exact c15.ne b15.wr.blk (by decide) rfl
        · exact c15.ne hzb (by decide) rfl
        · exact b15.wr.row.neBlk c15 (by decide) e
      have hsep15 : ∀ b, tm10.ownBlock = some b → b ≠ bb ∧ po15.ownBlock ≠ some b := fun b hb => by
        refine ⟨fun e => HAP.out b hb (.inr (.inr (.inl e))), fun e => ?_⟩
        rcases l15 b e with e | e
        · exact HAP.out b hb (.inr (.inr (.inr e)))
        · have := HR14.out.lt hb; omega
      have hgz15 := c15.lt
      have HC15 := Lib.hid c15
      have HB15 := Lib.hid b15
      have HR15 := Lib.hid r15
      have HKQ15 := Lib.hid (HK14.out.trans' (k15.mono (fun i _ e => HQB.out i e)))
      have HX15 := Lib.hid hb15
      have HG15 := Lib.hid hgc15
      have HS15 := Lib.hid hsep15
      clear c15 b15 r15 k15 l15 hb15 hgc15 hsep15 y1 hfp
      go_wp2_with fail
      go_ret
      have hbx := HB15.out.keep (Keep.one w15 gc 0 (.pointer none)) (fun i hi e => HG15.out i hi e)
      have he : pend ++ segF packed (segs + 1) (fe + s.funs.length) s all ks = pend ++ SB ++ footB (segs + 1) := by
        rw [segF, HSB.out, HPRS.out, List.append_assoc]
      rw [← he] at hbx
      refine ⟨all, ks, T, A, tm10, po15, rfl, HSG.out, hT32, hA32, ⟨?_, hbx, ⟨n10, x10, HR15.out.keep (Keep.one w15 gc 0 _) (fun b hb e => HR15.out.neBlk HC15.out (by decide) (by rw [hb]; exact congrArg some e))⟩, HP11.out.shape, HS15.out⟩, ?_, ?_⟩
      · rw [← HNF.out]
        exact HC15.out.set 0 (.pointer none)
      · exact HKQ15.out.setAt gc 0 _ (HQ.out gc (.inl rfl))
      · rintro i (e | e | e)
        · exact HQ.out i (.inl e)
        · exact HQQ.out i (HQ10.out i (.inr (.inl e)))
        · rcases HX15.out i e with e | e
          · exact HQB.out i e
          · exact HQN.out i e
    · intro k v w5 hin hns hrg5 hlt5 k5 hen
      have HRG5 := Lib.hid hrg5
      have HK5 := Lib.hid k5
      have HIN := Lib.hid hin
      have hrb : ∀ i, TabF gs mb ss' sm i → i ≠ r := by
        rintro i (rfl | rfl | e | e) rfl
        · exact HRG.out.neBlk HT.out.blk
        · exact HRG.out.neTab HT.out.map
        · exact HRG.out.neRow HT.out.strs e
        · obtain ⟨n, bs, r0, _⟩ := HT.out.tmp
          exact HRG.out.neRow r0 e
      have HT5 := Lib.hid (HT.out.keep k5 (fun i hi e => hrb i hi e))
      have hrc : gc ≠ r := fun e => HRG.out.neBlk (by rw [← e]; exact HC.out)
      have HC5 := Lib.hid (HC.out.keep k5 (fun e => hrc e))
      have hsk := pairs_short HS.out _ hin
      have hl30 : all.length ≤ 30 := by omega
      have HSK := Lib.hid hsk
      clear hrg5 k5 hin hrb hns
      have y0 : w5.cell? ⟨gc, 0, none⟩ = some (.pointer (some ⟨gs, 0, none⟩)) := by rw [HC5.out.cell]; rfl
      go_upto_region 9 with (go_at_call 36; refine (lookup gs 91 [] mb ss' sm false all k w5 HT5.out (by decide) (by decide) (by omega) (by have := HSK.out.1; simp only at this; omega) (.inl rfl)).mono ?_; rintro e w6 ⟨s6, rfl, t6, k6, l6⟩; have HT6 := Lib.hid t6; have HK6 := Lib.hid k6; have HL6 := Lib.hid l6; clear t6 k6 l6)
      have hmm : ma ≠ mb := by have := HMBL.out.1; omega
      obtain ⟨c6, r6, q6⟩ := lookKeep HT5.out HC5.out HRG5.out hmm HK6.out
      have HC6 := Lib.hid c6
      have HRG6 := Lib.hid r6
      have HQ6 := Lib.hid q6
      have hl32 : (added all k).length ≤ 31 := by have := (added_length all k).2; omega
      clear c6 r6 q6 y0
      have y0 : w6.cell? ⟨gc, 0, none⟩ = some (.pointer (some ⟨gs, 0, none⟩)) := by rw [HC6.out.cell]; rfl
      go_wp2_with (first | (go_at_call 36; go_loud (refine (lookup gs 91 [] mb s6 sm false (added all k) v w6 HT6.out (by decide) (by decide) (by omega) (Nat.le_trans HSK.out.2 (by decide)) (.inl rfl)).mono ?_); rintro e w7 ⟨s7, rfl, t7, k7, l7⟩))
      obtain ⟨c7, r7, q7⟩ := lookKeep HT6.out HC6.out HRG6.out hmm k7
      go_roundw
      case measure => rw [q7, HQ6.out]; exact hlt5
      case rel =>
        have hw5 : w2.heap.size ≤ w5.heap.size := by have a1 := HRG5.out.lt; have a2 := HRE.out; have a3 := HMBL.out.2.2.2; omega
        have hw6 := HK6.out.size
        have hww := HWW.out
        have hkk : Keep (fun i => i = gc ∨ w.heap.size ≤ i) w5 w7 := (HK6.out.mono (fun i _ e => ?_)).trans' (k7.mono (fun i _ e => ?_))
        · refine ⟨s7, _, k :: seen, t7, c7, r7, HSN.out.step HO.out.nodup (pairs_short HS.out) HIN.out, ?_, (HKQ.out.trans' (HK5.out.mono (fun i _ e => ?_))).trans' hkk, fun b hb => ?_⟩
          · have a1 := (added_length all k).2
            have a2 := (added_length (added all k) v).2
            rw [q7, HQ6.out]
            omega
          · have e : i = r := e
            have := HRE.out
            have := HKN.out.size
            exact .inr (by omega)
          · rcases l7 b hb with e | e
            · rcases HL6.out b e with e | e
              · exact HSS'.out b e
              · omega
            · omega
        · rcases e with e | e | e
          · have := HGS.out; exact .inr (by omega)
          · have := HMBL.out.1; exact .inr (by omega)
          · have := HSS'.out i e; have := HWW.out; exact .inr (by omega)
        · rcases e with e | e | e
          · have := HGS.out; exact .inr (by omega)
          · have := HMBL.out.1; exact .inr (by omega)
          · rcases HL6.out i e with e | e
            · have := HSS'.out i e; have := HWW.out; exact .inr (by omega)
            · exact .inr (by omega)
end Go.Proofs.YtcpegoofbenoiaaGreatDoor
