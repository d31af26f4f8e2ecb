/-
  CONTRACT: what a run says of itself is read.
-/
import Derived.Test.YtcpegoofbenoiaaGreatDoorZGRc5
namespace Go.Proofs.YtcpegoofbenoiaaGreatDoor
open Go.RowKit
open Go.ChangeShapes Go.WideShapes Go.ChangeAt Go.Deep
open Plain (M64)

/-- The reader's cells behind the arguments. -/
structure ArgC (s : Sg) (n0 : Nat) (cs cs' : List Value) (w : World) : Prop where
  same : ∀ i, i = 0 ∨ 5 ≤ i → cs'[i]? = cs[i]?
  args : if s.args = [] then cs'[2]? = cs[2]? else ∃ v, cs'[2]? = some v ∧ Row w 9 1 v s.args.length (Ts s.args) ∧ ∀ b, v.ownBlock = some b → n0 ≤ b
  arch : cs'[3]? = if s.arch.size = 0 then cs[3]? else some (.string s.arch)
  os : cs'[4]? = if s.os.size = 0 then cs[4]? else some (.string s.os)
theorem argC_of {s : Sg} {n0 gd : Nat} {cs cs2 cs3 cs4 : List Value} {m : Value} {w2 w : World} (hl2 : cs2.length = 56) (h2 : ∀ i, i ≠ 2 → cs2[i]? = (cs.set 1 m)[i]?)
    (ha : if s.args = [] then cs2[2]? = cs[2]? else ∃ v, cs2[2]? = some v ∧ Row w2 9 1 v s.args.length (Ts s.args) ∧ ∀ b, v.ownBlock = some b → n0 ≤ b)
    (h3 : cs3 = if s.os.size = 0 then cs2 else cs2.set 4 (.string s.os)) (h4 : cs4 = if s.arch.size = 0 then cs3 else cs3.set 3 (.string s.arch)) (k : Keep (At gd) w2 w) (hgd : gd < n0) : ArgC s n0 cs cs4 w := by
  have e3 : ∀ i, i ≠ 4 → cs3[i]? = cs2[i]? := fun i hi => by
    rw [h3]; split
    · rfl
    · rw [List.getElem?_set_ne (Ne.symm hi)]
  have e4 : ∀ i, i ≠ 3 → cs4[i]? = cs3[i]? := fun i hi => by
    rw [h4]; split
    · rfl
    · rw [List.getElem?_set_ne (Ne.symm hi)]
  have e2 : ∀ i, i ≠ 1 → i ≠ 2 → cs2[i]? = cs[i]? := fun i h1 hi => by rw [h2 i hi, List.getElem?_set_ne (Ne.symm h1)]
  have l3 : cs3.length = 56 := by rw [h3]; split <;> simp [hl2]
  refine ⟨fun i hi => ?_, ?_, ?_, ?_⟩
  · rw [e4 i (by omega), e3 i (by omega), e2 i (by omega) (by omega)]
  · split at ha
    · rename_i hn
      rw [if_pos hn, e4 2 (by decide), e3 2 (by decide), ha]
    · rename_i hn
      obtain ⟨v, hv, hr, ho⟩ := ha
      rw [if_neg hn]
      exact ⟨v, by rw [e4 2 (by decide), e3 2 (by decide), hv], hr.keep k (fun b hb e => by have := ho b hb; have e : b = gd := e; omega), ho⟩
  · rw [h4]
    split
    · rw [e3 3 (by decide), e2 3 (by decide) (by decide)]
    · rw [List.getElem?_set_self (by omega)]
  · rw [e4 4 (by decide), h3]
    split
    · rw [e2 4 (by decide) (by decide)]
    · rw [List.getElem?_set_self (by omega)]
def ArgP (s : Sg) (gd g bb c p : Nat) (cs : List Value) (bs : List UInt8) (w : World) (e : Ending) (w' : World) : Prop :=
  e = .returned .nilIface ∧ ∃ cs', DR w' gd g bb c p cs' bs ∧ ArgC s w.heap.size cs cs' w' ∧ Keep (fun i => i = g ∨ i = gd) w w'
set_option maxRecDepth 100000 in
set_option maxHeartbeats 16000000 in
theorem readArgsT (s : Sg) (n0 gd g bb c p gt gr bt ct pr : Nat) (cs : List Value) (bs r : List UInt8) (v : Value) (all ks : List ByteArray) (w : World) (h : DR w gd g bb c p cs bs) (hT : RT w gt gr bt ct pr (tbytes all) v all) (h0 : cs[0]? = some (.pointer (some ⟨gt, 0, none⟩)))
    (h50 : cs[50]? = some (.int .u32 (argB (tbytes all).length (ks.map (prOf all (pairs s)))).length)) (hbs : bs.drop p = argB (tbytes all).length (ks.map (prOf all (pairs s))) ++ r) (hl : bs.length ≤ 1000000) (hS : SegT s all ks) (hs : s.ok) (hgn : g < n0) (hdn : gd < n0) (l1 : n0 ≤ gt) (l2 : n0 ≤ gr) (l3 : n0 ≤ bt) :
    Calls Tryz.prog 80 #[.pointer (some ⟨gd, 0, none⟩)] w (ArgP s gd g bb c (p + (argB (tbytes all).length (ks.map (prOf all (pairs s)))).length) cs bs w) := by
  obtain ⟨prs, hprs⟩ : ∃ x, x = ks.map (prOf all (pairs s)) := ⟨_, rfl⟩
  obtain ⟨T, hTT⟩ : ∃ x, x = tbytes all := ⟨_, rfl⟩
  rw [← hprs, ← hTT] at h50 hbs ⊢
  rw [← hTT] at hT
  have hpl : prs.length ≤ 9 := by
    have := (hS.alen hs).2
    rw [hprs, List.length_map, hS.klen]; exact this
  have hprl : (prsB prs).length = 1 + 2 * prs.length := by rw [hprs]; exact prsB_len (fun x hx => by have := hS.prs x hx; omega) (by rw [← hprs]; omega)
  obtain ⟨A, hA⟩ : ∃ x, x = argB T.length prs := ⟨_, rfl⟩
  have hAl : A.length ≤ 100 := by
    rw [hA, argB_length]; omega
  have hA0 : 0 < A.length := by rw [hA, argB_length]; omega
  rw [← hA] at h50 hbs ⊢
  have hfit : p + A.length ≤ bs.length := by
    have e1 := congrArg List.length hbs
    simp at e1; omega
  have htp : (bs.drop p).take A.length = A := by rw [hbs, List.take_left]
  have hn0 : n0 ≤ w.heap.size := by have := hT.blk.lt; omega
  have hbl : bb < w.heap.size := h.rd.data.blk (by omega) (by decide) bb rfl
  have HPRS := Lib.hid hprs
  have HA := Lib.hid hA
  have HTP := Lib.hid htp
  have HT := Lib.hid hT
  have HS := Lib.hid hS
  have HSO := Lib.hid hs
  have H50 := Lib.hid h50
  have H0 := Lib.hid h0
  have HPL := Lib.hid hprl
  obtain ⟨al, hal⟩ : ∃ n, n = A.length := ⟨_, rfl⟩
  have HAL := Lib.hid hal
  rw [← hal] at HTP H50 hfit hAl hA0 ⊢
  clear hprs hTT hA htp hT hbs hS hs h50 h0 hprl hal
  obtain ⟨W1, hW1⟩ : ∃ W, W = w.alloc (.cells #[.pointer (some ⟨gd, 0, none⟩)] 68) := ⟨_, rfl⟩
  have hbp : Blk W1 w.heap.size [.pointer (some ⟨gd, 0, none⟩)] 68 := by rw [hW1]; exact Blk.new w [.pointer (some ⟨gd, 0, none⟩)] _
  have hk1 : Keep Non w W1 := by rw [hW1]; exact (Keep.refl _ _).alloc _
  have HZ1 : Hid (W1.heap.size = w.heap.size + 1) := Lib.hid (by rw [hW1]; simp)
  have HD1 := Lib.hid (h.far hk1)
  have HK1 := Lib.hid hk1
  have HBP := Lib.hid hbp
  have H := Lib.hid h
  have HLC := Lib.hid h.len
  clear h hk1 hbp
  have hna := aheadRead
  have hme := methodRead
  have hmk : ∀ W, (Instr.makeSlice 33 (.int .u32 al) (.int .u32 al)).run Tryz.prog W = _ := fun W => run_make_row' (P := Tryz.prog) 33 5 (.int .u8 0) 1 Tryz.underlying33 (by kernel_rfl) rfl .u32 .u32 al (by omega) (by omega) W
  have x50 : W1.cell? ⟨gd, 50, none⟩ = some (.int .u32 al) := cell_of HD1.out.blk H50.out
  have hyp : W1.cell? ⟨w.heap.size, 0, none⟩ = some (.pointer (some ⟨gd, 0, none⟩)) := by rw [HBP.out.cell]; rfl
  go_enter Tryz.func80, Tryz.ntmps80
  go_upto_region 1 with (fail)
  rw [← hW1]
  clear hW1
  obtain ⟨bp, hbp⟩ : ∃ b, b = w.heap.size := ⟨_, rfl⟩
  rw [← hbp] at HBP hyp ⊢
  have HBPE := Lib.hid hbp
  clear hbp
  obtain ⟨W2, hW2⟩ : ∃ W, W = W1.alloc (.cells (madeCells #[.int .u8 0] al) 5) := ⟨_, rfl⟩
  have hb2 : Blk W2 W1.heap.size (B (List.replicate al 0)) 5 := by rw [hW2, made_eq]; exact Blk.new W1 (B (List.replicate al 0)) _
  have hk2 : Keep Non W1 W2 := by rw [hW2]; exact (Keep.refl _ _).alloc _
  go_upto_region 2 with (fail)
  rw [← hW2]
  clear hW2 x50 hyp
  have HB2 := Lib.hid hb2
  have HD2 := Lib.hid (HD1.out.far hk2)
  have HBP2 := Lib.hid (HBP.out.keep hk2 (fun h => h))
  have HK2 := Lib.hid (HK1.out.trans' hk2)
  clear hb2 hk2 HD1 HBP HK1
  obtain ⟨ba, hba⟩ : ∃ b, b = W1.heap.size := ⟨_, rfl⟩
  rw [← hba] at HB2 ⊢
  have HBAE : Hid (ba = w.heap.size + 1) := Lib.hid (by have := HZ1.out; omega)
  clear hba
  have hgl2 : g < n0 := hgn
  have yp : W2.cell? ⟨bp, 0, none⟩ = some (.pointer (some ⟨gd, 0, none⟩)) := by rw [HBP2.out.cell]; rfl
  have x5 := HD2.out.x5
  go_upto_region 5 with (go_at_call 158; refine (readM g bb c p ba al bs (B (List.replicate al 0)) 5 W2 HD2.out.rd HB2.out (by rw [B_length, List.length_replicate]) hl hfit (by have := HBAE.out; omega) (by have := HBAE.out; omega)).mono ?_; rintro e w3 ⟨rfl, r3, b3, k3⟩)
  rw [HTP.out] at b3
  have hD3 := HD2.out.move2 k3 (fun e => by have := HBAE.out; rcases e with e | e; exact HD2.out.ne e; omega) r3
  have hBP3 := HBP2.out.keep k3 (fun e => by have := HBPE.out; have := HBAE.out; rcases e with e | e <;> omega)
  have hK3 : Keep (fun i => i = g ∨ i = gd) w w3 := (HK2.out.mono (fun _ _ h => h.elim)).trans k3 (fun i hi e => by have := HBAE.out; rcases e with e | e; exact .inl e; omega)
  have HD3 := Lib.hid hD3
  have HBP3 := Lib.hid hBP3
  have HK3 := Lib.hid hK3
  have HB3 := Lib.hid b3
  have yp : w3.cell? ⟨bp, 0, none⟩ = some (.pointer (some ⟨gd, 0, none⟩)) := by rw [hBP3.cell]; rfl
  have x50 : w3.cell? ⟨gd, 50, none⟩ = some (.int .u32 al) := cell_of hD3.blk H50.out
  have hwr : IntKind.i64.wrap (al : Int) = (al : Int) := IntWalk.i64_in _ (by omega)
  clear x5 r3 b3 k3 hD3 hBP3 hK3 HD2 HBP2 HK2 HB2
  go_upto_region 8 with (go_at_call 23; refine (newReader (some ⟨ba, 0, none⟩) al al w3).mono ?_; rintro e w4 ⟨rfl, b4, k4⟩)
  obtain ⟨W5, hW5⟩ : ∃ W, W = w4.alloc (.cells #[.pointer (some ⟨w3.heap.size, 0, none⟩)] 71) := ⟨_, rfl⟩
  have hb5 : Blk W5 w4.heap.size [.pointer (some ⟨w3.heap.size, 0, none⟩)] 71 := by rw [hW5]; exact Blk.new w4 [.pointer (some ⟨w3.heap.size, 0, none⟩)] _
  have hk5 : Keep Non w4 W5 := by rw [hW5]; exact (Keep.refl _ _).alloc _
  rw [← hW5]
  clear hW5
  obtain ⟨b6, hb6⟩ : ∃ b, b = w4.heap.size := ⟨_, rfl⟩
  rw [← hb6] at hb5 ⊢
  obtain ⟨ga, hga⟩ : ∃ b, b = w3.heap.size := ⟨_, rfl⟩
  rw [← hga] at hb5 b4
  have hz3 := HB3.out.lt
  have hz4 := b4.lt
  have hz5 := hb5.lt
  have hk35 : Keep Non w3 W5 := k4.trans' hk5
  have hK5 : Keep (fun i => i = g ∨ i = gd) w W5 := HK3.out.trans' (hk35.mono (fun _ _ h => h.elim))
  have hRA : RR W5 ga ba al 0 A := ⟨by rw [← HAL.out]; exact b4.keep hk5 (fun h => h), by
    have := subR (HB3.out.keep hk35 (fun h => h)) HAL.out.symm 0
    rw [Nat.sub_zero, List.drop_zero] at this
    rw [← HAL.out]
    exact this, by rw [← HAL.out]; exact Nat.le_refl _, by omega⟩
  have hT5 : RT W5 gt gr bt ct pr T v all := HT.out.keepS hK5 (fun e => by rcases e with e | e <;> omega) (fun e => by rcases e with e | e <;> omega) (fun e => by rcases e with e | e <;> omega) (fun b hb e => by
    rcases e with e | e
    · exact HT.out.row.neBlk H.out.rd.blk (by decide) (by rw [hb, e])
    · exact HT.out.row.neBlk H.out.blk (by decide) (by rw [hb, e]))
  have hAd : A.drop 0 = uleb prs.length ++ (prs.flatMap prB ++ padB (16 + T.length + (prsB prs).length)) := by
    rw [List.drop_zero, HA.out, argB]
    generalize padB (16 + T.length + (prsB prs).length) = z
    rw [prsB, List.append_assoc]
  have HAD := Lib.hid hAd
  have HD5 := Lib.hid (HD3.out.far hk35)
  have HBP5 := Lib.hid (HBP3.out.keep hk35 (fun h => h))
  have HB6 := Lib.hid hb5
  have HRA := Lib.hid hRA
  have HT5 := Lib.hid hT5
  have HK5 := Lib.hid hK5
  have HN1 : Hid (w.heap.size = bp ∧ bp < ba ∧ ba < ga ∧ ga < b6 ∧ b6 < W5.heap.size) := Lib.hid (by have := HBPE.out; have := HBAE.out; omega)
  have y6 : W5.cell? ⟨b6, 0, none⟩ = some (.pointer (some ⟨ga, 0, none⟩)) := by rw [hb5.cell]; rfl
  clear hb6 hga hz3 hz4 hz5 hk35 hK5 hRA hT5 hAd b4 k4 hb5 hk5 HB3 HD3 HBP3 HK3 HBPE HBAE HZ1 x50 hna hme hmk
  go_upto_region 10 with (go_at_call 93; go_must (refine (readU ga ba al 0 A _ prs.length _ HRA.out (by unfold M64; omega) (by have := HAL.out; omega) HAD.out).mono ?_); rintro e w6 ⟨rfl, r6, k6⟩)
  rw [Nat.zero_add] at r6
  have hgne : gd ≠ ga ∧ g ≠ ga ∧ gt ≠ ga ∧ gr ≠ ga ∧ bt ≠ ga := by
    have a1 := HN1.out
    have a2 := HT.out.blk.lt
    have a3 := HT.out.rd.blk.lt
    have a4 := HT.out.lt
    omega
  have HGN := Lib.hid hgne
  have HD6 := Lib.hid (HD5.out.keep k6 (fun e => hgne.1 e) (fun e => hgne.2.1 e) (fun e => by have e : bb = ga := e; have := HN1.out; omega))
  have HBP6 := Lib.hid (HBP5.out.keep k6 (fun e => by have e : bp = ga := e; have := HN1.out; omega))
  have HB6' := Lib.hid (HB6.out.keep k6 (fun e => by have e : b6 = ga := e; have := HN1.out; omega))
  have HT6 := Lib.hid (HT5.out.keepS k6 (fun e => hgne.2.2.1 e) (fun e => hgne.2.2.2.1 e) (fun e => hgne.2.2.2.2 e) (fun b hb e => by have e : b = ga := e; exact HT5.out.row.neBlk HRA.out.blk (by decide) (by rw [hb, e])))
  have HK6 : Hid (Keep (fun i => i = g ∨ i = gd) w w6) := Lib.hid (HK5.out.trans k6 (fun i hi e => by have e : i = ga := e; have := HN1.out; omega))
  have HN6 : Hid (b6 < w6.heap.size) := Lib.hid (by have := HN1.out; have := k6.size; omega)
  have HR6 := Lib.hid r6
  have yp : w6.cell? ⟨bp, 0, none⟩ = some (.pointer (some ⟨gd, 0, none⟩)) := by rw [HBP6.out.cell]; rfl
  obtain ⟨v1, hv1⟩ := HD6.out.at 1 (by decide)
  have f1 := HD6.out.blk.free 1
  have hv1' : ((w6.alloc (.map #[] 0)).drew).cell? ⟨gd, 1, none⟩ = some v1 := (((Keep.refl Non w6).alloc _).drew).cell hv1 (fun h => h)
  have f1' := (HD6.out.blk.alloc (.map #[] 0)).drew.free 1
  have hmm := makeMapHint prs.length
  have hwp : IntKind.i64.wrap (prs.length : Int) = (prs.length : Int) := IntWalk.i64_in _ (by omega)
  clear hgne r6 k6 y6 HRA HT5 HB6 HBP5 HD5 HK5 HAD
  have HNP : Hid (¬ At gd bp) := Lib.hid (fun e => by have e : bp = gd := e; have := HN1.out; omega)
  go_cut [] from 58 to 63 (fun wx => ∃ ma, DR wx gd g bb c (p + al) (cs.set 1 (.map (some ma))) bs ∧ OwnsSM wx ma [] ∧ Keep (At gd) w6 wx ∧ w6.heap.size ≤ ma)
  case first =>
    go_region_held3 (fun w' => w'.cell? ⟨bp, 0, none⟩ = some (.pointer (some ⟨gd, 0, none⟩)))
      (first
        | exact (Keep.refl Non w6).drew.cell yp (fun h => h)
        | exact (((Keep.refl Non w6).alloc _).drew).cell yp (fun h => h)
        | exact ((((Keep.refl (At gd) w6).alloc _).setAt _ _ _ (atSelf _)).drew).cell yp HNP.out)
      (fail)
    all_goals
      go_wp2_with fail
      go_meet
      case rel =>
        exact ⟨w6.heap.size, ((HD6.out.far ((Keep.refl Non w6).alloc _)).set 1 _ (by decide)).drew, ((OwnsSM.new w6).keep (Keep.one _ gd 1 _) (fun e => by have e : w6.heap.size = gd := e; have := HD6.out.blk.lt; omega)).keep (Keep.refl Non _).drew (fun h => h), (((Keep.refl (At gd) w6).alloc _).setAt _ _ _ (atSelf _)).drew, Nat.le_refl _⟩
  case rest =>
    obtain ⟨ma, hD7, hM7, hK7, hma⟩ := hcut
    have hn67 := hK7.size
    have HD7 := Lib.hid hD7
    have HM7 := Lib.hid hM7
    have HBP7 := Lib.hid (HBP6.out.keep hK7 HNP.out)
    have HB67 := Lib.hid (HB6'.out.keep hK7 (fun e => by have e : b6 = gd := e; have := HN1.out; omega))
    have HR7 := Lib.hid (HR6.out.keep hK7 (fun e => HGN.out.1 (Eq.symm e)) (fun e => by have e : ba = gd := e; have := HN1.out; omega))
    have HT7 := Lib.hid (HT6.out.keepS hK7 (fun e => by have e : gt = gd := e; omega) (fun e => by have e : gr = gd := e; omega) (fun e => by have e : bt = gd := e; omega) (fun b hb e => by have e : b = gd := e; exact HT6.out.row.neBlk HD6.out.blk (by decide) (by rw [hb, e])))
    have HK7 : Hid (Keep (fun i => i = g ∨ i = gd) w wc) := Lib.hid (HK6.out.trans hK7 (fun i hi e => .inr e))
    have HMA : Hid (b6 < ma) := Lib.hid (by have := HN6.out; omega)
    have HP9 := Lib.hid hpl
    clear hD7 hM7 hK7 hma hn67 hv1 f1 hv1' f1' yp HD6 HBP6 HB6' HR6 HT6 HK6 hmm hwp
    go_wp2_with fail
    go_loopw [9] (fun i wr => ∃ k : Nat, k ≤ prs.length ∧ i = .int .u64 k ∧ RR wr ga ba al (apos prs k) A ∧ OwnsSM wr ma ((ks.take k).map (kvOf (pairs s))) ∧ Keep (fun i => i = ga ∨ i = ma) wc wr) (fun i _ => prs.length - (intOf i).toNat)
    case atStart => exact ⟨0, by omega, rfl, by rw [apos_zero]; exact HR7.out, HM7.out, Keep.refl _ _⟩
    case round =>
      obtain ⟨k, hk, rfl, hr, hm, hkp⟩ := hrel
      have HRk := Lib.hid hr
      have HMk := Lib.hid hm
      have HKk := Lib.hid hkp
      clear hr hm hkp
      by_cases hlt : k < prs.length
      · have hkl : k < ks.length := by have := congrArg List.length HPRS.out; simp at this; omega
        have hpk : prs[k] = prOf all (pairs s) ks[k] := by simp [HPRS.out]
        have hin : ks[k] ∈ keysL (pairs s) := HS.out.perm.mem_iff.1 (List.getElem_mem hkl)
        obtain ⟨va, hva⟩ := Option.isSome_iff_exists.1 (getSM_isSome.2 hin)
        have hmem := getSM_mem hva
        have hsz := pairs_short HSO.out _ hmem
        have hp1 : all[prs[k].1]? = some ks[k] := by rw [hpk]; exact getD_place ((HS.out.mem _).2 (.inr ⟨_, hmem, .inl rfl⟩))
        have hp2 : all[prs[k].2]? = some va := by
          rw [hpk]
          simp only [prOf, hva, Option.getD_some]
          exact getD_place ((HS.out.mem _).2 (.inr ⟨_, hmem, .inr rfl⟩))
        have hd1 := apos_drop T.length hlt
        have hsu := apos_succ hlt
        rw [← HA.out] at hd1
        have hd2 : A.drop (apos prs k + (uleb prs[k].1).length) = uleb prs[k].2 ++ ((prs.drop (k + 1)).flatMap prB ++ padB (16 + T.length + (prsB prs).length)) := by
          rw [← List.drop_drop, hd1, List.drop_left]
        have hnew : ks[k] ∉ keysL ((ks.take k).map (kvOf (pairs s))) := by
          rw [keysL_kv]
          intro e
          have hnd : ks.Nodup := HS.out.perm.nodup_iff.2 (pairs_nodup HSO.out.nargs)
          obtain ⟨j, hj, he⟩ := List.getElem_of_mem e
          have hj2 : j < k := by have := hj; simp at this; omega
          rw [List.getElem_take] at he
          exact List.pairwise_iff_getElem.1 hnd j k (by omega) hkl hj2 he
        have hnone := getSM_none hnew
        have hsn : (ks.take (k + 1)).map (kvOf (pairs s)) = (ks.take k).map (kvOf (pairs s)) ++ [(ks[k], va)] := by
          rw [List.take_succ_eq_append_getElem hkl, List.map_append]
          simp [kvOf, hva]
        have hln : ((ks.take k).map (kvOf (pairs s))).length ≤ 1000 := by
          have := congrArg List.length HPRS.out
          simp at this ⊢; omega
        have hk1 : ks[k].size ≤ maxLen := by have := hsz.1; simp only at this; unfold maxLen; omega
        have hv1 : va.size ≤ maxLen := by have := hsz.2; simp only at this; unfold maxLen; omega
        have HP1 := Lib.hid hp1
        have HP2 := Lib.hid hp2
        have HDR1 := Lib.hid hd1
        have HDR2 := Lib.hid hd2
        have HSU := Lib.hid hsu
        have HNEW := Lib.hid hnew
        have HNONE := Lib.hid hnone
        have HSN := Lib.hid hsn
        have HLN := Lib.hid hln
        clear hp1 hp2 hd1 hd2 hsu hnew hnone hsn hln hsz hmem hva hin hpk
        generalize ks[k] = ky at *
        generalize prs[k].1 = q1 at *
        generalize prs[k].2 = q2 at *
        have hnum : gd ≠ ga ∧ gd ≠ ma ∧ g ≠ ga ∧ g ≠ ma ∧ bb ≠ ga ∧ bb ≠ ma ∧ bp ≠ ga ∧ bp ≠ ma ∧ b6 ≠ ga ∧ b6 ≠ ma ∧ ga ≠ ma ∧ ba ≠ ma := by
          have a1 := HN1.out
          have a2 := HMA.out
          omega
        have HNUM := Lib.hid hnum
        have hTn : ∀ i, gt = i ∨ gr = i ∨ bt = i ∨ v.ownBlock = some i → i ≠ ga ∧ i ≠ ma := by
          have a1 := HN1.out
          have a2 := HMA.out
          have a3 := HT.out.blk.lt
          have a4 := HT.out.rd.blk.lt
          have a5 := HT.out.lt
          intro i hi
          have a6 : i < w.heap.size := by
            rcases hi with hi | hi | hi | hi
            · omega
            · omega
            · omega
            · exact HT.out.row.lt hi
          omega
        have HTN := Lib.hid hTn
        have HDk := Lib.hid (HD7.out.keep HKk.out (fun e => by rcases e with e | e; exact hnum.1 e; exact hnum.2.1 e) (fun e => by rcases e with e | e; exact hnum.2.2.1 e; exact hnum.2.2.2.1 e) (fun e => by rcases e with e | e; exact hnum.2.2.2.2.1 e; exact hnum.2.2.2.2.2.1 e))
        have HBPk := Lib.hid (HBP7.out.keep HKk.out (fun e => by rcases e with e | e; exact hnum.2.2.2.2.2.2.1 e; exact hnum.2.2.2.2.2.2.2.1 e))
        have HB6k := Lib.hid (HB67.out.keep HKk.out (fun e => by rcases e with e | e; exact hnum.2.2.2.2.2.2.2.2.1 e; exact hnum.2.2.2.2.2.2.2.2.2.1 e))
        have HTk := Lib.hid (HT7.out.keepS HKk.out (fun e => e.elim (hTn _ (.inl rfl)).1 (hTn _ (.inl rfl)).2) (fun e => e.elim (hTn _ (.inr (.inl rfl))).1 (hTn _ (.inr (.inl rfl))).2) (fun e => e.elim (hTn _ (.inr (.inr (.inl rfl)))).1 (hTn _ (.inr (.inr (.inl rfl)))).2) (fun b hb e => e.elim (hTn _ (.inr (.inr (.inr hb)))).1 (hTn _ (.inr (.inr (.inr hb)))).2))
        have HX0 : Hid ((cs.set 1 (.map (some ma)))[0]? = some (.pointer (some ⟨gt, 0, none⟩))) := Lib.hid (by simpa using H0.out)
        clear hnum hTn
        go_upto_region 17 with (go_at_call 92; refine (sgetT b6 bp gd ga ba al (apos prs k) gt gr bt ct pr q1 A _ T v all ky _ HB6k.out HBPk.out (cell_of HDk.out.blk HX0.out) HNUM.out.1 HRk.out HTk.out (HTN.out _ (.inl rfl)).1 (HTN.out _ (.inr (.inl rfl))).1 (HTN.out _ (.inr (.inr (.inl rfl)))).1 (by have := HAL.out; omega) HDR1.out HP1.out (by have := HS.out.len; omega)).mono ?_; rintro e w8 ⟨rfl, r8, k8⟩)
        have HR8 := Lib.hid r8
        have HK8 := Lib.hid k8
        clear r8 k8
        have HT8 := Lib.hid (HTk.out.keepS HK8.out (fun e => (HTN.out _ (.inl rfl)).1 e) (fun e => (HTN.out _ (.inr (.inl rfl))).1 e) (fun e => (HTN.out _ (.inr (.inr (.inl rfl)))).1 e) (fun b hb e => (HTN.out _ (.inr (.inr (.inr hb)))).1 e))
        have HD8 := Lib.hid (HDk.out.keep HK8.out (fun e => HNUM.out.1 e) (fun e => HNUM.out.2.2.1 e) (fun e => HNUM.out.2.2.2.2.1 e))
        have HBP8 := Lib.hid (HBPk.out.keep HK8.out (fun e => HNUM.out.2.2.2.2.2.2.1 e))
        have HB68 := Lib.hid (HB6k.out.keep HK8.out (fun e => HNUM.out.2.2.2.2.2.2.2.2.1 e))
        have HM8 := Lib.hid (HMk.out.keep HK8.out (fun e => HNUM.out.2.2.2.2.2.2.2.2.2.2.1 (Eq.symm e)))
        go_upto_region 20 with (go_at_call 92; refine (sgetT b6 bp gd ga ba al _ gt gr bt ct pr q2 A _ T v all va _ HB68.out HBP8.out (cell_of HD8.out.blk HX0.out) HNUM.out.1 HR8.out HT8.out (HTN.out _ (.inl rfl)).1 (HTN.out _ (.inr (.inl rfl))).1 (HTN.out _ (.inr (.inr (.inl rfl)))).1 (by have := HAL.out; omega) HDR2.out HP2.out (by have := HS.out.len; omega)).mono ?_; rintro e w9 ⟨rfl, r9, k9⟩)
        have HR9 := Lib.hid r9
        have HK9 := Lib.hid (HK8.out.trans' k9)
        have HM9 := Lib.hid (HM8.out.keep k9 (fun e => HNUM.out.2.2.2.2.2.2.2.2.2.2.1 (Eq.symm e)))
        have HD9 := Lib.hid (HD8.out.keep k9 (fun e => HNUM.out.1 e) (fun e => HNUM.out.2.2.1 e) (fun e => HNUM.out.2.2.2.2.1 e))
        have HBP9 := Lib.hid (HBP8.out.keep k9 (fun e => HNUM.out.2.2.2.2.2.2.1 e))
        have yp : w9.cell? ⟨bp, 0, none⟩ = some (.pointer (some ⟨gd, 0, none⟩)) := by rw [HBP9.out.cell]; rfl
        have x1 : w9.cell? ⟨gd, 1, none⟩ = some (.map (some ma)) := cell_of HD9.out.blk (by rw [List.getElem?_set_self (by have := HD9.out.len; rw [List.length_set] at this; omega)])
        clear r9 k9 HTk HDk HBPk HB6k HT8 HD8 HBP8 HB68 HM8
        go_wp2_with (first
          | (at_lookup; go_must (refine wpSM_look2 _ rfl _ _ rfl rfl HM9.out rfl hk1 ?_); rw [HNONE.out])
          | (at_mapUpdate; go_must (refine wpSM_store (s := ky) _ rfl _ _ _ rfl rfl HM9.out rfl rfl hk1 hv1 HNEW.out HLN.out ?_); intro w10 o10 k10))
        go_roundw
        case measure => simp [intOf]; omega
        case rel =>
          refine ⟨k + 1, by omega, by go_num, ?_, by rw [HSN.out]; exact o10, HKk.out.trans' ((HK9.out.mono (fun i _ e => .inl e)).trans' (k10.mono (fun i _ e => .inr e)))⟩
          rw [HSU.out]
          exact HR9.out.keep k10 (fun e => HNUM.out.2.2.2.2.2.2.2.2.2.2.1 e) (fun e => HNUM.out.2.2.2.2.2.2.2.2.2.2.2 e)
      · obtain rfl : k = prs.length := by omega
        have hkl : prs.length = ks.length := by have := congrArg List.length HPRS.out; simpa using this
        have HG : Hid (∀ t, getSM (ks.map (kvOf (pairs s))) t = getSM (pairs s) t) := Lib.hid (getSM_kv HS.out.perm (pairs_nodup HSO.out.nargs))
        have hMe : OwnsSM wr ma (ks.map (kvOf (pairs s))) := by
          have := HMk.out
          rw [hkl, List.take_length] at this
          exact this
        have hnum : gd ≠ ga ∧ gd ≠ ma ∧ g ≠ ga ∧ g ≠ ma ∧ bb ≠ ga ∧ bb ≠ ma ∧ bp ≠ ga ∧ bp ≠ ma := by
          have a1 := HN1.out
          have a2 := HMA.out
          omega
        have HDk := Lib.hid (HD7.out.keep HKk.out (fun e => by rcases e with e | e; exact hnum.1 e; exact hnum.2.1 e) (fun e => by rcases e with e | e; exact hnum.2.2.1 e; exact hnum.2.2.2.1 e) (fun e => by rcases e with e | e; exact hnum.2.2.2.2.1 e; exact hnum.2.2.2.2.2.1 e))
        have HBPk := Lib.hid (HBP7.out.keep HKk.out (fun e => by rcases e with e | e; exact hnum.2.2.2.2.2.2.1 e; exact hnum.2.2.2.2.2.2.2 e))
        have HME := Lib.hid hMe
        have HKE : Hid (Keep (fun i => i = g ∨ i = gd) w wr) := Lib.hid (HK7.out.trans HKk.out (fun i hi e => by have := HN1.out; have := HMA.out; rcases e with e | e <;> omega))
        have HBPN : Hid (gd ≠ bp ∧ bp ≠ g ∧ w.heap.size ≤ bp ∧ ma ≠ gd ∧ ma ≠ g ∧ bp ≠ ma) := Lib.hid (by have := HN1.out; have := HMA.out; omega)
        have hargc : getSM (ks.map (kvOf (pairs s))) kArgc = if s.args = [] then none else some (dig s.args.length) := by rw [HG.out, get_argc]
        have HARGC := Lib.hid hargc
        have yp : wr.cell? ⟨bp, 0, none⟩ = some (.pointer (some ⟨gd, 0, none⟩)) := by rw [HBPk.out.cell]; rfl
        have x1 : wr.cell? ⟨gd, 1, none⟩ = some (.map (some ma)) := cell_of HDk.out.blk (by rw [List.getElem?_set_self (by have := HDk.out.len; rw [List.length_set] at this; omega)])
        have hz4 : (kArgc : ByteArray).size ≤ maxLen := by decide
        clear hargc hMe hnum HKk HRk HMk HD7 HM7 HBP7 HB67 HR7 HT7 HMA HPL HTP H HT HAL HA HGN HN1 HNP
        go_upto_if 110 with (at_lookup; go_must (refine wpSM_look2 (s := kArgc) _ rfl _ _ rfl rfl HME.out rfl hz4 ?_); rw [HARGC.out])
        go_cut [16, 17] from 102 to 147 (fun _ _ wx => ∃ cs2, DR wx gd g bb c (p + al) cs2 bs ∧ (∀ i, i ≠ 2 → cs2[i]? = (cs.set 1 (.map (some ma)))[i]?) ∧ (if s.args = [] then cs2[2]? = cs[2]? else ∃ v, cs2[2]? = some v ∧ Row wx 9 1 v s.args.length (Ts s.args) ∧ ∀ b, v.ownBlock = some b → w.heap.size ≤ b) ∧ OwnsSM wx ma (ks.map (kvOf (pairs s))) ∧ Blk wx bp [.pointer (some ⟨gd, 0, none⟩)] 68 ∧ Keep (fun i => i = g ∨ i = gd) w wx)
        case first =>
          by_cases hn : s.args = []
          · simp only [if_pos hn, Option.getD_none, Option.isSome_none]
            go_wp2_with fail
            go_meet
            case rel => exact ⟨_, HDk.out, fun i hi => rfl, by rw [if_pos hn, List.getElem?_set_ne (by decide)], HME.out, HBPk.out, HKE.out⟩
          · simp only [if_neg hn, Option.getD_some, Option.isSome_some]
            have hlen : 0 < s.args.length := List.length_pos_iff.2 hn
            have hl6 : s.args.length ≤ 6 := HSO.out.nargs
            have hat := digAtoi (i := s.args.length) (by omega)
            have HAT := Lib.hid hat
            clear hat
            go_upto_region 29 with (go_at_call 96; refine (Tryz.strconv_Atoi (dig s.args.length) s.args.length (by show 1 ≤ 18; decide) HAT.out _).mono ?_; rintro e w11 ⟨rfl, t11, hw11⟩; have k11 : Keep Non wr w11 := (by rw [hw11]; exact keepBytes _ _ _); clear hw11)
            have HD11 := Lib.hid (HDk.out.far k11)
            have HBP11 := Lib.hid (HBPk.out.keep k11 (fun h => h))
            have HM11 := Lib.hid (HME.out.keep k11 (fun h => h))
            have HK11 := Lib.hid (HKE.out.trans' (k11.mono (fun _ _ h => h.elim)))
            obtain ⟨wm, mk, rm, gm⟩ := run_make_own (P := Tryz.prog) w11.drew 0 24 9 _ (.string ⟨#[]⟩) 1 sliceStr.und (info_parts sliceStr.row).choose_spec.1 (info_parts sliceStr.row).choose_spec.2.1 (info_parts sliceStr.row).choose_spec.2.2.1 .i64 .i64 s.args.length (by rw [(info_parts sliceStr.row).choose_spec.2.2.2]; omega) (by unfold maxLen; omega) (Nat.zero_le _)
            have GM : Grew w11.drew wm (.slice none 0 0) (.slice (some ⟨w11.drew.heap.size, 0, none⟩) 0 s.args.length) := ⟨gm, .inr rfl⟩
            have km0 : Keep Non w11.drew wm := GM.keep.mono (fun i _ e => by simp [Own, Value.ownBlock] at e)
            have km : Keep Non w11 wm := ((Keep.refl Non w11).drew).trans' km0
            obtain ⟨v2, hv2⟩ := (HD11.out.far km).at 2 (by decide)
            have f2 := (HD11.out.far km).blk.free 2
            have yp : w11.cell? ⟨bp, 0, none⟩ = some (.pointer (some ⟨gd, 0, none⟩)) := by rw [HBP11.out.cell]; rfl
            have HKM := Lib.hid km
            have hrm : Row wm 9 1 (.slice (some ⟨w11.heap.size, 0, none⟩) 0 s.args.length) 0 [] := rm
            have HRM := Lib.hid hrm
            have HNP : Hid (¬ At gd bp) := Lib.hid (fun e => HBPN.out.1 (Eq.symm e))
            clear gm GM km km0 rm hrm x1 k11
            go_cut [] from 119 to 123 (fun wx => ∃ mb, DR wx gd g bb c (p + al) ((cs.set 1 (.map (some ma))).set 2 (.slice (some ⟨mb, 0, none⟩) 0 s.args.length)) bs ∧ Row wx 9 1 (.slice (some ⟨mb, 0, none⟩) 0 s.args.length) 0 [] ∧ w11.heap.size ≤ mb ∧ Keep (At gd) w11 wx)
            case first =>
              go_region_held3 (fun w' => w'.cell? ⟨bp, 0, none⟩ = some (.pointer (some ⟨gd, 0, none⟩)))
                (first
                  | exact (Keep.refl Non w11).drew.cell yp (fun h => h)
                  | exact HKM.out.cell yp (fun h => h)
                  | exact ((HKM.out.mono (fun _ _ h => h.elim) : Keep (At gd) w11 wm).setAt _ _ _ (atSelf _)).cell yp HNP.out)
                (fail)
              all_goals
                go_wp2_with fail
                go_meet
                case rel =>
                  exact ⟨w11.heap.size, (HD11.out.far HKM.out).set 2 _ (by decide), HRM.out.keep (Keep.one wm gd 2 _) (fun b hb e => HRM.out.neBlk (HD11.out.far HKM.out).blk (by decide) (by have e : b = gd := e; rw [hb, e])), Nat.le_refl _, (HKM.out.mono (fun _ _ h => h.elim) : Keep (At gd) w11 wm).setAt _ _ _ (atSelf _)⟩
            case rest =>
              obtain ⟨mb, hD12, hR12, hmb, hK12⟩ := hcut
              have HD12 := Lib.hid hD12
              have HR12 := Lib.hid hR12
              have HM12 := Lib.hid (HM11.out.keep hK12 (fun e => HBPN.out.2.2.2.1 e))
              have HBP12 := Lib.hid (HBP11.out.keep hK12 HNP.out)
              have hw11 := HK11.out.size
              have HK12 : Hid (Keep (fun i => i = g ∨ i = gd) w wc) := Lib.hid (HK11.out.trans hK12 (fun i hi e => .inr e))
              have HMB : Hid (w.heap.size ≤ mb) := Lib.hid (by omega)
              clear hD12 hR12 hmb hK12 hw11 mk HRM HKM HD11 HBP11 HM11 HK11 hv2 f2 yp
              go_wp2_with fail
              go_loopw [20] (fun i wr => ∃ (j : Nat) (o : Value), j ≤ s.args.length ∧ i = .int .i64 j ∧ DR wr gd g bb c (p + al) ((cs.set 1 (.map (some ma))).set 2 o) bs ∧ Row wr 9 1 o j (Ts (s.args.take j)) ∧ (∀ b, o.ownBlock = some b → w.heap.size ≤ b) ∧ (∃ a d, o = .slice (some a) j d) ∧ OwnsSM wr ma (ks.map (kvOf (pairs s))) ∧ Blk wr bp [.pointer (some ⟨gd, 0, none⟩)] 68 ∧ Keep (fun i => i = g ∨ i = gd) w wr) (fun i _ => s.args.length - (intOf i).toNat)
              case atStart => exact ⟨0, _, by omega, rfl, HD12.out, HR12.out, fun b hb => by simp [Value.ownBlock] at hb; have := HMB.out; omega, ⟨_, _, rfl⟩, HM12.out, HBP12.out, HK12.out⟩
              case round =>
                obtain ⟨j, o, hj, rfl, hd, hr, ho, ⟨oa, od, rfl⟩, hm, hb, hk⟩ := hrel
                have HDj := Lib.hid hd
                have HRj := Lib.hid hr
                have HOj := Lib.hid ho
                have HMj := Lib.hid hm
                have HBj := Lib.hid hb
                have HKj := Lib.hid hk
                clear hd hr ho hm hb hk
                by_cases hlt : j < s.args.length
                · have hgt : getSM (ks.map (kvOf (pairs s))) (kArgv ++ dig j) = some s.args[j] := by rw [HG.out, get_argv hl6 hlt]
                  have HGT := Lib.hid hgt
                  have hsn : s.args.take (j + 1) = s.args.take j ++ [s.args[j]] := List.take_succ_eq_append_getElem hlt
                  have HSN := Lib.hid hsn
                  have hal : s.args[j].size ≤ maxLen := by have := HSO.out.arg _ (List.getElem_mem hlt); unfold maxLen; omega
                  have hks : (kArgv ++ dig j).size ≤ maxLen := by rw [argv_size]; decide
                  have hcat : ¬ (9223372036854775807 < 4 + (dig j).size) := by show ¬ (9223372036854775807 < 4 + 1); decide
                  clear hgt hsn
                  generalize s.args[j] = aj at *
                  have yp := cell_of HBj.out (i := 0) rfl
                  have x1 : wr.cell? ⟨gd, 1, none⟩ = some (.map (some ma)) := cell_of HDj.out.blk (by rw [List.getElem?_set_ne (by decide), List.getElem?_set_self (by have := HDj.out.len; simp at this; omega)])
                  go_upto_region 33 with (fail)
                  go_cut [21] from 129 to 136 (fun v wx => v = .string aj ∧ Keep Non wr wx)
                  case first =>
                    have hlk : (Instr.lookup 62 (.map (some ma)) (.string (({ data := #[97, 114, 103, 118] } : ByteArray) ++ dig j)) false).run Tryz.prog wr.drew = .ok (.string aj) wr.drew := by
                      have := run_look (HMj.out.keep (Keep.refl Non wr).drew (fun h => h)) hks
                      rw [HGT.out] at this
                      exact this
                    go_region_held3 (fun w' => w'.cell? ⟨bp, 0, none⟩ = some (.pointer (some ⟨gd, 0, none⟩)) ∧ w'.cell? ⟨gd, 1, none⟩ = some (.map (some ma)))
                      (first
                        | exact ⟨(Keep.refl Non wr).drew.cell yp (fun h => h), (Keep.refl Non wr).drew.cell x1 (fun h => h)⟩)
                      (first | (go_at_call 38; refine (Tryz.strconv_Itoa_small j (by omega) _).mono ?_; rintro e w1 ⟨rfl, rfl⟩; rw [dig_eq (by omega)]))
                    all_goals
                      go_wp2_with fail
                      go_meet
                      case rel => exact ⟨rfl, (Keep.refl Non wr).drew⟩
                  case rest =>
                    obtain ⟨rfl, hk13⟩ := hcut
                    have HD13 := Lib.hid (HDj.out.far hk13)
                    have HR13 := Lib.hid (HRj.out.keep hk13 (fun _ _ h => h))
                    have HM13 := Lib.hid (HMj.out.keep hk13 (fun h => h))
                    have HB13 := Lib.hid (HBj.out.keep hk13 (fun h => h))
                    have HK13 := Lib.hid (HKj.out.trans' (hk13.mono (fun _ _ h => h.elim)))
                    have yp13 := hk13.cell yp (fun h => h)
                    have HBN : Hid (¬ Own (.slice (some oa) j od) bp) := Lib.hid (fun e => HR13.out.neBlk HB13.out (by decide) e)
                    have x2 : wc.cell? ⟨gd, 2, none⟩ = some (.slice (some oa) j od) := cell_of HD13.out.blk (by rw [List.getElem?_set_self (by have := HD13.out.len; simp at this ⊢; omega)])
                    have hw3 : j + 1 ≤ maxLen := by unfold maxLen; omega
                    have hw4 : (j + 1) * 16 ≤ 140737488355328 := by omega
                    have HDN : Hid (∀ i, Own (.slice (some oa) j od) i → i ≠ gd ∧ i ≠ g ∧ i ≠ bb) := Lib.hid (fun i e => by have := HOj.out i e; omega)
                    clear hk13 yp x1
                    go_upto_region 34 with (fail)
                    have xa2 : (wc.alloc (.cells #[.string aj] 9)).cell? ⟨gd, 2, none⟩ = some (.slice (some oa) j od) := ((Keep.refl Non wc).alloc _).cell x2 (fun h => h)
                    have xap : (wc.alloc (.cells #[.string aj] 9)).cell? ⟨bp, 0, none⟩ = some (.pointer (some ⟨gd, 0, none⟩)) := ((Keep.refl Non wc).alloc _).cell yp13 (fun h => h)
                    go_region_law
                      (first
                        | (refine step_app (n := j) (xs := Ts (s.args.take j)) (m := 1) sliceStr rfl _ _ rfl rfl (HR13.out.keep (by first | exact ((Keep.refl Non _).alloc _).drew | exact ((Keep.refl Non _).drew).alloc _) (fun _ _ h => h)) rfl (Reads.oneAt (by simp)) (by decide) (str_one _) hw3 hw4 ?_; intro v' w4 r4 g4; have kA : Hid (Keep (Own (.slice (some oa) j od)) wc w4) := Lib.hid (Keep.trans' (by first | exact ((Keep.refl _ _).alloc _).drew | exact ((Keep.refl _ _).drew).alloc _) g4.keep); have hD14 := HD13.out.keep kA.out (fun e => (HDN.out _ e).1 rfl) (fun e => (HDN.out _ e).2.1 rfl) (fun e => (HDN.out _ e).2.2 rfl); have z1 : w4.cell? ⟨gd, 2, none⟩ = some (.slice (some oa) j od) := cell_of hD14.blk (by rw [List.getElem?_set_self (by have := HD13.out.len; simp at this ⊢; omega)]); have z2 := hD14.blk.free 2; have z3 := kA.out.cell yp13 HBN.out; obtain ⟨vb, vd, rfl⟩ : ∃ vb vd, v' = .slice (some ⟨vb, 0, none⟩) (j + 1) vd := (by rcases r4.shape with ⟨_, h0⟩ | ⟨x, y, h, _⟩; omega; exact ⟨x, y, h⟩)))
                    all_goals
                      go_wp2_with fail
                      go_roundw
                      case measure => simp [intOf]; omega
                      case rel =>
                        have hD15 := hD14.set 2 (.slice (some ⟨vb, 0, none⟩) (j + 1) vd) (by decide)
                        rw [List.set_set] at hD15
                        refine ⟨j + 1, _, by omega, by go_num, hD15, ?_, fun b hb => ?_, ⟨_, _, rfl⟩, (HM13.out.keep kA.out (fun e => HM13.out.neRow HR13.out e)).keep (Keep.one w4 gd 2 _) (fun e => HBPN.out.2.2.2.1 e), (HB13.out.keep kA.out HBN.out).keep (Keep.one w4 gd 2 _) (fun e => HBPN.out.1 (Eq.symm e)), (HK13.out.trans kA.out (fun i hi e => by have := HOj.out i e; omega)).setAt _ _ _ (.inr rfl)⟩
                        · rw [HSN.out, Ts_append]
                          exact r4.keep (Keep.one w4 gd 2 _) (fun b hb e => r4.neBlk hD14.blk (by decide) (by have e : b = gd := e; rw [hb, e]))
                        · rcases g4.lies hb with e | e
                          · exact HOj.out b e
                          · have a1 := HK13.out.size
                            simp at e
                            omega
                · obtain rfl : j = s.args.length := by omega
                  go_wp2_with fail
                  go_meet
                  case rel =>
                    have hr := HRj.out
                    rw [List.take_length] at hr
                    exact ⟨_, HDj.out, fun i hi => by rw [List.getElem?_set_ne (Ne.symm hi)], by rw [if_neg hn]; exact ⟨_, List.getElem?_set_self (by have := HDj.out.len; simp at this ⊢; omega), hr, HOj.out⟩, HMj.out, HBj.out, HKj.out⟩
        case rest =>
          obtain ⟨cs2, hd2, hs2, hg2, hm2, hb2, hk2⟩ := hcut
          have HD2 := Lib.hid hd2
          have HS2 := Lib.hid hs2
          have HG2 := Lib.hid hg2
          have HM2 := Lib.hid hm2
          have HB2 := Lib.hid hb2
          have HK2 := Lib.hid hk2
          clear hd2 hs2 hg2 hm2 hb2 hk2 HDk HBPk HME HKE yp x1 HARGC hz4 HPRS
          have HL2 := Lib.hid HD2.out.len
          have x1 : wc.cell? ⟨gd, 1, none⟩ = some (.map (some ma)) := cell_of HD2.out.blk (by rw [HS2.out 1 (by decide), List.getElem?_set_self (by have := HLC.out; omega)])
          have yp : wc.cell? ⟨bp, 0, none⟩ = some (.pointer (some ⟨gd, 0, none⟩)) := by rw [HB2.out.cell]; rfl
          have hos : getSM (ks.map (kvOf (pairs s))) kOs = if s.os.size = 0 then none else some s.os := by rw [HG.out, get_os HSO.out.nargs]
          have HOS := Lib.hid hos
          have hz5 : (kOs : ByteArray).size ≤ maxLen := by decide
          have HNP : Hid (¬ At gd bp) := Lib.hid (fun e => HBPN.out.1 (Eq.symm e))
          clear hos
          go_upto_if 155 with (at_lookup; go_must (refine wpSM_look2 (s := kOs) _ rfl _ _ rfl rfl HM2.out rfl hz5 ?_); rw [HOS.out])
          go_cut [22, 23] from 147 to 159 (fun _ _ wx => DR wx gd g bb c (p + al) (if s.os.size = 0 then cs2 else cs2.set 4 (.string s.os)) bs ∧ Keep (At gd) wc wx)
          case first =>
            by_cases hn : s.os.size = 0
            · simp only [if_pos (ByteArray.size_eq_zero_iff.1 hn), Option.getD_none, Option.isSome_none]
              go_wp2_with fail
              go_meet
              case rel => exact ⟨by rw [if_pos hn]; exact HD2.out, Keep.refl _ _⟩
            · simp only [if_neg (fun e => hn (ByteArray.size_eq_zero_iff.2 e) : ¬ s.os = ByteArray.empty), Option.getD_some, Option.isSome_some]
              obtain ⟨v4, hv4⟩ := HD2.out.at 4 (by decide)
              have f4 := HD2.out.blk.free 4
              go_wp2_with fail
              go_meet
              case rel => exact ⟨by rw [if_neg hn]; exact HD2.out.set 4 _ (by decide), (Keep.refl _ _).setAt _ _ _ (atSelf _)⟩
          case rest =>
            obtain ⟨hd3, hk3⟩ := hcut
            obtain ⟨cs3, hcs3⟩ : ∃ x, x = if s.os.size = 0 then cs2 else cs2.set 4 (.string s.os) := ⟨_, rfl⟩
            rw [← hcs3] at hd3
            have HCS3 := Lib.hid hcs3
            have HD3 := Lib.hid hd3
            have HK3 := Lib.hid hk3
            have HM3 := Lib.hid (HM2.out.keep hk3 (fun e => HBPN.out.2.2.2.1 e))
            have HB3 := Lib.hid (HB2.out.keep hk3 HNP.out)
            clear hcs3 hd3 hk3 x1 yp HOS hz5
            have x1 : wc.cell? ⟨gd, 1, none⟩ = some (.map (some ma)) := cell_of HD3.out.blk (by
              rw [HCS3.out]
              have : cs2[1]? = some (.map (some ma)) := by rw [HS2.out 1 (by decide), List.getElem?_set_self (by have := HLC.out; omega)]
              split
              · exact this
              · rw [List.getElem?_set_ne (by decide)]; exact this)
            have yp : wc.cell? ⟨bp, 0, none⟩ = some (.pointer (some ⟨gd, 0, none⟩)) := by rw [HB3.out.cell]; rfl
            have har : getSM (ks.map (kvOf (pairs s))) kArch = if s.arch.size = 0 then none else some s.arch := by rw [HG.out, get_arch HSO.out.nargs]
            have HAR := Lib.hid har
            have hz6 : (kArch : ByteArray).size ≤ maxLen := by decide
            clear har
            go_upto_if 168 with (at_lookup; go_must (refine wpSM_look2 (s := kArch) _ rfl _ _ rfl rfl HM3.out rfl hz6 ?_); rw [HAR.out])
            go_cut [24, 25] from 160 to 172 (fun _ _ wx => DR wx gd g bb c (p + al) (if s.arch.size = 0 then cs3 else cs3.set 3 (.string s.arch)) bs ∧ Keep (At gd) wc wx)
            case first =>
              by_cases hn : s.arch.size = 0
              · simp only [if_pos (ByteArray.size_eq_zero_iff.1 hn), Option.getD_none, Option.isSome_none]
                go_wp2_with fail
                go_meet
                case rel => exact ⟨by rw [if_pos hn]; exact HD3.out, Keep.refl _ _⟩
              · simp only [if_neg (fun e => hn (ByteArray.size_eq_zero_iff.2 e) : ¬ s.arch = ByteArray.empty), Option.getD_some, Option.isSome_some]
                obtain ⟨v3, hv3⟩ := HD3.out.at 3 (by decide)
                have f3 := HD3.out.blk.free 3
                go_wp2_with fail
                go_meet
                case rel => exact ⟨by rw [if_neg hn]; exact HD3.out.set 3 _ (by decide), (Keep.refl _ _).setAt _ _ _ (atSelf _)⟩
            case rest =>
              obtain ⟨hd4, hk4⟩ := hcut
              have HD4 := Lib.hid hd4
              have HK4 := Lib.hid hk4
              clear hd4 hk4 x1 yp
              go_wp2_with fail
              go_ret
              have hk24 := HK3.out.trans' HK4.out
              exact ⟨rfl, _, HD4.out, argC_of HL2.out HS2.out HG2.out HCS3.out rfl hk24 (by omega), HK2.out.trans hk24 (fun i hi e => .inr e)⟩
end Go.Proofs.YtcpegoofbenoiaaGreatDoor
