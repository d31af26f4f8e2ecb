/-
  CONTRACT: the next function is read; numbers by seven bits. (printed by gen_next.py)
-/
import Derived.Test.YtcpegoofbenoiaaGreatDoorZRd2
namespace Go.Proofs.YtcpegoofbenoiaaGreatDoor
open Go.RowKit
open Go.ChangeShapes Go.WideShapes Go.ChangeAt Go.Deep
open Plain (M64)

set_option maxRecDepth 100000 in
set_option maxHeartbeats 8000000 in
theorem next1T (f : Fc) (fe gd g bb c p bu b8 nseg fc sc gp n0 a b m : Nat) (cs : List Value) (bs r : List UInt8) (v : Value) (xs : List Value) (w : World) (h : CD w gd g bb c p bu b8 2 nseg fc sc cs bs) (h48 : cs[48]? = some (.int .u64 fe)) (hfc : fc < fe) (hfe : fe ≤ 1000)
    (hp : Pay w gp n0 a b v m xs) (hlo : Low n0 gd g bb bu b8) (hbs : bs.drop p = fcB true f ++ r) (hl : bs.length ≤ 1000000) (hf1 : f.cs.length ≤ 12) (hf2 : f.pkg < 4294967296 ∧ f.fn < 4294967296 ∧ ∀ x ∈ f.cs, x < 4294967296) :
    Calls Tryz.prog 30 #[.pointer (some ⟨gd, 0, none⟩), .pointer (some ⟨gp, 0, none⟩)] w (NextPost f gd g bb c (p + (fcB true f).length) bu b8 2 nseg (fc + 1) sc gp n0 (cs.set 53 (.int .u32 ((fc : Int) + 1))) bs v w) := by
  have hw := wrap32 fe (by omega)
  have hw1 : IntKind.u32.wrap ((fc : Int) + 1) = (fc : Int) + 1 := by rw [IntKind.wrap_u32]; omega
  have hnle : ¬ (fe : Int) ≤ (fc : Int) := by omega
  obtain ⟨W1, hW1⟩ : ∃ W1, W1 = w.alloc (.cells #[.pointer (some ⟨gd, 0, none⟩)] 68) := ⟨_, rfl⟩
  have hb1 : Blk W1 w.heap.size [.pointer (some ⟨gd, 0, none⟩)] 68 := by rw [hW1]; exact Blk.new w [.pointer (some ⟨gd, 0, none⟩)] _
  have hk1 : Keep Non w W1 := by rw [hW1]; exact (Keep.refl _ _).alloc _
  have hpw : W1.heap.size = w.heap.size + 1 := by rw [hW1]; simp
  obtain ⟨b2, hb2⟩ : ∃ b, b = w.heap.size := ⟨_, rfl⟩
  rw [← hb2] at hb1
  have hvl : ∀ b, v.ownBlock = some b → b < w.heap.size := fun b hb => hp.row.lt hb
  have hgpl : gp < w.heap.size := hp.blk.lt
  have hC := h.far hk1
  have yb : W1.cell? ⟨b2, 0, none⟩ = some (.pointer (some ⟨gd, 0, none⟩)) := cell_of hb1 rfl
  have x53 := cell_of hC.d.blk hC.c53
  have x48 := cell_of hC.d.blk h48
  have HK1 := Lib.hid hk1
  have HC1 := Lib.hid hC
  have HB1 := Lib.hid hb1
  have HP1 := Lib.hid (hp.low hk1 (fun _ h => h.elim))
  have HVL := Lib.hid hvl
  have HBS := Lib.hid hbs
  have HLO := Lib.hid hlo
  have HF2 := Lib.hid hf2
  have HB2 := Lib.hid hb2
  clear h hC hb1 hk1 hp hvl hbs hlo hf2 hpw
  go_enter Tryz.func30, Tryz.ntmps30
  go_upto_region 1 with (fail)
  rw [← hW1, ← hb2]
  clear hW1 hb2
  go_quiet (fail)
  have k2 : Keep Non W1 (W1.drewN nq) := (Keep.refl Non _).drewN nq
  have HK2 := Lib.hid (HK1.out.trans' k2)
  have HC2 := Lib.hid (HC1.out.far k2)
  have HB22 := Lib.hid (HB1.out.keep k2 (fun h => h))
  have HP2 := Lib.hid (HP1.out.low k2 (fun _ h => h.elim))
  clear k2 yb x53 x48 HK1 HC1 HB1 HP1
  generalize W1.drewN nq = W2 at *
  have yb : W2.cell? ⟨b2, 0, none⟩ = some (.pointer (some ⟨gd, 0, none⟩)) := cell_of HB22.out rfl
  have x53 : W2.cell? ⟨gd, 53, none⟩ = some (.int .u32 fc) := cell_of HC2.out.d.blk HC2.out.c53
  have f53 := HC2.out.d.blk.free 53
  go_upto_region 5 with (fail)
  have hlen := HC2.out.d.len
  have HCS : Hid (∀ i, i ≠ 53 → (cs.set 53 (.int .u32 ((fc : Int) + 1)))[i]? = cs[i]?) := Lib.hid (fun i hi => List.getElem?_set_ne (by omega))
  have k3 : Keep (At gd) W2 (W2.setCell ⟨gd, 53, none⟩ (.int .u32 ((fc : Int) + 1))) := (Keep.refl _ _).setAt _ _ _ (atSelf _)
  have HC3 : Hid (CD (W2.setCell ⟨gd, 53, none⟩ (.int .u32 ((fc : Int) + 1))) gd g bb c p bu b8 2 nseg (fc + 1) sc (cs.set 53 (.int .u32 ((fc : Int) + 1))) bs) := Lib.hid (HC2.out.to (k3.mono (fun i _ e => .inr e)) (HC2.out.d.set 53 _ (by decide)) (HCS.out 51 (by decide)) (HCS.out 52 (by decide)) (HCS.out 27 (by decide)) (HCS.out 28 (by decide)) (HCS.out 43 (by decide)) (by rw [List.getElem?_set_self (by omega)]; rfl) (by rw [HCS.out 54 (by decide)]; exact HC2.out.c54))
  have HB3 := Lib.hid (HB22.out.keep k3 (fun e => (HC2.out.bx HB22.out).2 e))
  have HP3 := Lib.hid (HP2.out.low k3 (fun i e => by have e : i = gd := e; rw [e]; exact HLO.out.d))
  have HK3 : Hid (Keep (fun i => i = g ∨ i = gd ∨ i = b8 ∨ i = bu ∨ i = gp ∨ v.ownBlock = some i) w (W2.setCell ⟨gd, 53, none⟩ (.int .u32 ((fc : Int) + 1)))) := Lib.hid ((HK2.out.mono (fun _ _ h => h.elim)).trans' (k3.mono (fun i _ e => .inr (.inl e))))
  have HZ3 : Hid (w.heap.size ≤ (W2.setCell ⟨gd, 53, none⟩ (.int .u32 ((fc : Int) + 1))).heap.size) := Lib.hid HK3.out.size
  clear yb x53 f53 k3 HCS HC2 HB22 HP2 HK2 hlen hnle hw
  obtain ⟨cs1, hcs1⟩ : ∃ x, x = cs.set 53 (.int .u32 ((fc : Int) + 1)) := ⟨_, rfl⟩
  rw [← hcs1] at HC3
  have HCS1 := Lib.hid hcs1
  clear hcs1
  generalize W2.setCell ⟨gd, 53, none⟩ (.int .u32 ((fc : Int) + 1)) = W3 at *
  have yb : W3.cell? ⟨b2, 0, none⟩ = some (.pointer (some ⟨gd, 0, none⟩)) := cell_of HB3.out rfl
  have x27 := cell_of HC3.out.d.blk HC3.out.c27
  have x28 := cell_of HC3.out.d.blk HC3.out.c28
  have HD0 : Hid (bs.drop p = numB true f.cs.length ++ (numB true f.pkg ++ (numB true f.fn ++ (f.cs.flatMap (numB true) ++ r)))) := Lib.hid (by rw [HBS.out, fcB_cons])
  have HD1 := Lib.hid (drop_num HD0.out)
  have HD2 := Lib.hid (drop_num HD1.out)
  have HD3 := Lib.hid (drop_num HD2.out)
  obtain ⟨q1, hq1⟩ : ∃ q, q = p + (numB true f.cs.length).length := ⟨_, rfl⟩
  rw [← hq1] at HD1 HD2 HD3
  obtain ⟨q2, hq2⟩ : ∃ q, q = q1 + (numB true f.pkg).length := ⟨_, rfl⟩
  rw [← hq2] at HD2 HD3
  obtain ⟨q3, hq3⟩ : ∃ q, q = q2 + (numB true f.fn).length := ⟨_, rfl⟩
  rw [← hq3] at HD3
  have hqe : p + (fcB true f).length = q3 + (f.cs.flatMap (numB true)).length := by
    rw [fcB, List.length_append, List.length_append, List.length_append]; omega
  have HQE := Lib.hid hqe
  have HQ1 := Lib.hid hq1
  have HQ2 := Lib.hid hq2
  have HQ3 := Lib.hid hq3
  clear hq1 hq2 hq3 hqe HBS
  go_upto_region 19 with (fail)
  clear x27 x28
  go_upto_region 20 with (go_at_call 50; refine (numC1 HC3.out HB3.out (by omega) hl HD0.out).mono ?_; rintro e w4 ⟨rfl, hC4, k4⟩)
  rw [← HQ1.out] at hC4
  have HC4 := Lib.hid hC4
  have hls : ∀ i, (i = g ∨ i = b8 ∨ i = bu) → i < n0 := fun i e => by
    rcases e with e | e | e
    · rw [e]; exact HLO.out.g
    · rw [e]; exact HLO.out.e
    · rw [e]; exact HLO.out.u
  have HLS := Lib.hid hls
  have hms : ∀ i, (i = g ∨ i = b8 ∨ i = bu) → (i = g ∨ i = gd ∨ i = b8 ∨ i = bu ∨ i = gp ∨ v.ownBlock = some i) := fun i e => by
    rcases e with e | e | e
    · exact .inl e
    · exact .inr (.inr (.inl e))
    · exact .inr (.inr (.inr (.inl e)))
  have HMS := Lib.hid hms
  have HB4 := Lib.hid (HB3.out.keep k4 (HC3.out.bx HB3.out).1)
  have HP4 := Lib.hid (HP3.out.low k4 hls)
  have HK4 := Lib.hid (HK3.out.trans' (k4.mono (fun i _ e => hms i e)))
  clear hC4 k4 yb hls hms HC3 HB3 HP3 HK3 HZ3
  go_upto_region 23 with (go_at_call 50; refine (numC1 HC4.out HB4.out HF2.out.1 hl HD1.out).mono ?_; rintro e w5 ⟨rfl, hC5, k5⟩; have hP5 := HP4.out.low k5 HLS.out; have xg0 := hP5.x0; have fg0 := hP5.blk.free 0)
  rw [← HQ2.out] at hC5
  have hpl : ∀ i, gp ≠ i → i < n0 → ¬ At gp i := fun i _ h e => by have e : i = gp := e; have := HP4.out.le; omega
  have k5b : Keep (At gp) w5 (w5.setCell ⟨gp, 0, none⟩ (.int .u32 f.pkg)) := (Keep.refl _ _).setAt _ _ _ (atSelf _)
  have hgn : ∀ i, i < n0 → ¬ At gp i := fun i h e => by have e : i = gp := e; have := HP4.out.le; omega
  have HGN := Lib.hid hgn
  have hbg : ¬ At gp b2 := fun e => by have e : b2 = gp := e; exact HB4.out.ne HP4.out.blk (by decide) e
  have HBG := Lib.hid hbg
  have HC5 := Lib.hid (hC5.keep k5b (hgn _ HLO.out.d) (hgn _ HLO.out.g) (hgn _ HLO.out.b) (hgn _ HLO.out.u) (hgn _ HLO.out.e))
  have HB5 := Lib.hid ((HB4.out.keep k5 (HC4.out.bx HB4.out).1).keep k5b hbg)
  have HP5 := Lib.hid (hP5.set0 f.pkg)
  have HK5 := Lib.hid ((HK4.out.trans' (k5.mono (fun i _ e => HMS.out i e))).trans' (k5b.mono (fun i _ e => (.inr (.inr (.inr (.inr (.inl e)))) : i = g ∨ i = gd ∨ i = b8 ∨ i = bu ∨ i = gp ∨ v.ownBlock = some i))))
  clear hC5 k5 k5b hP5 xg0 fg0 hgn hbg hpl HC4 HB4 HP4 HK4
  generalize w5.setCell ⟨gp, 0, none⟩ (.int .u32 f.pkg) = W5 at *
  go_upto_region 26 with (go_at_call 50; refine (numC1 HC5.out HB5.out HF2.out.2.1 hl HD2.out).mono ?_; rintro e w6 ⟨rfl, hC6, k6⟩; have hP6 := HP5.out.low k6 HLS.out; have xg1 := hP6.x1; have fg1 := hP6.blk.free 1)
  rw [← HQ3.out] at hC6
  have k6b : Keep (At gp) w6 (w6.setCell ⟨gp, 1, none⟩ (.int .u32 f.fn)) := (Keep.refl _ _).setAt _ _ _ (atSelf _)
  have HC6 := Lib.hid (hC6.keep k6b (HGN.out _ HLO.out.d) (HGN.out _ HLO.out.g) (HGN.out _ HLO.out.b) (HGN.out _ HLO.out.u) (HGN.out _ HLO.out.e))
  have HB6 := Lib.hid ((HB5.out.keep k6 (HC5.out.bx HB5.out).1).keep k6b HBG.out)
  have HP6 := Lib.hid (hP6.set1 f.fn)
  have HK6 := Lib.hid ((HK5.out.trans' (k6.mono (fun i _ e => HMS.out i e))).trans' (k6b.mono (fun i _ e => (.inr (.inr (.inr (.inr (.inl e)))) : i = g ∨ i = gd ∨ i = b8 ∨ i = bu ∨ i = gp ∨ v.ownBlock = some i))))
  clear hC6 k6 k6b hP6 xg1 fg1 HC5 HB5 HP5 HK5
  generalize w6.setCell ⟨gp, 1, none⟩ (.int .u32 f.fn) = W6 at *
  go_upto_region 28 with (fail)
  go_cut [99] from 94 to 98 (fun c9 wx => c9 = .bool (decide (capOf v < 1024)) ∧ wx = W6)
  case first =>
    have x2 := HP6.out.x2
    rcases HP6.out.row.shape2 with ⟨hv, hm0⟩ | ⟨gw, cap, hv, hcap1, hcap2⟩
    · subst hv
      go_wp2_with fail
      go_meet
      case rel => exact ⟨by simp [capOf], rfl⟩
    · subst hv
      go_wp2_with fail
      go_meet
      case rel => exact ⟨by simp only [capOf]; congr 1; exact decide_eq_decide.2 (by omega), rfl⟩
  case rest =>
    obtain ⟨rfl, hw6⟩ := hcut
    subst hw6
    go_upto_if 99 with (fail)
    go_cut [] from 100 to 103 (fun wx => ∃ gw n1 cap xs1, Pay wx gp n0 f.pkg f.fn (.slice (some ⟨gw, 0, none⟩) n1 cap) n1 xs1 ∧ 1024 ≤ cap ∧ CD wx gd g bb c q3 bu b8 2 nseg (fc + 1) sc cs1 bs ∧ Blk wx b2 [.pointer (some ⟨gd, 0, none⟩)] 68 ∧ (v.ownBlock = some gw ∨ w.heap.size ≤ gw) ∧ Keep (fun i => i = g ∨ i = gd ∨ i = b8 ∨ i = bu ∨ i = gp ∨ v.ownBlock = some i) w wx)
    case first =>
      by_cases hcap : capOf v < 1024
      · have hd : decide (capOf v < 1024) = true := decide_eq_true hcap
        have x2 : (wc.alloc U1024).cell? ⟨gp, 2, none⟩ = some v := cell_of (HP6.out.blk.alloc _) rfl
        have f2 := (HP6.out.blk.alloc U1024).free 2
        have hmk := mk1024
        have hsz := HK6.out.size
        go_wp2_with fail
        go_meet
        case rel =>
          have k8 : Keep (At gp) wc ((wc.alloc U1024).setCell ⟨gp, 2, none⟩ (.slice (some ⟨wc.heap.size, 0, none⟩) 0 1024)) := ((Keep.refl _ _).alloc _).setAt _ _ _ (atSelf _)
          have hsn : n0 ≤ wc.heap.size := by have := HP6.out.le; have := HP6.out.blk.lt; omega
          exact ⟨wc.heap.size, 0, 1024, [], Pay.set2 (HP6.out.blk.alloc _) (made1024 wc) (fun b hb => by simp [Value.ownBlock] at hb; omega) HP6.out.le, Nat.le_refl _, HC6.out.keep k8 (HGN.out _ HLO.out.d) (HGN.out _ HLO.out.g) (HGN.out _ HLO.out.b) (HGN.out _ HLO.out.u) (HGN.out _ HLO.out.e), HB6.out.keep k8 HBG.out, .inr hsz, HK6.out.trans' (k8.mono (fun i _ e => (.inr (.inr (.inr (.inr (.inl e)))) : i = g ∨ i = gd ∨ i = b8 ∨ i = bu ∨ i = gp ∨ v.ownBlock = some i)))⟩
      · have hd : decide (capOf v < 1024) = false := decide_eq_false hcap
        go_wp2_with fail
        go_meet
        case rel =>
          rcases HP6.out.row.shape2 with ⟨hv, hm0⟩ | ⟨gw, cap, hv, hcap1, hcap2⟩
          · exact absurd (by rw [hv]; simp [capOf]) hcap
          · subst hv
            exact ⟨gw, m, cap, xs, HP6.out, Nat.le_of_not_lt hcap, HC6.out, HB6.out, .inl rfl, HK6.out⟩
    case rest =>
      obtain ⟨gw, n1, cap, xs1, hP7, hcap, hC7, hB7, ho7, k7⟩ := hcut
      have x2 := hP7.x2
      have f2 := hP7.blk.free 2
      have hP8 := Pay.set2 hP7.blk hP7.row.zero hP7.own hP7.le
      have k8 : Keep (At gp) wc ((wc.setCell ⟨gp, 2, none⟩ (.slice (some ⟨gw, 0, none⟩) 0 cap))) := (Keep.refl _ _).setAt _ _ _ (atSelf _)
      have HP8 := Lib.hid hP8
      have HC8 := Lib.hid (hC7.keep k8 (HGN.out _ HLO.out.d) (HGN.out _ HLO.out.g) (HGN.out _ HLO.out.b) (HGN.out _ HLO.out.u) (HGN.out _ HLO.out.e))
      have HB8 := Lib.hid (hB7.keep k8 HBG.out)
      have HO := Lib.hid ho7
      have HK8 := Lib.hid (k7.trans' (k8.mono (fun i _ e => (.inr (.inr (.inr (.inr (.inl e)))) : i = g ∨ i = gd ∨ i = b8 ∨ i = bu ∨ i = gp ∨ v.ownBlock = some i))))
      clear hP7 hC7 hB7 ho7 k7 hP8 k8 HP6 HC6 HB6 HK6
      go_upto_region 31 with (fail)
      clear x2 f2
      generalize wc.setCell ⟨gp, 2, none⟩ (.slice (some ⟨gw, 0, none⟩) 0 cap) = W8 at *
      go_wp2_with fail
      go_loopw [9] (fun i wr => ∃ (k : Nat) (v' : Value), k ≤ f.cs.length ∧ i = .int .u32 k ∧ CD wr gd g bb c (q3 + ((f.cs.take k).flatMap (numB true)).length) bu b8 2 nseg (fc + 1) sc cs1 bs ∧ Blk wr b2 [.pointer (some ⟨gd, 0, none⟩)] 68 ∧ Pay wr gp n0 f.pkg f.fn v' k (U32 (f.cs.take k)) ∧ (∀ b, v'.ownBlock = some b → v.ownBlock = some b ∨ w.heap.size ≤ b) ∧ Keep (fun i => i = g ∨ i = gd ∨ i = b8 ∨ i = bu ∨ i = gp ∨ v.ownBlock = some i) w wr) (fun i _ => f.cs.length - (intOf i).toNat)
      case atStart => exact ⟨0, _, Nat.zero_le _, rfl, HC8.out, HB8.out, HP8.out, fun b hb => by simp [Value.ownBlock] at hb; rw [← hb]; exact HO.out, HK8.out⟩
      case round =>
        obtain ⟨k, v', hk, rfl, hC, hB, hP, ho, hkk⟩ := hrel
        have HC := Lib.hid hC
        have HB := Lib.hid hB
        have HP := Lib.hid hP
        have HOk := Lib.hid ho
        have HKk := Lib.hid hkk
        clear hC hB hP ho hkk
        by_cases hlt : k < f.cs.length
        · have hd : bs.drop (q3 + ((f.cs.take k).flatMap (numB true)).length) = numB true f.cs[k] ++ ((f.cs.drop (k + 1)).flatMap (numB true) ++ r) := by
            have h1 : bs.drop q3 = (f.cs.take k).flatMap (numB true) ++ ((f.cs.drop k).flatMap (numB true) ++ r) := by
              rw [← List.append_assoc, ← List.flatMap_append, List.take_append_drop]; exact HD3.out
            rw [drop_num h1, flat_step _ _ _ hlt]
          have hpos := flat_take true f.cs k hlt
          have hu : U32 (f.cs.take (k + 1)) = U32 (f.cs.take k) ++ [.int .u32 (f.cs[k] : Nat)] := by
            rw [List.take_succ_eq_append_getElem hlt, U32_append]; rfl
          have hx := HF2.out.2.2 _ (List.getElem_mem hlt)
          have hwk : IntKind.u32.wrap ((k : Int) + 1) = ((k + 1 : Nat) : Int) := by rw [IntKind.wrap_u32]; omega
          have HD := Lib.hid hd
          have HPOS := Lib.hid hpos
          have HU := Lib.hid hu
          clear hd hpos hu
          generalize f.cs[k] = x at *
          go_upto_region 35 with (go_at_call 50; refine (numC1 HC.out HB.out hx hl HD.out).mono ?_; rintro e w9 ⟨rfl, hC9, k9⟩)
          have HP9 := Lib.hid (HP.out.low k9 HLS.out)
          have HC9 := Lib.hid hC9
          have HB9 := Lib.hid (HB.out.keep k9 (HC.out.bx HB.out).1)
          have HK9 := Lib.hid (HKk.out.trans' (k9.mono (fun i _ e => HMS.out i e)))
          have x2 := HP9.out.x2
          clear hC9 k9
          go_wp2_with (at_builtin; go_must (refine wpList_app (n := k) (xs := U32 (f.cs.take k)) (m := 1) sliceU32 rfl _ _ rfl rfl (Row.alloc HP9.out.row _) rfl (Reads.oneAt (by simp)) (int_one _ _) (by unfold maxLen; omega) (by omega) ?_); intro v10 w10 r10 g10 n10; obtain ⟨sa, sc, rfl⟩ := r10.reads.slice; have hb10 := (HP9.out.blk.alloc (.cells #[.int .u32 x] 36)).keep g10.keep (fun e => HP9.out.ne e); have x2' : w10.cell? ⟨gp, 2, none⟩ = some v' := cell_of hb10 rfl; have f2' := hb10.free 2)
          go_roundw
          case measure => simp [intOf]; omega
          case rel =>
            have kA : Keep (Own v') w9 w10 := ((Keep.refl (Own v') w9).alloc _).trans' g10.keep
            have hS' : ∀ i, i < w.heap.size → Own v' i → v.ownBlock = some i := fun i hi e => (HOk.out i e).elim (fun h => h) (fun h => by omega)
            have hlow : ∀ i, i < n0 → ¬ Own v' i := fun i hi e => by have := HP9.out.own i e; omega
            have kB : Keep (At gp) w10 (w10.setCell ⟨gp, 2, none⟩ (.slice sa (k + 1) sc)) := (Keep.refl _ _).setAt _ _ _ (atSelf _)
            have hC10 := (HC9.out.keep kA (hlow _ HLO.out.d) (hlow _ HLO.out.g) (hlow _ HLO.out.b) (hlow _ HLO.out.u) (hlow _ HLO.out.e)).keep kB (HGN.out _ HLO.out.d) (HGN.out _ HLO.out.g) (HGN.out _ HLO.out.b) (HGN.out _ HLO.out.u) (HGN.out _ HLO.out.e)
            have hB10 := (HB9.out.keep kA (fun e => HP9.out.row.neBlk HB9.out (by decide) e)).keep kB HBG.out
            have hz9 := (HP9.out.blk.alloc (.cells #[.int .u32 x] 36)).lt
            have hzs : w.heap.size ≤ (w9.alloc (.cells #[.int .u32 x] 36)).heap.size := by have := HK9.out.size; simp; omega
            have ho10 : ∀ b, (Value.slice sa (k + 1) sc).ownBlock = some b → v.ownBlock = some b ∨ w.heap.size ≤ b := fun b hb => by
              rcases g10.lies hb with h | h
              · exact HOk.out b h
              · exact .inr (by omega)
            have hn10 : ∀ b, (Value.slice sa (k + 1) sc).ownBlock = some b → n0 ≤ b := fun b hb => by
              rcases g10.lies hb with h | h
              · exact HP9.out.own b h
              · have := HP9.out.le; omega
            rw [← HU.out] at r10
            refine ⟨k + 1, _, by omega, by go_num, ?_, hB10, Pay.set2 hb10 r10 hn10 HP9.out.le, ho10, (HK9.out.trans kA (fun i hi e => .inr (.inr (.inr (.inr (.inr (hS' i hi e))))))).trans' (kB.mono (fun i _ e => (.inr (.inr (.inr (.inr (.inl e)))) : i = g ∨ i = gd ∨ i = b8 ∨ i = bu ∨ i = gp ∨ v.ownBlock = some i)))⟩
            rw [HPOS.out, ← Nat.add_assoc]
            exact hC10
        · have hke : k = f.cs.length := by omega
          subst hke
          have HC' := HC.out
          have HP' := HP.out
          rw [List.take_of_length_le (Nat.le_refl _)] at HC' HP'
          have HC9 := Lib.hid HC'
          have HP9 := Lib.hid HP'
          clear HC' HP'
          go_wp2_with fail
          go_ret2
          refine ⟨v', rfl, ?_, HP9.out, HOk.out, HKk.out⟩
          rw [HQE.out, ← HCS1.out]
          exact HC9.out
end Go.Proofs.YtcpegoofbenoiaaGreatDoor
