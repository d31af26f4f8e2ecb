/-
  CONTRACTS: the reader of counters reads its foot, and the table of a segment.
-/
import Derived.Test.YtcpegoofbenoiaaGreatDoorZGRc1
namespace Go.Proofs.YtcpegoofbenoiaaGreatDoor
open Go.RowKit
open Go.ChangeShapes Go.WideShapes Go.ChangeAt Go.Deep
open Plain (M64)

theorem aheadSeek (a : Addr) (w : World) : (nilAhead 344 71 (.pointer (some a)) "Seek").run Tryz.prog w = .ok (some false) w := by kernel_rfl
theorem methodSeek (a : Addr) (w : World) : (method 344 71 (.pointer (some a)) "Seek").run Tryz.prog w = .ok (159, .pointer (some a)) w := by kernel_rfl
/-- A seek that goes well. -/
theorem seekG (wh : Nat) (g bb c p q : Nat) (n : Int) (bs : List UInt8) (w : World) (hwh : wh ≤ 2) (hn : seekTo wh p bs.length n = (q : Int)) (h : RR w g bb c p bs) (hl : bs.length ≤ 1000000) (hp : p ≤ bs.length) (hq : q ≤ bs.length) (h1 : -1000000 ≤ n) (h2 : n ≤ 1000000) :
    Calls Tryz.prog 159 #[.pointer (some ⟨g, 0, none⟩), .int .i64 n, .int .i64 wh] w fun e w' => e = .returned (.tuple #[.int .i64 q, .nilIface]) ∧ RR w' g bb c q bs ∧ Keep (At g) w w' := by
  refine (seek (some ⟨bb, 0, none⟩) bs.length c g p n wh w hwh h.blk hl hp h1 h2).mono ?_
  rintro e w' ⟨at', r, rfl, he, hb, k, ha⟩
  rw [hn] at he hb ha
  have hin : 0 ≤ (q : Int) ∧ (q : Int) ≤ (bs.length : Int) := by omega
  rw [decide_eq_true hin] at he
  rw [if_pos hin] at hb
  have e1 : r = .nilIface := he
  rw [e1, ha hin]
  refine ⟨rfl, ⟨by simpa using hb, h.data.keep k (fun b hb' e => ?_), h.cap, h.ne⟩, k⟩
  simp [Value.ownBlock] at hb'
  unfold At at e
  exact h.ne (hb'.trans e)
set_option maxRecDepth 100000 in
set_option maxHeartbeats 4000000 in
theorem readFooterT (gd g bb c p n : Nat) (cs : List Value) (bs : List UInt8) (w : World) (h : DR w gd g bb c p cs bs) (hM : Mag w) (hl : bs.length ≤ 1000000) (hp : p ≤ bs.length) (h16 : 16 ≤ bs.length) (hbs : bs.drop (bs.length - 16) = footB n) (hn : n < 4294967296) (hn0 : 0 < n) (hd : gd ≠ 1) (hg : g ≠ 1) :
    Calls Tryz.prog 48 #[.pointer (some ⟨gd, 0, none⟩)] w (FtrP gd g bb c bs.length n cs bs w) := by
  have H := Lib.hid h
  have HM := Lib.hid hM
  have HBS : Hid (bs.drop (bs.length - 16) = footB n ++ []) := Lib.hid (by rw [hbs, List.append_nil])
  have HSK : Hid (seekTo 2 p bs.length (-16) = ((bs.length - 16 : Nat) : Int)) := Lib.hid (by simp [seekTo]; omega)
  have x5 := h.x5
  have hna := aheadSeek
  have hme := methodSeek
  clear h hM hbs
  go_enter Tryz.func48, Tryz.ntmps48
  go_upto_region 5 with (go_at_call 159; refine (seekG 2 g bb c p (bs.length - 16) _ bs _ (by decide) HSK.out H.out.rd hl hp (by omega) (by decide) (by decide)).mono ?_; rintro e w1 ⟨rfl, r1, k1⟩)
  have HD1 := Lib.hid (H.out.move k1 r1)
  have HM1 := Lib.hid (HM.out.keep k1 (fun e => hg (Eq.symm e)))
  have HK1 := Lib.hid k1
  clear r1 k1 x5
  have x5 := HD1.out.x5
  have h16' : bs.length - 16 + 16 = bs.length := by omega
  go_cut [6] from 20 to 27 (fun v wx => v = .nilIface ∧ ∃ cs', DR wx gd g bb c bs.length cs' bs ∧ SameBut 35 13 cs cs' ∧ MagAt cs' 35 ∧ cs'[43]? = some (.int .u32 n) ∧ Keep (fun i => i = g ∨ i = gd) w1 wx)
  case first =>
    go_region_with (go_at_call 77; go_must (refine (ftrRead gd g bb c (bs.length - 16) cs bs [] n _ HD1.out.drew HBS.out hl hn).mono ?_); rintro e w2 ⟨rfl, cs', hD2, hS2, hM2, hv2, k2⟩)
    all_goals
      rw [h16'] at hD2
      go_wp2_with fail
      go_meet
      case rel => exact ⟨rfl, cs', hD2, hS2, hM2, hv2, k2.undrew⟩
  case rest =>
    obtain ⟨rfl, cs2, hD2, hS2, hM2, hv2, k2⟩ := hcut
    have HD2 := Lib.hid hD2
    have HS2 := Lib.hid hS2
    have HM2 := Lib.hid hM2
    have HV2 := Lib.hid hv2
    have HK2 := Lib.hid ((HK1.out.mono (fun i _ e => (.inl e : i = g ∨ i = gd))).trans' k2)
    have HMg := Lib.hid (HM1.out.keep k2 (fun e => by rcases e with e | e; exact hg (Eq.symm e); exact hd (Eq.symm e)))
    have y0 : wc.cell? ⟨gd, 35, none⟩ = some (.int .u8 0) := cell_of hD2.blk hM2.m0
    have y1 : wc.cell? ⟨gd, 36, none⟩ = some (.int .u8 99) := cell_of hD2.blk hM2.m1
    have y2 : wc.cell? ⟨gd, 37, none⟩ = some (.int .u8 119) := cell_of hD2.blk hM2.m2
    have y3 : wc.cell? ⟨gd, 38, none⟩ = some (.int .u8 109) := cell_of hD2.blk hM2.m3
    clear hD2 hS2 hM2 hv2 k2 x5
    go_upto_region 10 with (go_at_call 46; refine (checkMagicT _ HMg.out).mono ?_; rintro e w3 ⟨rfl, k3⟩)
    have HD3 := Lib.hid (HD2.out.far k3)
    have HK3 := Lib.hid (HK2.out.trans' (k3.mono (fun _ _ h => h.elim)))
    have x43 : w3.cell? ⟨gd, 43, none⟩ = some (.int .u32 n) := cell_of HD3.out.blk HV2.out
    have hn1 : ¬ ((n : Int) = 0) := by omega
    clear k3 y0 y1 y2 y3
    go_wp2_with fail
    go_ret
    exact ⟨rfl, cs2, HD3.out, HS2.out, HM2.out, HV2.out, HK3.out⟩
theorem RT.keepS {S : Nat → Prop} {w w' : World} {gt g bb c p : Nat} {bs : List UInt8} {v : Value} {all : List ByteArray} (h : RT w gt g bb c p bs v all) (k : Keep S w w') (h1 : ¬ S gt) (h2 : ¬ S g) (h3 : ¬ S bb) (h4 : ∀ b, v.ownBlock = some b → ¬ S b) : RT w' gt g bb c p bs v all :=
  ⟨h.blk.keep k h1, h.rd.keep k h2 h3, h.row.keep k h4, h.ne, h.nb, h.nv, Nat.lt_of_lt_of_le h.lt k.size⟩
/-- Behind readStringTable. -/
def StrP (gd g bb c p : Nat) (cs : List Value) (bs : List UInt8) (all : List ByteArray) (w : World) (e : Ending) (w' : World) : Prop :=
  e = .returned .nilIface ∧ ∃ gt gr bt ct pr v, DR w' gd g bb c p (cs.set 0 (.pointer (some ⟨gt, 0, none⟩))) bs ∧ RT w' gt gr bt ct pr (tbytes all) v all ∧ w.heap.size ≤ gt ∧ w.heap.size ≤ gr ∧ w.heap.size ≤ bt ∧ Keep (fun i => i = g ∨ i = gd) w w'
set_option maxRecDepth 100000 in
set_option maxHeartbeats 4000000 in
theorem readStringTableT (gd g bb c p : Nat) (cs : List Value) (bs r : List UInt8) (all : List ByteArray) (w : World) (h : DR w gd g bb c p cs bs) (hl : bs.length ≤ 1000000) (hbs : bs.drop p = tbytes all ++ r) (h49 : cs[49]? = some (.int .u32 (tbytes all).length)) (hal : all.length ≤ 900) (hsz : ∀ s ∈ all, s.size ≤ 1000) (hst : (tbytes all).length ≤ 100000) :
    Calls Tryz.prog 79 #[.pointer (some ⟨gd, 0, none⟩)] w (StrP gd g bb c (p + (tbytes all).length) cs bs all w) := by
  have H := Lib.hid h
  have HBS := Lib.hid hbs
  have HSZ := Lib.hid hsz
  have H49 := Lib.hid h49
  have x49 := cell_of h.blk h49
  have hfit : p + (tbytes all).length ≤ bs.length := by
    have e1 := congrArg List.length hbs
    have e2 : 0 < (tbytes all).length := by
      have := List.length_pos_iff.2 (uleb_ne all.length)
      rw [tbytes, List.length_append]; omega
    simp at e1
    omega
  have htp : (bs.drop p).take (tbytes all).length = tbytes all := by rw [hbs, List.take_left]
  have HTP := Lib.hid htp
  have htb : Hid (tbytes all = (tbytes all)) := Lib.hid rfl
  have hgl : g < w.heap.size := h.rd.blk.lt
  have hDl : gd < w.heap.size := h.blk.lt
  have hbl : bb < w.heap.size := h.rd.data.blk (by
    have e2 : 0 < (tbytes all).length := by
      have := List.length_pos_iff.2 (uleb_ne all.length)
      rw [tbytes, List.length_append]; omega
    omega) (by decide) bb rfl
  clear h hbs hsz h49 htp
  obtain ⟨T, hT⟩ : ∃ T, T = tbytes all := ⟨_, rfl⟩
  obtain ⟨st, hs⟩ : ∃ n, n = T.length := ⟨_, rfl⟩
  rw [← hT] at HBS HTP H49 x49 hfit hst ⊢
  rw [← hs] at HTP H49 x49 hfit hst ⊢
  have HT := Lib.hid hT
  have HS := Lib.hid hs
  clear hT hs htb
  have hna := aheadRead
  have hme := methodRead
  have hmk : ∀ W, (Instr.makeSlice 33 (.int .u32 st) (.int .u32 st)).run Tryz.prog W = _ := fun W => run_make_row' (P := Tryz.prog) 33 5 (.int .u8 0) 1 Tryz.underlying33 (by kernel_rfl) rfl .u32 .u32 st (by omega) (by omega) W
  obtain ⟨W1, hW1⟩ : ∃ W1, W1 = w.alloc (.cells (madeCells #[.int .u8 0] st) 5) := ⟨_, rfl⟩
  have hb1 : Blk W1 w.heap.size (B (List.replicate st 0)) 5 := by rw [hW1, made_eq]; exact Blk.new w (B (List.replicate st 0)) _
  have hk1 : Keep Non w W1 := by rw [hW1]; exact (Keep.refl _ _).alloc _
  have HB1 := Lib.hid hb1
  have HD1 := Lib.hid (H.out.far hk1)
  have HK1 := Lib.hid hk1
  have x5 := HD1.out.x5
  clear hb1 hk1
  go_enter Tryz.func79, Tryz.ntmps79
  go_upto_region 2 with (fail)
  rw [← hW1]
  clear hW1
  go_upto_region 5 with (go_at_call 158; refine (readM g bb c p w.heap.size st bs (B (List.replicate st 0)) 5 W1 HD1.out.rd HB1.out (by rw [B_length, List.length_replicate]) hl hfit (by omega) (by omega)).mono ?_; rintro e w2 ⟨rfl, r2, b2, k2⟩)
  rw [HTP.out] at b2
  have hD2 := HD1.out.move2 k2 (fun e => by rcases e with e | e; exact HD1.out.ne e; omega) r2
  have hK2 : Keep (fun i => i = g ∨ i = gd) w w2 := (HK1.out.mono (fun _ _ h => h.elim)).trans k2 (fun i hi e => by rcases e with e | e; exact .inl e; omega)
  obtain ⟨bt, hbt⟩ : ∃ b, b = w.heap.size := ⟨_, rfl⟩
  rw [← hbt] at b2 ⊢
  have HBT := Lib.hid hbt
  have HD2 := Lib.hid hD2
  have HK2 := Lib.hid hK2
  have HB2 := Lib.hid b2
  have x49 : w2.cell? ⟨gd, 49, none⟩ = some (.int .u32 st) := cell_of hD2.blk H49.out
  have hwr : IntKind.i64.wrap (st : Int) = (st : Int) := IntWalk.i64_in _ (by omega)
  clear x5 k2 r2 b2 hK2 hD2 hbt HD1 HB1 HK1 H
  go_upto_region 8 with (go_at_call 23; refine (newReader (some ⟨bt, 0, none⟩) st st w2).mono ?_; rintro e w3 ⟨rfl, b3, k3⟩)
  have hbt2 := HB2.out.lt
  obtain ⟨gr, hgr⟩ : ∃ b, b = w2.heap.size := ⟨_, rfl⟩
  rw [← hgr] at b3 ⊢
  have hD3 := HD2.out.far k3
  have hB3 := HB2.out.keep k3 (fun h => h)
  have hb3l := b3.lt
  have hRR3 : RR w3 gr bt st 0 T := ⟨by rw [← HS.out]; exact b3, by
    have := subR hB3 HS.out.symm 0
    rw [Nat.sub_zero, List.drop_zero] at this
    rw [← HS.out]
    exact this, by rw [← HS.out]; exact Nat.le_refl _, by omega⟩
  have HGR := Lib.hid hgr
  have HD3 := Lib.hid hD3
  have HR3 := Lib.hid hRR3
  have HK3 := Lib.hid (HK2.out.trans' (k3.mono (fun _ _ h => h.elim)))
  have hk3s := k3.size
  clear x49 k3 b3 hD3 hB3 hRR3 hgr
  obtain ⟨v0, hv0⟩ : ∃ v, cs[0]? = some v := ⟨_, List.getElem?_eq_getElem (by have := HD3.out.len; omega)⟩
  go_upto_region 9 with (go_at_call 90; refine (rtNew gr w3).mono ?_; rintro e w4 ⟨rfl, b4, k4⟩; have hD4 := HD3.out.far k4; have x0 := cell_of hD4.blk hv0; have f0 := hD4.blk.free 0)
  obtain ⟨gt, hgt⟩ : ∃ b, b = w3.heap.size := ⟨_, rfl⟩
  rw [← hgt] at b4 ⊢
  have hs4 := b4.lt
  have hne1 : gt ≠ gd := by have := HK3.out.size; omega
  have hD5 := hD4.set 0 (.pointer (some ⟨gt, 0, none⟩)) (by decide)
  have hK5 : Keep (fun i => i = g ∨ i = gd) w (w4.setCell ⟨gd, 0, none⟩ (.pointer (some ⟨gt, 0, none⟩))) := (HK3.out.trans' (k4.mono (fun _ _ h => h.elim))).setAt _ _ _ (.inr rfl)
  have hT5 : RT (w4.setCell ⟨gd, 0, none⟩ (.pointer (some ⟨gt, 0, none⟩))) gt gr bt st 0 T (.slice none 0 0) [] :=
    { blk := b4.setOther hne1 _
      rd := (HR3.out.keep k4 (fun h => h) (fun h => h)).keep (Keep.one w4 gd 0 _) (fun e => by have e : gr = gd := e; have := HGR.out; have := HK2.out.size; omega) (fun e => by have e : bt = gd := e; have := HBT.out; omega)
      row := World.ownsRow_nil _ 0 _ 1
      ne := by omega
      nb := by omega
      nv := by simp [Value.ownBlock]
      lt := by
        have := (Keep.one w4 gd 0 (.pointer (some ⟨gt, 0, none⟩))).size
        omega }
  have HD5 := Lib.hid hD5
  have HK5 := Lib.hid hK5
  have HT5 := Lib.hid hT5
  have l1 : w.heap.size ≤ gt := by have := HK3.out.size; omega
  have l2 : w.heap.size ≤ gr := by have := HK2.out.size; have := HGR.out; omega
  have l3 : w.heap.size ≤ bt := by have := HBT.out; omega
  have hdrop : T.drop 0 = tbytes all ++ [] := by rw [List.drop_zero, List.append_nil, HT.out]
  have HDROP := Lib.hid hdrop
  clear x0 f0 hD4 hD5 hK5 hT5 b4 k4 hgt hv0 hdrop
  generalize w4.setCell ⟨gd, 0, none⟩ (.pointer (some ⟨gt, 0, none⟩)) = W5 at *
  have z0 : W5.cell? ⟨gd, 0, none⟩ = some (.pointer (some ⟨gt, 0, none⟩)) := cell_of HD5.out.blk (by rw [List.getElem?_set_self (by have := HD3.out.len; omega)])
  go_wp2_with (go_at_call 91; refine (rtReadAt gt gr bt st 0 T [] all _ HT5.out hal HSZ.out (by have := HS.out; omega) HDROP.out).mono ?_; rintro e w6 ⟨rfl, ⟨p6, v6, h6, hp6⟩, k6⟩)
  go_ret
  refine ⟨rfl, gt, gr, bt, st, p6, v6, HD5.out.keep k6 (fun e => by rcases e with e | e <;> omega) (fun e => by rcases e with e | e <;> omega) (fun e => by rcases e with e | e <;> omega), ?_, l1, l2, l3, HK5.out.trans k6 (fun i hi e => by rcases e with e | e <;> omega)⟩
  rw [← HT.out]
  exact h6
end Go.Proofs.YtcpegoofbenoiaaGreatDoor
