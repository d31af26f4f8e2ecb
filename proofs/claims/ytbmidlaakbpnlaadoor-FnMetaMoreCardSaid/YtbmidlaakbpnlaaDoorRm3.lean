/-
  THE CONTRACT of the reading of a description's head.
-/
import Derived.Test.YtbmidlaakbpnlaaDoorRm2
import Derived.Test.YtbmidlaakbpnlaaDoorKf
import Derived.Test.YtbmidlaakbpnlaaDoorMe8
namespace Go.Proofs.YtbmidlaakbpnlaaDoor
open Go.RowKit
open Go.ChangeShapes Go.WideShapes Go.ChangeAt Go.Deep
open Plain (M64)

theorem leB_leb : ∀ n v, leB n v = leb n v
  | 0, _ => rfl
  | n + 1, v => by rw [leB, leb, leB_leb n]
def zeros44 : List Value := List.replicate 44 (.int .u8 0)
/-- What of a decoder's cells stays: all but the head's. -/
structure HC (cs0 cs : List Value) : Prop where
  len : cs.length = 30
  c0 : cs[0]? = cs0[0]?
  c27 : cs[27]? = cs0[27]?
  c28 : cs[28]? = cs0[28]?
  c29 : cs[29]? = cs0[29]?
/-- The head's numbers. -/
structure H4 (cs : List Value) (len p q m : Nat) : Prop where
  h1 : cs[1]? = some (.int .u32 (len : Int))
  h2 : cs[2]? = some (.int .u32 (q : Int))
  h3 : cs[3]? = some (.int .u32 (p : Int))
  h4 : cs[4]? = some (.int .u32 (m : Int))
/-- Behind the head's Read. -/
def HdrPost (gD g bb c : Nat) (cs0 : List Value) (bs : List UInt8) (len p q m nn : Nat) (w : World) (e : Ending) (w' : World) : Prop :=
  e = .returned .nilIface ∧ RR w' g bb c 44 bs ∧ (∃ cs, Blk w' gD cs 115 ∧ HC cs0 cs ∧ H4 cs len p q m ∧ cs[26]? = some (.int .u32 (nn : Int))) ∧ Keep (fun i => i = g ∨ i = gD) w w'
theorem wrap32 (x : Nat) (h : x < 4294967296) : IntKind.u32.wrap (x : Int) = (x : Int) := by
  simp [IntKind.wrap, IntKind.bits, IntKind.signed]; omega
theorem splice_out (cur : List Value) (off : Nat) (ds : List Value) (i : Nat) (h : i < off ∨ off + ds.length ≤ i) (hl : off + ds.length ≤ cur.length) : (splice cur off ds)[i]? = cur[i]? := by
  rw [splice]
  rcases h with h | h
  · rw [List.getElem?_append_left (by simp; omega), List.getElem?_take_of_lt h]
  · rw [← List.append_assoc, List.getElem?_append_right (by simp; omega), List.getElem?_drop]
    congr 1
    simp
    omega
theorem cpSrc {W : World} {gb : Nat} {l : List UInt8} {T : TypeId} (hb : Blk W gb (B l) T) (hl : l.length = 44) : Reads W 1 (.slice (some ⟨gb, 16, none⟩) 16 28) 16 (B ((l.drop 16).take 16)) := by
  refine ⟨by simp [B_length, hl], .inr ⟨_, _, rfl, fun j u hj => ?_⟩⟩
  have hj16 : j < 16 := by
    have := (List.getElem?_eq_some_iff.1 hj).1
    simp [B_length, hl] at this
    omega
  rw [addr_add, hb.cell]
  have e : B ((l.drop 16).take 16) = ((B l).drop 16).take 16 := by simp [B, List.map_drop, List.map_take]
  rw [e, List.getElem?_take_of_lt hj16, List.getElem?_drop] at hj
  exact hj
set_option maxRecDepth 100000 in
set_option maxHeartbeats 8000000 in
theorem hdrRead (gD g bb c : Nat) (cs : List Value) (bs r : List UInt8) (len p q m nf nn : Nat) (dig : List UInt8) (w : World) (hR : RR w g bb c 0 bs) (hD : Blk w gD cs 115) (hcs : cs.length = 30) (hbs : bs = mhead len p q m dig nf nn ++ r) (hd : dig.length = 16) (hl : bs.length ≤ 1000000) (hbD : bb ≠ gD)
    (h1 : len < 4294967296) (h2 : p < 4294967296) (h3 : q < 4294967296) (h4 : m < 4294967296) (h5 : nf < 4294967296) (h6 : nn < 4294967296) :
    Calls Tryd.prog 54 #[.pointer (some ⟨gD, 1, none⟩), .iface 111 (.pointer (some ⟨g, 0, none⟩))] w (HdrPost gD g bb c cs bs len p q m nn w) := by
  obtain ⟨W1, hW1⟩ : ∃ W1, W1 = w.alloc (.cells #[.int .u8 0, .int .u8 0, .int .u8 0, .int .u8 0, .int .u8 0, .int .u8 0, .int .u8 0, .int .u8 0, .int .u8 0, .int .u8 0, .int .u8 0, .int .u8 0, .int .u8 0, .int .u8 0, .int .u8 0, .int .u8 0, .int .u8 0, .int .u8 0, .int .u8 0, .int .u8 0, .int .u8 0, .int .u8 0, .int .u8 0, .int .u8 0, .int .u8 0, .int .u8 0, .int .u8 0, .int .u8 0, .int .u8 0, .int .u8 0, .int .u8 0, .int .u8 0, .int .u8 0, .int .u8 0, .int .u8 0, .int .u8 0, .int .u8 0, .int .u8 0, .int .u8 0, .int .u8 0, .int .u8 0, .int .u8 0, .int .u8 0, .int .u8 0] 149) := ⟨_, rfl⟩
  have hb1 : Blk W1 w.heap.size zeros44 149 := by rw [hW1]; exact Blk.new w zeros44 _
  have hk1 : Keep Non w W1 := by rw [hW1]; exact (Keep.refl _ _).alloc _
  have hz1 : W1.heap.size = w.heap.size + 1 := by rw [hW1]; simp
  have hgl : g < w.heap.size := hR.blk.lt
  have hDl : gD < w.heap.size := hD.lt
  have hml := mhead_length len p q m dig nf nn hd
  have hbl : bb < w.heap.size := hR.data.blk (by rw [hbs, List.length_append]; omega) (by decide) bb rfl
  have HB1 := Lib.hid hb1
  have HR1 := Lib.hid (hR.keep hk1 (fun h => h) (fun h => h))
  have HD1 := Lib.hid (hD.keep hk1 (fun h => h))
  have HK1 := Lib.hid hk1
  have HCS := Lib.hid hcs
  have HBS := Lib.hid hbs
  have HDL := Lib.hid hd
  have HBD : Hid (¬ At gD bb) := Lib.hid (fun e => hbD e)
  have hfit : 0 + 44 ≤ bs.length := by rw [hbs, List.length_append]; omega
  clear hb1 hk1 hz1 hR hD hml hcs hbs hd
  go_enter Tryd.func54, Tryd.ntmps54
  go_wp2_with fail
  rw [← hW1]
  clear hW1
  refine (readFull2 g bb c 0 w.heap.size 44 bs zeros44 149 W1 HR1.out HB1.out rfl hl hfit (by omega) (by omega) (by decide)).mono ?_
  rintro e w2 ⟨rfl, h2', b2, k2⟩
  have hgD : gD ≠ g := fun e => HD1.out.ne HR1.out.blk (by decide) e
  have hl44 : (bs.drop 0).take 44 = mhead len p q m dig nf nn := by
    rw [HBS.out, List.drop_zero, ← mhead_length len p q m dig nf nn HDL.out, List.take_left]
  rw [hl44] at b2
  rw [Nat.zero_add] at h2'
  have hD2 := HD1.out.keep k2 (fun e => by rcases e with e | e <;> omega)
  have hk : Keep (fun i => i = g ∨ i = gD) w w2 := (HK1.out.mono (fun _ _ h => h.elim)).trans k2 (fun i hi e => by rcases e with e | e; exact .inl e; omega)
  obtain ⟨gb, hgb⟩ : ∃ gb, gb = w.heap.size := ⟨_, rfl⟩
  rw [← hgb] at b2 ⊢
  have HGB : Hid (gb ≠ gD) := Lib.hid (by omega)
  have HGD := Lib.hid hgD
  have HH2 := Lib.hid h2'
  have HD2 := Lib.hid hD2
  have HB2 := Lib.hid b2
  have HK2 := Lib.hid hk
  obtain ⟨l, hll⟩ : ∃ l, l = mhead len p q m dig nf nn := ⟨_, rfl⟩
  rw [← hll] at HB2
  have hlen : l.length = 44 := by rw [hll]; exact mhead_length len p q m dig nf nn HDL.out
  have hsub : ∀ W, Blk W gb (B l) 149 → ∀ lo, lo ≤ 40 → Reads W 1 (.slice (some ⟨gb, lo, none⟩) (44 - lo) (44 - lo)) (44 - lo) (B (l.drop lo)) := by
    intro W hb lo hlo
    refine ⟨by simp [B_length, hlen], .inr ⟨_, _, rfl, fun j u hj => ?_⟩⟩
    rw [addr_add, hb.cell]
    have e : B (l.drop lo) = (B l).drop lo := by simp [B, List.map_drop]
    rw [e, List.getElem?_drop] at hj
    exact hj
  obtain ⟨a0, a1, a2, a3, a4, a5, a6, a7, a8, a9, a10, a11, a12, a13, a14, a15, hdig⟩ := sixteen HDL.out
  have t0 : (l.drop 0).take 4 = leb 4 len := by rw [hll, hdig, ← leB_leb]; rfl
  have t4 : (l.drop 4).take 4 = leb 4 q := by rw [hll, hdig, ← leB_leb]; rfl
  have t8 : (l.drop 8).take 4 = leb 4 p := by rw [hll, hdig, ← leB_leb]; rfl
  have t12 : (l.drop 12).take 4 = leb 4 m := by rw [hll, hdig, ← leB_leb]; rfl
  have t36 : (l.drop 36).take 4 = leb 4 nf := by rw [hll, hdig, ← leB_leb]; rfl
  have t40 : (l.drop 40).take 4 = leb 4 nn := by rw [hll, hdig, ← leB_leb]; rfl
  have T0 := Lib.hid t0
  have T4 := Lib.hid t4
  have T8 := Lib.hid t8
  have T12 := Lib.hid t12
  have T36 := Lib.hid t36
  have T40 := Lib.hid t40
  have HSUB := Lib.hid hsub
  have HLEN := Lib.hid hlen
  clear t0 t4 t8 t12 t36 t40 hdig hll hsub hlen h2' hD2 b2 k2 hk hgb hl44 hgD HR1 HD1 HB1 HK1 hfit hgl hDl hbl
  obtain ⟨v1, hv1⟩ : ∃ v1, w2.cell? ⟨gD, 1, none⟩ = some v1 := ⟨cs[1]'(by rw [HCS.out]; decide), by rw [HD2.out.cell, List.getElem?_eq_getElem]⟩
  obtain ⟨v2, hv2⟩ : ∃ v1, w2.cell? ⟨gD, 2, none⟩ = some v1 := ⟨cs[2]'(by rw [HCS.out]; decide), by rw [HD2.out.cell, List.getElem?_eq_getElem]⟩
  obtain ⟨v3, hv3⟩ : ∃ v1, w2.cell? ⟨gD, 3, none⟩ = some v1 := ⟨cs[3]'(by rw [HCS.out]; decide), by rw [HD2.out.cell, List.getElem?_eq_getElem]⟩
  obtain ⟨v4, hv4⟩ : ∃ v1, w2.cell? ⟨gD, 4, none⟩ = some v1 := ⟨cs[4]'(by rw [HCS.out]; decide), by rw [HD2.out.cell, List.getElem?_eq_getElem]⟩
  have f1 := HD2.out.free 1
  have f2 := HD2.out.free 2
  have f3 := HD2.out.free 3
  have f4 := HD2.out.free 4
  have k1 := wrap32 len h1
  have k2 := wrap32 q h3
  have k3 := wrap32 p h2
  have k4 := wrap32 m h4
  go_upto_region 5 with (fail)
  go_cut [] from 17 to 40 (fun wx => (∃ cs', Blk wx gD cs' 115 ∧ HC cs cs' ∧ H4 cs' len p q m) ∧ Keep (At gD) w2 wx)
  case first =>
    go_region_held3 (fun _ => True) (trivial)
      (first
        | (go_at_call_of 59 (Value.slice (some ⟨gb, 0, none⟩) 44 44); refine (ofT _ 44 4 _ len _ (HSUB.out _ HB2.out.drew 0 (by decide)) (by decide) (by decide) T0.out (by omega) (by omega)).mono ?_; rintro e w3 ⟨rfl, rfl⟩)
        | (go_at_call_of 59 (Value.slice (some ⟨gb, 4, none⟩) 40 40); refine (ofT _ 40 4 _ q _ (HSUB.out _ HB2.out.drew 4 (by decide)) (by decide) (by decide) T4.out (by omega) (by omega)).mono ?_; rintro e w3 ⟨rfl, rfl⟩)
        | (go_at_call_of 59 (Value.slice (some ⟨gb, 8, none⟩) 36 36); refine (ofT _ 36 4 _ p _ (HSUB.out _ HB2.out.drew 8 (by decide)) (by decide) (by decide) T8.out (by omega) (by omega)).mono ?_; rintro e w3 ⟨rfl, rfl⟩)
        | (go_at_call_of 59 (Value.slice (some ⟨gb, 12, none⟩) 32 32); refine (ofT _ 32 4 _ m _ (HSUB.out _ HB2.out.drew 12 (by decide)) (by decide) (by decide) T12.out (by omega) (by omega)).mono ?_; rintro e w3 ⟨rfl, rfl⟩))
    all_goals
      go_wp2_with fail
      go_meet
      case rel =>
        have hb := ((((HD2.out.drew).set 1 (.int .u32 len)).set 2 (.int .u32 q)).set 3 (.int .u32 p)).set 4 (.int .u32 m)
        refine ⟨⟨_, hb, ⟨by simp [HCS.out], by simp, by simp, by simp, by simp⟩, ⟨by simp [HCS.out], by simp [HCS.out], by simp [HCS.out], by simp [HCS.out]⟩⟩, ?_⟩
        exact ((((Keep.refl _ _).drew.setAt _ _ _ (atSelf _)).setAt _ _ _ (atSelf _)).setAt _ _ _ (atSelf _)).setAt _ _ _ (atSelf _)
  case rest =>
    obtain ⟨⟨cs3, hb3, hc3, hh3⟩, k3'⟩ := hcut
    have B3 := Lib.hid hb3
    have C3 := Lib.hid hc3
    have HH3 := Lib.hid hh3
    have KK3 := Lib.hid k3'
    have HBw := Lib.hid (HB2.out.keep k3' (fun e => HGB.out e))
    obtain ⟨W3, rfl⟩ : ∃ W3, W3 = wc := ⟨_, rfl⟩
    clear hb3 hc3 hh3 k3' hv1 hv2 hv3 hv4 f1 f2 f3 f4 k1 k2 k3 k4
    have hu16 : Tryd.prog.underlying 67 = some (.array 16 5) := by kernel_rfl
    go_upto_region 6 with (fail)
    go_cut [] from 41 to 46 (fun wx => (∃ cs', Blk wx gD cs' 115 ∧ HC cs cs' ∧ H4 cs' len p q m) ∧ Keep (At gD) W3 wx)
    case first =>
      go_region_held3 (fun _ => True) (trivial)
        (first
          | (refine step_cp (n := 16) (T := 115) (cur := cs3) (xs := B ((l.drop 16).take 16)) Tryd.underlying31 (by kernel_rfl) rfl _ _ rfl rfl rfl B3.out.drew (cpSrc HBw.out.drew HLEN.out) (by decide) (by rw [C3.out.len]; decide) (B_one _) ?_; intro w4 b4 k4))
      all_goals
        go_wp2_with fail
        go_meet
        case rel =>
          have hl16 : ((B ((l.drop 16).take 16)).take (min 16 16)).length = 16 := by simp [B_length, HLEN.out]
          have hc := C3.out
          have hh := HH3.out
          refine ⟨⟨_, b4, ⟨?_, ?_, ?_, ?_, ?_⟩, ⟨?_, ?_, ?_, ?_⟩⟩, k4.undrew⟩
          · rw [length_splice _ _ _ (by rw [hl16, hc.len]; decide)]; exact hc.len
          · rw [splice_out _ _ _ _ (by omega) (by rw [hl16, hc.len]; decide)]; exact hc.c0
          · rw [splice_out _ _ _ _ (by omega) (by rw [hl16, hc.len]; decide)]; exact hc.c27
          · rw [splice_out _ _ _ _ (by omega) (by rw [hl16, hc.len]; decide)]; exact hc.c28
          · rw [splice_out _ _ _ _ (by omega) (by rw [hl16, hc.len]; decide)]; exact hc.c29
          · rw [splice_out _ _ _ _ (by omega) (by rw [hl16, hc.len]; decide)]; exact hh.h1
          · rw [splice_out _ _ _ _ (by omega) (by rw [hl16, hc.len]; decide)]; exact hh.h2
          · rw [splice_out _ _ _ _ (by omega) (by rw [hl16, hc.len]; decide)]; exact hh.h3
          · rw [splice_out _ _ _ _ (by omega) (by rw [hl16, hc.len]; decide)]; exact hh.h4
    case rest =>
      obtain ⟨⟨cs4, hb4, hc4, hh4⟩, k4'⟩ := hcut
      have B4 := Lib.hid hb4
      have C4 := Lib.hid hc4
      have HH4 := Lib.hid hh4
      have KK4 := Lib.hid (KK3.out.trans' k4')
      have HBx := Lib.hid (HBw.out.keep k4' (fun e => HGB.out e))
      obtain ⟨W4, rfl⟩ : ∃ W4, W4 = wc := ⟨_, rfl⟩
      clear hb4 hc4 hh4 k4' hu16
      obtain ⟨v1, hv1⟩ : ∃ v1, W4.cell? ⟨gD, 25, none⟩ = some v1 := ⟨cs4[25]'(by rw [C4.out.len]; decide), by rw [B4.out.cell, List.getElem?_eq_getElem]⟩
      obtain ⟨v2, hv2⟩ : ∃ v1, W4.cell? ⟨gD, 26, none⟩ = some v1 := ⟨cs4[26]'(by rw [C4.out.len]; decide), by rw [B4.out.cell, List.getElem?_eq_getElem]⟩
      have f1 := B4.out.free 25
      have f2 := B4.out.free 26
      have k1 := wrap32 nf h5
      have k2 := wrap32 nn h6
      go_upto_region 7 with (fail)
      go_cut [] from 47 to 58 (fun wx => (∃ cs', Blk wx gD cs' 115 ∧ HC cs cs' ∧ H4 cs' len p q m ∧ cs'[26]? = some (.int .u32 (nn : Int))) ∧ Keep (At gD) W4 wx)
      case first =>
        go_region_held3 (fun _ => True) (trivial)
          (first
            | (go_at_call_of 59 (Value.slice (some ⟨gb, 36, none⟩) 8 8); refine (ofT _ 8 4 _ nf _ (HSUB.out _ HBx.out.drew 36 (by decide)) (by decide) (by decide) T36.out (by omega) (by omega)).mono ?_; rintro e w3 ⟨rfl, rfl⟩)
            | (go_at_call_of 59 (Value.slice (some ⟨gb, 40, none⟩) 4 4); refine (ofT _ 4 4 _ nn _ (HSUB.out _ HBx.out.drew 40 (by decide)) (by decide) (by decide) T40.out (by omega) (by omega)).mono ?_; rintro e w3 ⟨rfl, rfl⟩))
        all_goals
          go_wp2_with fail
          go_meet
          case rel =>
            have hb := ((B4.out.drew).set 25 (.int .u32 nf)).set 26 (.int .u32 nn)
            have hc := C4.out
            have hh := HH4.out
            refine ⟨⟨_, hb, ⟨by simp [hc.len], by simpa using hc.c0, by simpa using hc.c27, by simpa using hc.c28, by simpa using hc.c29⟩, ⟨by simpa using hh.h1, by simpa using hh.h2, by simpa using hh.h3, by simpa using hh.h4⟩, by simp [hc.len]⟩, ?_⟩
            exact ((Keep.refl _ _).drew.setAt _ _ _ (atSelf _)).setAt _ _ _ (atSelf _)
      case rest =>
        obtain ⟨⟨cs5, hb5, hc5, hh5, hn5⟩, k5'⟩ := hcut
        have B5 := Lib.hid hb5
        have C5 := Lib.hid hc5
        have HH5 := Lib.hid hh5
        have HN5 := Lib.hid hn5
        have KK5 := Lib.hid (KK4.out.trans' k5')
        clear hb5 hc5 hh5 hn5 k5' hv1 hv2 f1 f2 k1 k2
        go_wp2
        go_ret
        exact ⟨rfl, HH2.out.keep KK5.out (fun e => HGD.out (Eq.symm e)) HBD.out, ⟨cs5, B5.out, C5.out, HH5.out, HN5.out⟩, HK2.out.trans KK5.out (fun i _ e => .inr e)⟩
end Go.Proofs.YtbmidlaakbpnlaaDoor
