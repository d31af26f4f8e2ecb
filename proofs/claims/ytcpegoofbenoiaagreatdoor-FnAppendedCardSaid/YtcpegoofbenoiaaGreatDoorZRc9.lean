/-
  CONTRACT: a new reader of counters.
-/
import Derived.Test.YtcpegoofbenoiaaGreatDoorZRp1
namespace Go.Proofs.YtcpegoofbenoiaaGreatDoor
open Go.RowKit
open Go.ChangeShapes Go.WideShapes Go.ChangeAt Go.Deep
open Plain (M64)

def cells0 (g bu b8 : Nat) : List Value := [.pointer none, .map none, .slice none 0 0, .string ⟨#[]⟩, .string ⟨#[]⟩, .iface 71 (.pointer (some ⟨g, 0, none⟩)), .int .u8 0, .int .u8 0, .int .u8 0, .int .u8 0, .int .u32 0, .int .u8 0, .int .u8 0, .int .u8 0, .int .u8 0, .int .u8 0, .int .u8 0, .int .u8 0, .int .u8 0, .int .u8 0, .int .u8 0, .int .u8 0, .int .u8 0, .int .u8 0, .int .u8 0, .int .u8 0, .int .u8 0, .int .u8 0, .bool false, .int .u8 0, .int .u8 0, .int .u8 0, .int .u8 0, .int .u8 0, .int .u8 0, .int .u8 0, .int .u8 0, .int .u8 0, .int .u8 0, .int .u8 0, .int .u8 0, .int .u8 0, .int .u8 0, .int .u32 0, .int .u8 0, .int .u8 0, .int .u8 0, .int .u8 0, .int .u64 0, .int .u32 0, .int .u32 0, .slice (some ⟨bu, 0, none⟩) 4 4, .slice (some ⟨b8, 0, none⟩) 1 1, .int .u32 0, .int .u32 0, .bool false]
/-- A reader with its two buffers; what it has counted. -/
structure CD (w : World) (gd g bb c p bu b8 fl nseg fc sc : Nat) (cs : List Value) (bs : List UInt8) : Prop where
  d : DR w gd g bb c p cs bs
  c51 : cs[51]? = some (.slice (some ⟨bu, 0, none⟩) 4 4)
  c52 : cs[52]? = some (.slice (some ⟨b8, 0, none⟩) 1 1)
  mu : ∃ us : List Value, us.length = 4 ∧ Blk w bu us 5
  m8 : ∃ us : List Value, us.length = 1 ∧ Blk w b8 us 5
  c27 : cs[27]? = some (.int .u8 fl)
  c28 : cs[28]? = some (.bool false)
  c43 : cs[43]? = some (.int .u32 nseg)
  c53 : cs[53]? = some (.int .u32 fc)
  c54 : cs[54]? = some (.int .u32 sc)
  ne : bu ≠ b8
  nu : bu ≠ bb
  n8 : b8 ≠ bb
/-- What it tells of a segment. -/
structure Told (w : World) (s : Sg) (fe : Nat) (cs : List Value) : Prop where
  fe : cs[48]? = some (.int .u64 fe)
  args : ∃ v, cs[2]? = some v ∧ Row w 9 1 v s.args.length (Ts s.args)
  arch : cs[3]? = some (.string s.arch)
  os : cs[4]? = some (.string s.os)
def noSg : Sg := ⟨[], ⟨#[]⟩, ⟨#[]⟩, []⟩
theorem Told.zero (w : World) (g bu b8 : Nat) : Told w noSg 0 (cells0 g bu b8) := ⟨rfl, ⟨_, rfl, World.ownsRow_nil _ _ _ _⟩, rfl, rfl⟩
theorem Told.other {w : World} {s : Sg} {fe : Nat} {cs cs' : List Value} (h : Told w s fe cs) (h48 : cs'[48]? = cs[48]?) (h2 : cs'[2]? = cs[2]?) (h3 : cs'[3]? = cs[3]?) (h4 : cs'[4]? = cs[4]?) : Told w s fe cs' :=
  ⟨by rw [h48]; exact h.fe, by rw [h2]; exact h.args, by rw [h3]; exact h.arch, by rw [h4]; exact h.os⟩
theorem Told.keep {S : Nat → Prop} {w w' : World} {s : Sg} {fe : Nat} {cs : List Value} (h : Told w s fe cs) (k : Keep S w w') (hn : ∀ v, Row w 9 1 v s.args.length (Ts s.args) → ∀ b, v.ownBlock = some b → ¬ S b) : Told w' s fe cs := by
  obtain ⟨v, hv, hr⟩ := h.args
  exact ⟨h.fe, ⟨v, hv, hr.keep k (hn v hr)⟩, h.arch, h.os⟩
/-- The next one tells what it was told, and keeps nothing of the former. -/
theorem Told.next {w w' : World} {t s : Sg} {fe fe' n0 gd g bb c p : Nat} {cs cs' : List Value} {bs : List UInt8} (h : Told w t fe cs) (hd : DR w gd g bb c p cs bs) (k : Keep (fun i => i = g ∨ i = gd) w w') (hS : SegC s fe' n0 cs cs' w')
    (hm : (t.args ≠ [] → s.args ≠ []) ∧ (t.os.size ≠ 0 → s.os.size ≠ 0) ∧ (t.arch.size ≠ 0 → s.arch.size ≠ 0)) : Told w' s fe' cs' := by
  have h1 := h.keep k (fun v hr b hb e => by
    rcases e with e | e
    · exact hr.neBlk hd.rd.blk (by decide) (by rw [hb, e])
    · exact hr.neBlk hd.blk (by decide) (by rw [hb, e]))
  have ez : ∀ {x y : ByteArray}, x.size = 0 → (y.size ≠ 0 → x.size ≠ 0) → y = x := fun hx hy => by
    have : _ := Decidable.byContradiction fun e => hy e hx
    rw [size0.1 hx, size0.1 this]
  refine ⟨hS.fe, ?_, ?_, ?_⟩
  · have := hS.args
    split at this
    · rename_i hn
      have ht : t.args = [] := Decidable.byContradiction fun e => hm.1 e hn
      obtain ⟨v, hv, hr⟩ := h1.args
      rw [ht] at hr
      rw [this, hn]
      exact ⟨v, hv, hr⟩
    · obtain ⟨v, hv, hr, _⟩ := this
      exact ⟨v, hv, hr⟩
  · rw [hS.arch]
    split
    · rename_i hn
      rw [h.arch, ez hn hm.2.2]
    · rfl
  · rw [hS.os]
    split
    · rename_i hn
      rw [h.os, ez hn hm.2.1]
    · rfl
structure NewD (w wx : World) (gd g bb c p bu b8 : Nat) (bs : List UInt8) : Prop where
  d : DR wx gd g bb c p (cells0 g bu b8) bs
  mu : Blk wx bu (B (List.replicate 4 0)) 5
  m8 : Blk wx b8 (B (List.replicate 1 0)) 5
  ne : bu ≠ b8
  keep : Keep Non w wx
  ld : w.heap.size ≤ gd
  lu : w.heap.size ≤ bu
  l8 : w.heap.size ≤ b8
theorem newD_of {w wB : World} {gd g bb c p bu b8 : Nat} {bs : List UInt8} (hg : wB.heap.size = gd) (r : RR wB g bb c p bs) (hb : bb < wB.heap.size) (b1 : Blk wB bu (B (List.replicate 4 0)) 5) (b2 : Blk wB b8 (B (List.replicate 1 0)) 5) (k : Keep Non w wB)
    (lu : w.heap.size ≤ bu) (l8 : w.heap.size ≤ b8) (ne : bu ≠ b8) : NewD w (wB.alloc (.cells (cells0 g bu b8).toArray 122)) gd g bb c p bu b8 bs where
  d := ⟨by rw [← hg]; exact Blk.new wB _ _, rfl, rfl, r.keep ((Keep.refl Non _).alloc _) (fun h => h) (fun h => h), by omega⟩
  mu := b1.alloc _
  m8 := b2.alloc _
  ne := ne
  keep := k.alloc _
  ld := by rw [← hg]; exact k.size
  lu := lu
  l8 := l8
theorem NewD.drew {w wx : World} {gd g bb c p bu b8 : Nat} {bs : List UInt8} (h : NewD w wx gd g bb c p bu b8 bs) : NewD w wx.drew gd g bb c p bu b8 bs :=
  ⟨h.d.drew, h.mu.keep (Keep.refl Non _).drew (fun h => h), h.m8.keep (Keep.refl Non _).drew (fun h => h), h.ne, h.keep.drew, h.ld, h.lu, h.l8⟩
def uO : Obj := .cells (B (List.replicate 4 0)).toArray 5
def vO : Obj := .cells (B (List.replicate 1 0)).toArray 5
theorem uNew (W : World) : Blk (W.alloc uO) W.heap.size (B (List.replicate 4 0)) 5 := Blk.new W (B (List.replicate 4 0)) _
theorem vNew (W : World) : Blk (W.alloc vO) W.heap.size (B (List.replicate 1 0)) 5 := Blk.new W (B (List.replicate 1 0)) _
theorem vNew1 (W : World) : Blk ((W.alloc uO).alloc vO) (W.heap.size + 1) (B (List.replicate 1 0)) 5 := by
  have := vNew (W.alloc uO)
  rwa [size1] at this
theorem uNew1 (W : World) : Blk ((W.alloc vO).alloc uO) (W.heap.size + 1) (B (List.replicate 4 0)) 5 := by
  have := uNew (W.alloc vO)
  rwa [size1] at this
set_option maxRecDepth 100000 in
set_option maxHeartbeats 8000000 in
theorem newDr (packed : Bool) (hash : List UInt8) (C : List Ch) (x : Ch) (g bb c : Nat) (bs : List UInt8) (fn : ByteArray) (w : World) (h : RR w g bb c 0 bs) (hM : Mag w) (hF : FileB packed hash (x :: C) bs) (hh : hash.length = 16) (hl : bs.length ≤ 1000000) (hx : x.1.ok) (hC : C.length ≤ 10) :
    Calls Tryz.prog 22 #[.string fn, .iface 71 (.pointer (some ⟨g, 0, none⟩))] w fun e w' => ∃ gd bu b8 cs, e = .returned (.tuple #[.pointer (some ⟨gd, 0, none⟩), .nilIface]) ∧ CD w' gd g bb c (posOf packed [] + headL x.1 x.2.1 x.2.2) bu b8 (if packed then 2 else 1) (C.length + 1) 0 0 cs bs ∧ Told w' x.1 x.1.funs.length cs ∧ Keep (At g) w w' ∧ w.heap.size ≤ gd ∧ w.heap.size ≤ bu ∧ w.heap.size ≤ b8 := by
  have hmk4 : ∀ W, (Instr.makeSlice 33 (.int .i64 4) (.int .i64 4)).run Tryz.prog W = _ := fun W => run_make_row' (P := Tryz.prog) 33 5 (.int .u8 0) 1 Tryz.underlying33 (by kernel_rfl) rfl .i64 .i64 4 (by omega) (by omega) W
  have hmk1 : ∀ W, (Instr.makeSlice 33 (.int .i64 1) (.int .i64 1)).run Tryz.prog W = _ := fun W => run_make_row' (P := Tryz.prog) 33 5 (.int .u8 0) 1 Tryz.underlying33 (by kernel_rfl) rfl .i64 .i64 1 (by omega) (by omega) W
  have H := Lib.hid h
  have HM := Lib.hid hM
  have hlen := hF.len hh
  have hz0 : (x :: C).map (chL packed) = chL packed x :: C.map (chL packed) := rfl
  have h32 : 32 ≤ bs.length := by rw [hlen, posOf]; omega
  have HA : Hid (RR w g bb c 0 bs ∧ bb < w.heap.size) := Lib.hid ⟨h, h.data.blk (by omega) (by decide) bb rfl⟩
  have hgdM : ∀ gd, w.heap.size ≤ gd → gd ≠ 1 := fun gd hgd => by
    have h1 : 1 < w.heap.size := cell_lt hM.m0
    omega
  have hgM : g ≠ 1 := hM.ne h.blk (by simp [rcells])
  have h10 : bs.drop 0 = headB hash (if packed then 2 else 1) ++ segsB packed 0 0 (x :: C) := hF.head
  obtain ⟨C1, y, hC1⟩ : ∃ C1 y, x :: C = C1 ++ [y] := ⟨(x :: C).dropLast, (x :: C).getLast (by simp), (List.dropLast_concat_getLast _).symm⟩
  have hC1l : C1.length = C.length := by
    have := congrArg List.length hC1
    simp at this; omega
  have hft := (hC1 ▸ hF : FileB packed hash (C1 ++ [y]) bs).foot hh
  rw [hC1l] at hft
  have hfr := (show FileB packed hash ([] ++ x :: C) bs from hF).from hh
  have hSx : SegT x.1 x.2.1 x.2.2 := hF.seg x List.mem_cons_self
  have hfl : (if packed then 2 else 1) < 256 := by split <;> decide
  have H10 := Lib.hid h10
  have HFT := Lib.hid hft
  have HFR := Lib.hid hfr
  have HSX := Lib.hid hSx
  have HX := Lib.hid hx
  have HFE : Hid (x.1.funs.length ≤ 1000) := Lib.hid (by have := hx.nfun; omega)
  obtain ⟨fl, hfle⟩ : ∃ fl, fl = (if packed then 2 else 1) := ⟨_, rfl⟩
  rw [← hfle] at H10 hfl ⊢
  obtain ⟨fe, hfe⟩ : ∃ fe, fe = x.1.funs.length := ⟨_, rfl⟩
  have e0 : feOf ([] : List Ch) + x.1.funs.length = fe := by rw [hfe]; simp [feOf]
  have p0 : posOf packed [] = 32 := by simp [posOf]
  rw [e0, p0] at HFR
  rw [p0]
  rw [← hfe] at HFE ⊢
  clear h hM hF h10 hC1 hC1l hft hfr hSx hlen hz0 hx hfle hfe e0 p0
  go_enter Tryz.func22, Tryz.ntmps22
  go_upto_region 1 with (fail)
  go_cut [6] from 13 to 17 (fun v wx => ∃ gd bu b8, v = .pointer (some ⟨gd, 0, none⟩) ∧ NewD w wx gd g bb c 0 bu b8 bs)
  case first =>
    go_region_with (fail)
    all_goals
      go_wp2_with fail
      go_meet
      case rel =>
        rw [made_eq, made_eq]
        first
        | exact ⟨_, _, _, rfl, (newD_of (by simp) (HA.out.1.keep (((Keep.refl Non w).alloc uO).alloc vO) (fun h => h) (fun h => h)) (by have := HA.out.2; simp; omega) ((uNew w).alloc vO) (vNew1 w) (((Keep.refl Non w).alloc uO).alloc vO) (Nat.le_refl _) (by omega) (by omega)).drew⟩
        | exact ⟨_, _, _, rfl, (newD_of (by simp) (HA.out.1.keep (((Keep.refl Non w).alloc vO).alloc uO) (fun h => h) (fun h => h)) (by have := HA.out.2; simp; omega) (uNew1 w) ((vNew w).alloc uO) (((Keep.refl Non w).alloc vO).alloc uO) (by omega) (Nat.le_refl _) (by omega)).drew⟩
  case rest =>
    obtain ⟨gd, bu, b8, rfl, hN⟩ := hcut
    have hgm := hgdM gd hN.ld
    have HN := Lib.hid hN
    have HM1 := Lib.hid (HM.out.far hN.keep)
    clear hN hmk4 hmk1 hgdM
    go_upto_region 3 with (go_at_call 45; go_must (refine (hdrRead gd g bb c 0 (cells0 g bu b8) bs _ hash fl _ HN.out.d H10.out hl hfl hh).mono ?_); rintro e w2 ⟨rfl, cs2, hD2, hS2, hM2, h10', h27, h28, k2⟩)
    have HD2 := Lib.hid hD2
    have HS2 := Lib.hid hS2
    have H27 := Lib.hid h27
    have H28 := Lib.hid h28
    have HK2 := Lib.hid k2
    have HMg := Lib.hid (HM1.out.keep k2 (fun e => by rcases e with e | e; exact hgM (Eq.symm e); exact hgm (Eq.symm e)))
    have y0 : w2.cell? ⟨gd, 6, none⟩ = some (.int .u8 0) := cell_of hD2.blk hM2.m0
    have y1 : w2.cell? ⟨gd, 7, none⟩ = some (.int .u8 99) := cell_of hD2.blk hM2.m1
    have y2 : w2.cell? ⟨gd, 8, none⟩ = some (.int .u8 119) := cell_of hD2.blk hM2.m2
    have y3 : w2.cell? ⟨gd, 9, none⟩ = some (.int .u8 109) := cell_of hD2.blk hM2.m3
    have H10' := Lib.hid h10'
    clear hD2 hS2 hM2 h10' h27 h28 k2
    go_upto_region 7 with (go_at_call 46; refine (checkMagicT _ HMg.out).mono ?_; rintro e w3 ⟨rfl, k3⟩)
    have HD3 := Lib.hid (HD2.out.far k3)
    have HK3 := Lib.hid (HK2.out.trans' (k3.mono (fun _ _ h => h.elim)))
    have HMg3 := Lib.hid (HMg.out.far k3)
    have x10 : w3.cell? ⟨gd, 10, none⟩ = some (.int .u32 1) := cell_of HD3.out.blk H10'.out
    clear k3 y0 y1 y2 y3
    go_upto_region 10 with (go_at_call 48; refine (readFooterT gd g bb c (0 + 32) (C.length + 1) cs2 bs _ HD3.out HMg3.out hl (by omega) HFT.out.2 HFT.out.1 (by omega) (by omega) hgm hgM).mono ?_; rintro e w4 ⟨rfl, cs4, hD4, hS4, hM4, h43, k4⟩)
    have HD4 := Lib.hid hD4
    have HS4 := Lib.hid hS4
    have H43 := Lib.hid h43
    have HK4 := Lib.hid (HK3.out.trans' k4)
    have x5 := hD4.x5
    have hna := aheadSeek
    have hme := methodSeek
    have HSK : Hid (seekTo 0 bs.length bs.length 32 = ((32 : Nat) : Int)) := Lib.hid (by simp [seekTo])
    clear hD4 hS4 hM4 h43 k4 x10
    go_upto_region 14 with (go_at_call 159; refine (seekG 0 g bb c bs.length 32 _ bs _ (by decide) HSK.out HD4.out.rd hl (Nat.le_refl _) h32 (by decide) (by decide)).mono ?_; rintro e w5 ⟨rfl, r5, k5⟩)
    have HD5 := Lib.hid (HD4.out.move k5 r5)
    have HK5 := Lib.hid (HK4.out.trans' (k5.mono (fun i _ e => (.inl e : i = g ∨ i = gd))))
    clear r5 k5 x5 hna hme
    go_upto_region 17 with (go_at_call 49; refine (preT packed x.1 fe gd g bb c 32 cs4 bs _ x.2.1 x.2.2 _ HD5.out HFR.out (by decide) hl HSX.out HX.out HFE.out).mono ?_; rintro e w6 ⟨rfl, cs6, hD6, hS6, k6⟩)
    have HD6 := Lib.hid hD6
    have HS6 := Lib.hid hS6
    have HK6 := Lib.hid (HK5.out.trans' k6)
    have HK6a := Lib.hid k6
    clear hD6 hS6 k6
    go_wp2_with fail
    go_ret2
    have e51 : ∀ i, 51 ≤ i → cs6[i]? = (cells0 g bu b8)[i]? := fun i hi => by
      rw [HS6.out.same i (.inr hi), HS4.out.same i (.inr (by omega)), HS2.out.same i (.inr (by omega))]
    have eR : ∀ i, i < 6 ∨ 48 ≤ i → cs4[i]? = (cells0 g bu b8)[i]? := fun i hi => by
      rw [HS4.out.same i (by omega), HS2.out.same i (by omega)]
    have hN := HN.out
    have hno : ∀ {v : Nat} {cs : List Value}, Blk wc v cs 5 → ¬ (v = g ∨ v = gd) := fun hb e => by
      rcases e with e | e
      · exact hb.ne hN.d.rd.blk (by decide) e
      · exact hb.ne hN.d.blk (by decide) e
    refine ⟨gd, bu, b8, cs6, rfl, ⟨HD6.out, e51 51 (by decide), e51 52 (by decide), ⟨_, by rw [B_length]; rfl, hN.mu.keep HK6.out (hno hN.mu)⟩, ⟨_, by rw [B_length]; rfl, hN.m8.keep HK6.out (hno hN.m8)⟩, ?_, ?_, ?_, e51 53 (by decide), e51 54 (by decide), hN.ne, by have := HA.out.2; have := hN.lu; omega, by have := HA.out.2; have := hN.l8; omega⟩, ?_, (hN.keep.mono (fun _ _ h => h.elim)).trans HK6.out (fun i hi e => by
      rcases e with e | e
      · exact e
      · have := hN.ld; omega), hN.ld, hN.lu, hN.l8⟩
    · rw [HS6.out.same 27 (.inl ⟨by decide, by decide⟩), HS4.out.same 27 (.inl (by decide))]; exact H27.out
    · rw [HS6.out.same 28 (.inl ⟨by decide, by decide⟩), HS4.out.same 28 (.inl (by decide))]; exact H28.out
    · rw [HS6.out.same 43 (.inl ⟨by decide, by decide⟩)]; exact H43.out
    · exact ((Told.zero w5 g bu b8).other (eR 48 (by decide)) (eR 2 (by decide)) (eR 3 (by decide)) (eR 4 (by decide))).next HD5.out HK6a.out HS6.out ⟨fun h => absurd rfl h, fun h => absurd rfl h, fun h => absurd rfl h⟩
end Go.Proofs.YtcpegoofbenoiaaGreatDoor
