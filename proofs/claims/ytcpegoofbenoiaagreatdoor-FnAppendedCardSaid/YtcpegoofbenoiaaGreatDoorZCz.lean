/-
  CONTRACTS: bytes through the buffered writer; the footer.
-/
import Derived.Test.YtcpegoofbenoiaaGreatDoorZCy
namespace Go.Proofs.YtcpegoofbenoiaaGreatDoor
open Go.RowKit
open Go.ChangeShapes Go.WideShapes Go.ChangeAt Go.Deep
open Plain (M64)

/-- The variable that holds the four bytes with which each file begins. -/
structure Mag (w : World) : Prop where
  m0 : w.cell? ⟨1, 0, none⟩ = some (.int .u8 0)
  m1 : w.cell? ⟨1, 1, none⟩ = some (.int .u8 99)
  m2 : w.cell? ⟨1, 2, none⟩ = some (.int .u8 119)
  m3 : w.cell? ⟨1, 3, none⟩ = some (.int .u8 109)
theorem Mag.keep {S : Nat → Prop} {w w' : World} (h : Mag w) (k : Keep S w w') (hs : ¬ S 1) : Mag w' := ⟨k.cell h.m0 hs, k.cell h.m1 hs, k.cell h.m2 hs, k.cell h.m3 hs⟩
theorem Mag.far {w w' : World} (h : Mag w) (k : Keep Non w w') : Mag w' := h.keep k (fun h => h)
theorem Mag.ne {w : World} (h : Mag w) {b : Nat} {cs : List Value} {T : TypeId} (hb : Blk w b cs T) (h0 : cs[0]? ≠ some (.int .u8 0)) : b ≠ 1 := by
  rintro rfl
  have := h.m0
  rw [hb.cell] at this
  exact h0 this
theorem aheadWriteB (a : Addr) (w : World) : (nilAhead 344 92 (.pointer (some a)) "Write").run Tryz.prog w = .ok (some false) w := by kernel_rfl
theorem methodWriteB (a : Addr) (w : World) : (method 344 92 (.pointer (some a)) "Write").run Tryz.prog w = .ok (73, .pointer (some a)) w := by kernel_rfl
/-- Behind a write into the buffer. -/
def BwPost (gb go bb : Nat) (pend' : List UInt8) (po : Value) (out : List UInt8) (w : World) (e : Ending) (w' : World) : Prop :=
  e = .returned .nilIface ∧ BW w' gb go bb pend' po out ∧ Keep (fun i => i = gb ∨ i = bb) w w'
set_option maxRecDepth 100000 in
theorem writeAllB (gb go bb : Nat) (pend ds : List UInt8) (po sv : Value) (out : List UInt8) (w : World) (h : BW w gb go bb pend po out) (hs : Reads w 1 sv ds.length (B ds)) (h0 : 0 < ds.length) (hfit : pend.length + ds.length ≤ 4096) :
    Calls Tryz.prog 57 #[.iface 92 (.pointer (some ⟨gb, 0, none⟩)), sv] w (BwPost gb go bb (pend ++ ds) po out w) := by
  have hna := aheadWriteB
  have hme := methodWriteB
  have H := Lib.hid h
  have HS := Lib.hid hs
  clear h hs
  go_enter Tryz.func57, Tryz.ntmps57
  go_wp2_with (go_at_call 73; refine (bwWrite gb go bb pend ds po sv out _ H.out HS.out h0 hfit).mono ?_; rintro e w3 ⟨rfl, h3, k3⟩)
  go_ret
  exact ⟨rfl, h3, k3⟩
set_option maxRecDepth 100000 in
theorem writeBytesT (gc : Nat) (gs : Value) (fe st al : Nat) (tm : Value) (fl segs : Nat) (gb go bb : Nat) (pend ds : List UInt8) (po sv : Value) (out : List UInt8) (w : World) (h : BW w gb go bb pend po out) (hc : Blk w gc (ccells gs gb fe st al tm fl segs) 98) (hs : Reads w 1 sv ds.length (B ds)) (h0 : 0 < ds.length) (hfit : pend.length + ds.length ≤ 4096) :
    Calls Tryz.prog 42 #[.pointer (some ⟨gc, 0, none⟩), sv] w (BwPost gb go bb (pend ++ ds) po out w) := by
  obtain ⟨sa, sc, rfl⟩ := hs.slice
  have x1 : w.cell? ⟨gc, 1, none⟩ = some (.pointer (some ⟨gb, 0, none⟩)) := by rw [hc.cell]; rfl
  have hne : ¬ ds.length = 0 := by omega
  have hni : ¬ ds = [] := fun e => by rw [e] at h0; simp at h0
  have H := Lib.hid h
  have HS := Lib.hid hs
  clear h hs
  go_enter Tryz.func42, Tryz.ntmps42
  go_wp2_with (go_at_call 73; refine (bwWrite gb go bb pend ds po _ out _ H.out HS.out h0 hfit).mono ?_; rintro e w3 ⟨rfl, h3, k3⟩)
  go_ret
  exact ⟨rfl, h3, k3⟩
set_option maxRecDepth 100000 in
set_option maxHeartbeats 8000000 in
theorem writeFooterT (gc : Nat) (gs : Value) (fe st al : Nat) (tm : Value) (fl segs : Nat) (gb go bb : Nat) (pend : List UInt8) (po : Value) (out : List UInt8) (w : World) (h : BW w gb go bb pend po out) (hc : Blk w gc (ccells gs gb fe st al tm fl segs) 98) (hM : Mag w) (hfit : pend.length + 16 ≤ 4096) (hsg : segs ≤ 1000) (hgs : gs ≠ .int .u8 0) :
    Calls Tryz.prog 43 #[.pointer (some ⟨gc, 0, none⟩)] w fun e w' => e = .returned .nilIface ∧ BW w' gb go bb (pend ++ footB (segs + 1)) po out ∧ Blk w' gc (ccells gs gb fe st al tm fl (segs + 1)) 98 ∧ Keep (fun i => i = gc ∨ i = gb ∨ i = bb) w w' := by
  have x7 : w.cell? ⟨gc, 7, none⟩ = some (.int .u32 segs) := by rw [hc.cell]; rfl
  have f7 := hc.free 7
  have hw : IntKind.u32.wrap ((segs : Int) + 1) = ((segs + 1 : Nat) : Int) := by rw [IntKind.wrap_u32]; omega
  have hgm : gc ≠ 1 := hM.ne hc (by simpa [ccells] using hgs)
  have H := Lib.hid h
  have HC := Lib.hid hc
  have HM := Lib.hid hM
  clear h hc hM
  go_enter Tryz.func43, Tryz.ntmps43
  go_upto_region 2 with (fail)
  obtain ⟨W1, hW1⟩ : ∃ W, W = w.setCell ⟨gc, 7, none⟩ (.int .u32 ((segs : Int) + 1)) := ⟨_, rfl⟩
  have k1 : Keep (At gc) w W1 := by rw [hW1]; exact Keep.one w gc 7 _
  have c1 : Blk W1 gc (ccells gs gb fe st al tm fl (segs + 1)) 98 := by
    rw [hW1]
    exact HC.out.set 7 (.int .u32 ((segs : Int) + 1))
  have M1 := HM.out.keep k1 (fun e => hgm (Eq.symm e))
  have hb1 : BW W1 gb go bb pend po out := H.out.keep k1 (fun i hi e => by
    have e : i = gc := e
    subst e
    rcases hi with e | e | e | e
    · exact HC.out.ne H.out.blk (by decide) e
    · exact HC.out.ne H.out.wr.blk (by decide) e
    · obtain ⟨zs, hzb, _⟩ := H.out.buf
      exact HC.out.ne hzb (by decide) e
    · exact H.out.wr.row.neBlk HC.out (by decide) e)
  rw [← hW1]
  clear hW1
  obtain ⟨y0, y1, y2, y3⟩ := M1
  have y7 : W1.cell? ⟨gc, 7, none⟩ = some (.int .u32 (segs + 1 : Nat)) := by rw [c1.cell]; rfl
  have HB1 := Lib.hid hb1
  have HC1 := Lib.hid c1
  have HK1 := Lib.hid k1
  clear hb1 c1 k1 x7 f7 hw
  obtain ⟨n, hn⟩ : ∃ n, n = segs + 1 := ⟨_, rfl⟩
  rw [← hn] at y7 HC1
  have hnl : n < 4294967296 := by omega
  have HN := Lib.hid hn
  clear hn
  go_cut [3] from 12 to 17 (fun v wx => v = .pointer (some ⟨W1.heap.size, 0, none⟩) ∧ Blk wx W1.heap.size (fcells n) 120 ∧ Keep Non W1 wx)
  case first =>
    go_region_held3 (fun w' => w'.cell? ⟨1, 0, none⟩ = some (.int .u8 0) ∧ w'.cell? ⟨1, 1, none⟩ = some (.int .u8 99) ∧ w'.cell? ⟨1, 2, none⟩ = some (.int .u8 119) ∧ w'.cell? ⟨1, 3, none⟩ = some (.int .u8 109) ∧ w'.cell? ⟨gc, 7, none⟩ = some (.int .u32 n))
      (first
        | exact ⟨y0, y1, y2, y3, y7⟩
        | exact ⟨((Keep.refl Non W1).alloc _).drew.cell y0 (fun h => h), ((Keep.refl Non W1).alloc _).drew.cell y1 (fun h => h), ((Keep.refl Non W1).alloc _).drew.cell y2 (fun h => h), ((Keep.refl Non W1).alloc _).drew.cell y3 (fun h => h), ((Keep.refl Non W1).alloc _).drew.cell y7 (fun h => h)⟩
        | go_keep)
      (fail)
    all_goals
      go_wp2_with fail
      go_meet
      case rel => exact ⟨rfl, (Blk.new W1 (fcells n) _).drew, ((Keep.refl _ _).alloc _).drew⟩
  case rest =>
    obtain ⟨rfl, hf, kf⟩ := hcut
    obtain ⟨gf, hgf⟩ : ∃ g, g = W1.heap.size := ⟨_, rfl⟩
    rw [← hgf] at hf ⊢
    have HF := Lib.hid hf
    have HKF := Lib.hid kf
    have HB2 := Lib.hid (HB1.out.far kf)
    have HC2 := Lib.hid (HC1.out.keep kf (fun h => h))
    clear hf kf hgf y0 y1 y2 y3 y7
    have z0 : wc.cell? ⟨gf, 0, none⟩ = some (.int .u8 0) := by rw [HF.out.cell]; rfl
    have z1 : wc.cell? ⟨gf, 1, none⟩ = some (.int .u8 99) := by rw [HF.out.cell]; rfl
    have z2 : wc.cell? ⟨gf, 2, none⟩ = some (.int .u8 119) := by rw [HF.out.cell]; rfl
    have z3 : wc.cell? ⟨gf, 3, none⟩ = some (.int .u8 109) := by rw [HF.out.cell]; rfl
    have z4 : wc.cell? ⟨gf, 4, none⟩ = some (.int .u8 0) := by rw [HF.out.cell]; rfl
    have z5 : wc.cell? ⟨gf, 5, none⟩ = some (.int .u8 0) := by rw [HF.out.cell]; rfl
    have z6 : wc.cell? ⟨gf, 6, none⟩ = some (.int .u8 0) := by rw [HF.out.cell]; rfl
    have z7 : wc.cell? ⟨gf, 7, none⟩ = some (.int .u8 0) := by rw [HF.out.cell]; rfl
    have z8 : wc.cell? ⟨gf, 8, none⟩ = some (.int .u32 n) := by rw [HF.out.cell]; rfl
    have z9 : wc.cell? ⟨gf, 9, none⟩ = some (.int .u8 0) := by rw [HF.out.cell]; rfl
    have z10 : wc.cell? ⟨gf, 10, none⟩ = some (.int .u8 0) := by rw [HF.out.cell]; rfl
    have z11 : wc.cell? ⟨gf, 11, none⟩ = some (.int .u8 0) := by rw [HF.out.cell]; rfl
    have z12 : wc.cell? ⟨gf, 12, none⟩ = some (.int .u8 0) := by rw [HF.out.cell]; rfl
    have y1 : wc.cell? ⟨gc, 1, none⟩ = some (.pointer (some ⟨gb, 0, none⟩)) := by rw [HC2.out.cell]; rfl
    have harr : (fcells n).toArray = #[.int .u8 0, .int .u8 99, .int .u8 119, .int .u8 109, .int .u8 0, .int .u8 0, .int .u8 0, .int .u8 0, .int .u32 n, .int .u8 0, .int .u8 0, .int .u8 0, .int .u8 0] := rfl
    have hfoot := fun W => footBytes n W hnl
    rw [harr] at hfoot
    have HFOOT := Lib.hid hfoot
    clear harr hfoot
    go_upto_region 3 with (fail)
    go_region_held3 (fun w' => w'.cell? ⟨gc, 1, none⟩ = some (.pointer (some ⟨gb, 0, none⟩)) ∧ w'.cell? ⟨gf, 0, none⟩ = some (.int .u8 0) ∧ w'.cell? ⟨gf, 1, none⟩ = some (.int .u8 99) ∧ w'.cell? ⟨gf, 2, none⟩ = some (.int .u8 119) ∧ w'.cell? ⟨gf, 3, none⟩ = some (.int .u8 109) ∧ w'.cell? ⟨gf, 4, none⟩ = some (.int .u8 0) ∧ w'.cell? ⟨gf, 5, none⟩ = some (.int .u8 0) ∧ w'.cell? ⟨gf, 6, none⟩ = some (.int .u8 0) ∧ w'.cell? ⟨gf, 7, none⟩ = some (.int .u8 0) ∧ w'.cell? ⟨gf, 8, none⟩ = some (.int .u32 n) ∧ w'.cell? ⟨gf, 9, none⟩ = some (.int .u8 0) ∧ w'.cell? ⟨gf, 10, none⟩ = some (.int .u8 0) ∧ w'.cell? ⟨gf, 11, none⟩ = some (.int .u8 0) ∧ w'.cell? ⟨gf, 12, none⟩ = some (.int .u8 0))
      (first
        | exact ⟨y1, z0, z1, z2, z3, z4, z5, z6, z7, z8, z9, z10, z11, z12⟩
        | exact ⟨k4.out.cell (K3.out.cell y1 (fun h => h)) n4.out.1, k4.out.cell (K3.out.cell z0 (fun h => h)) n4.out.2, k4.out.cell (K3.out.cell z1 (fun h => h)) n4.out.2, k4.out.cell (K3.out.cell z2 (fun h => h)) n4.out.2, k4.out.cell (K3.out.cell z3 (fun h => h)) n4.out.2, k4.out.cell (K3.out.cell z4 (fun h => h)) n4.out.2, k4.out.cell (K3.out.cell z5 (fun h => h)) n4.out.2, k4.out.cell (K3.out.cell z6 (fun h => h)) n4.out.2, k4.out.cell (K3.out.cell z7 (fun h => h)) n4.out.2, k4.out.cell (K3.out.cell z8 (fun h => h)) n4.out.2, k4.out.cell (K3.out.cell z9 (fun h => h)) n4.out.2, k4.out.cell (K3.out.cell z10 (fun h => h)) n4.out.2, k4.out.cell (K3.out.cell z11 (fun h => h)) n4.out.2, k4.out.cell (K3.out.cell z12 (fun h => h)) n4.out.2⟩
        | exact ⟨K3.out.cell y1 (fun h => h), K3.out.cell z0 (fun h => h), K3.out.cell z1 (fun h => h), K3.out.cell z2 (fun h => h), K3.out.cell z3 (fun h => h), K3.out.cell z4 (fun h => h), K3.out.cell z5 (fun h => h), K3.out.cell z6 (fun h => h), K3.out.cell z7 (fun h => h), K3.out.cell z8 (fun h => h), K3.out.cell z9 (fun h => h), K3.out.cell z10 (fun h => h), K3.out.cell z11 (fun h => h), K3.out.cell z12 (fun h => h)⟩
        | go_keep)
      (first
        | (go_at_call 74; refine (HFOOT.out _).mono ?_; rintro e w3 ⟨v3, rfl, r3, k3, l3⟩; have R3 := Lib.hid r3; have K3 := Lib.hid k3.undrew; clear r3 k3 l3)
        | (go_at_call 57; refine (writeAllB gb go bb pend (footB n) po _ out _ (HB2.out.far K3.out) (by rw [footB_length]; exact R3.out.reads) (by rw [footB_length]; decide) (by rw [footB_length]; exact hfit)).mono ?_; rintro e w4 ⟨rfl, b4, k4'⟩; have n4 : Hid ((¬ (gc = gb ∨ gc = bb)) ∧ ¬ (gf = gb ∨ gf = bb)) := Lib.hid ⟨fun e => e.elim (HC2.out.ne HB2.out.blk (by decide)) (fun e => by obtain ⟨zs, hzb, _⟩ := HB2.out.buf; exact HC2.out.ne hzb (by decide) e), fun e => e.elim (HF.out.ne HB2.out.blk (by decide)) (fun e => by obtain ⟨zs, hzb, _⟩ := HB2.out.buf; exact HF.out.ne hzb (by decide) e)⟩; have B4 := Lib.hid b4; have k4 := Lib.hid k4'; clear b4 k4'))
    all_goals
      go_wp2_with fail
      go_ret
      rw [← HN.out]
      refine ⟨rfl, B4.out, (HC2.out.keep K3.out (fun h => h)).keep k4.out n4.out.1, ?_⟩
      exact ((HK1.out.mono (fun i _ e => .inl e)).trans' ((HKF.out.trans' K3.out).mono (fun _ _ h => h.elim))).trans' (k4.out.mono (fun i _ e => .inr e))
end Go.Proofs.YtcpegoofbenoiaaGreatDoor
