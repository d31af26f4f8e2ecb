/-
  CONTRACTS: what a reader of counters tells; the next segment is begun.
-/
import Derived.Test.YtcpegoofbenoiaaGreatDoorZRc9
namespace Go.Proofs.YtcpegoofbenoiaaGreatDoor
open Go.RowKit
open Go.ChangeShapes Go.WideShapes Go.ChangeAt Go.Deep
open Plain (M64)

set_option maxRecDepth 100000 in
theorem numSegT (gd nseg : Nat) (w : World) (x : w.cell? ⟨gd, 43, none⟩ = some (.int .u32 nseg)) : Calls Tryz.prog 24 #[.pointer (some ⟨gd, 0, none⟩)] w fun e w' => e = .returned (.int .u32 nseg) ∧ w' = w := by
  go_enter Tryz.func24, Tryz.ntmps24
  go_wp2
  go_ret
  exact ⟨rfl, rfl⟩
set_option maxRecDepth 100000 in
theorem osArgsT (gd : Nat) (v : Value) (w : World) (x : w.cell? ⟨gd, 2, none⟩ = some v) : Calls Tryz.prog 26 #[.pointer (some ⟨gd, 0, none⟩)] w fun e w' => e = .returned v ∧ w' = w := by
  go_enter Tryz.func26, Tryz.ntmps26
  go_wp2
  go_ret
  exact ⟨rfl, rfl⟩
set_option maxRecDepth 100000 in
theorem goosT (gd : Nat) (v : Value) (w : World) (x : w.cell? ⟨gd, 4, none⟩ = some v) : Calls Tryz.prog 27 #[.pointer (some ⟨gd, 0, none⟩)] w fun e w' => e = .returned v ∧ w' = w := by
  go_enter Tryz.func27, Tryz.ntmps27
  go_wp2
  go_ret
  exact ⟨rfl, rfl⟩
set_option maxRecDepth 100000 in
theorem goarchT (gd : Nat) (v : Value) (w : World) (x : w.cell? ⟨gd, 3, none⟩ = some v) : Calls Tryz.prog 28 #[.pointer (some ⟨gd, 0, none⟩)] w fun e w' => e = .returned v ∧ w' = w := by
  go_enter Tryz.func28, Tryz.ntmps28
  go_wp2
  go_ret
  exact ⟨rfl, rfl⟩
set_option maxRecDepth 100000 in
theorem numFunT (gd fe : Nat) (w : World) (x : w.cell? ⟨gd, 48, none⟩ = some (.int .u64 fe)) (hfe : fe < 4294967296) : Calls Tryz.prog 29 #[.pointer (some ⟨gd, 0, none⟩)] w fun e w' => e = .returned (.int .u32 fe) ∧ w' = w := by
  have hw := wrap32 fe hfe
  go_enter Tryz.func29, Tryz.ntmps29
  go_wp2
  go_ret
  exact ⟨rfl, rfl⟩
section
variable {w w' : World} {gd g bb c p p' bu b8 fl nseg fc sc : Nat} {cs cs' : List Value} {bs : List UInt8}
theorem CD.nn (h : CD w gd g bb c p bu b8 fl nseg fc sc cs bs) : gd ≠ g ∧ gd ≠ b8 ∧ gd ≠ bu ∧ b8 ≠ g ∧ bu ≠ g := by
  obtain ⟨_, _, hu⟩ := h.mu
  obtain ⟨_, _, h8⟩ := h.m8
  exact ⟨h.d.ne, h.d.blk.ne h8 (by decide), h.d.blk.ne hu (by decide), h8.ne h.d.rd.blk (by decide), hu.ne h.d.rd.blk (by decide)⟩
theorem CD.keep {S : Nat → Prop} (h : CD w gd g bb c p bu b8 fl nseg fc sc cs bs) (k : Keep S w w') (h1 : ¬ S gd) (h2 : ¬ S g) (h3 : ¬ S bb) (h4 : ¬ S bu) (h5 : ¬ S b8) : CD w' gd g bb c p bu b8 fl nseg fc sc cs bs := by
  obtain ⟨us, hu1, hu⟩ := h.mu
  obtain ⟨vs, h81, h8⟩ := h.m8
  exact ⟨h.d.keep k h1 h2 h3, h.c51, h.c52, ⟨us, hu1, hu.keep k h4⟩, ⟨vs, h81, h8.keep k h5⟩, h.c27, h.c28, h.c43, h.c53, h.c54, h.ne, h.nu, h.n8⟩
theorem CD.far (h : CD w gd g bb c p bu b8 fl nseg fc sc cs bs) (k : Keep Non w w') : CD w' gd g bb c p bu b8 fl nseg fc sc cs bs := h.keep k (fun h => h) (fun h => h) (fun h => h) (fun h => h) (fun h => h)
/-- Its cells and its place have changed, its buffers have not. -/
theorem CD.to {fc' sc' : Nat} (h : CD w gd g bb c p bu b8 fl nseg fc sc cs bs) (k : Keep (fun i => i = g ∨ i = gd) w w') (d : DR w' gd g bb c p' cs' bs) (e51 : cs'[51]? = cs[51]?) (e52 : cs'[52]? = cs[52]?) (e27 : cs'[27]? = cs[27]?) (e28 : cs'[28]? = cs[28]?) (e43 : cs'[43]? = cs[43]?) (e53 : cs'[53]? = some (.int .u32 fc')) (e54 : cs'[54]? = some (.int .u32 sc')) : CD w' gd g bb c p' bu b8 fl nseg fc' sc' cs' bs := by
  obtain ⟨n1, n2, n3, n4, n5⟩ := h.nn
  obtain ⟨us, hu1, hu⟩ := h.mu
  obtain ⟨vs, h81, h8⟩ := h.m8
  exact ⟨d, by rw [e51]; exact h.c51, by rw [e52]; exact h.c52, ⟨us, hu1, hu.keep k (fun e => by rcases e with e | e; exact n5 e; exact n3 (Eq.symm e))⟩, ⟨vs, h81, h8.keep k (fun e => by rcases e with e | e; exact n4 e; exact n2 (Eq.symm e))⟩, by rw [e27]; exact h.c27, by rw [e28]; exact h.c28, by rw [e43]; exact h.c43, e53, e54, h.ne, h.nu, h.n8⟩
end
/-- Behind BeginNextSegment. -/
def NextSeg (s : Sg) (fe gd g bb c p bu b8 fl nseg sc : Nat) (bs : List UInt8) (w : World) (e : Ending) (w' : World) : Prop :=
  ∃ cs', e = .returned (.tuple #[.bool true, .nilIface]) ∧ CD w' gd g bb c p bu b8 fl nseg 0 sc cs' bs ∧ Told w' s fe cs' ∧ Keep (fun i => i = g ∨ i = gd) w w'
set_option maxRecDepth 100000 in
set_option maxHeartbeats 8000000 in
theorem beginT (packed : Bool) (t s : Sg) (fe0 fe gd g bb c p bu b8 fl nseg fc sc : Nat) (cs : List Value) (bs r : List UInt8) (all ks : List ByteArray) (w : World) (h : CD w gd g bb c p bu b8 fl nseg fc sc cs bs) (hT : Told w t fe0 cs) (hlt : sc < nseg) (hns : nseg ≤ 1000)
    (hbs : bs.drop (p + 16) = segB packed fe all (prsOf s all ks) s.funs ++ r) (hp4 : p % 4 = 0) (hl : bs.length ≤ 1000000) (hS : SegT s all ks) (hs : s.ok) (hfe : fe ≤ 1000) (hpl : p + 16 ≤ bs.length)
    (hm : (t.args ≠ [] → s.args ≠ []) ∧ (t.os.size ≠ 0 → s.os.size ≠ 0) ∧ (t.arch.size ≠ 0 → s.arch.size ≠ 0)) :
    Calls Tryz.prog 25 #[.pointer (some ⟨gd, 0, none⟩)] w (NextSeg s fe gd g bb c (p + 16 + headL s all ks) bu b8 fl nseg (sc + 1) bs w) := by
  have hnlt : ¬ (nseg : Int) ≤ (sc : Int) := by omega
  have hw1 : IntKind.u32.wrap ((sc : Int) + 1) = ((sc + 1 : Nat) : Int) := by rw [IntKind.wrap_u32]; omega
  have H := Lib.hid h
  have HT := Lib.hid hT
  have HBS := Lib.hid hbs
  have HS := Lib.hid hS
  have HSO := Lib.hid hs
  have HM := Lib.hid hm
  have x54 : w.cell? ⟨gd, 54, none⟩ = some (.int .u32 sc) := cell_of h.d.blk h.c54
  have x43 : w.cell? ⟨gd, 43, none⟩ = some (.int .u32 nseg) := cell_of h.d.blk h.c43
  clear h hT hbs hS hs hm
  go_enter Tryz.func25, Tryz.ntmps25
  go_wp2_with fail
  go_quiet (fail)
  have HC0 := Lib.hid (H.out.far ((Keep.refl Non _).drewN nq))
  have HK0 : Hid (Keep Non w (w.drewN nq)) := Lib.hid ((Keep.refl Non _).drewN nq)
  clear x54 x43
  generalize w.drewN nq = W0 at *
  have x54 : W0.cell? ⟨gd, 54, none⟩ = some (.int .u32 sc) := cell_of HC0.out.d.blk HC0.out.c54
  have x53 : W0.cell? ⟨gd, 53, none⟩ = some (.int .u32 fc) := cell_of HC0.out.d.blk HC0.out.c53
  have f54 := HC0.out.d.blk.free 54
  have f53 := HC0.out.d.blk.free 53
  go_upto_region 5 with (fail)
  have HD1 := Lib.hid ((HC0.out.d.set 54 (.int .u32 ((sc : Int) + 1)) (by decide)).set 53 (.int .u32 0) (by decide))
  have HK1 : Hid (Keep (fun i => i = g ∨ i = gd) W0 ((W0.setCell ⟨gd, 54, none⟩ (.int .u32 ((sc : Int) + 1))).setCell ⟨gd, 53, none⟩ (.int .u32 0))) := Lib.hid (((Keep.refl _ _).setAt _ _ _ (.inr rfl)).setAt _ _ _ (.inr rfl))
  clear x54 x53 f54 f53
  generalize (W0.setCell ⟨gd, 54, none⟩ (.int .u32 ((sc : Int) + 1))).setCell ⟨gd, 53, none⟩ (.int .u32 0) = W1 at *
  obtain ⟨cs1, hcs1⟩ : ∃ x, x = (cs.set 54 (.int .u32 ((sc : Int) + 1))).set 53 (.int .u32 0) := ⟨_, rfl⟩
  rw [← hcs1] at HD1
  have HCS := Lib.hid hcs1
  clear hcs1
  have x5 := HD1.out.x5
  have hna := aheadSeek
  have hme := methodSeek
  have HSK : Hid (seekTo 1 p bs.length 16 = ((p + 16 : Nat) : Int)) := Lib.hid (by simp [seekTo])
  go_upto_region 7 with (go_at_call 159; refine (seekG 1 g bb c p (p + 16) _ bs _ (by decide) HSK.out HD1.out.rd hl (by omega) hpl (by decide) (by decide)).mono ?_; rintro e w2 ⟨rfl, r2, k2⟩)
  have HD2 := Lib.hid (HD1.out.move k2 r2)
  have HK2 := Lib.hid (HK1.out.trans' (k2.mono (fun i _ e => (.inl e : i = g ∨ i = gd))))
  clear r2 k2 x5 hna hme
  go_upto_region 10 with (go_at_call 49; refine (preT packed s fe gd g bb c (p + 16) cs1 bs r all ks _ HD2.out HBS.out (by omega) hl HS.out HSO.out hfe).mono ?_; rintro e w3 ⟨rfl, cs3, hD3, hS3, k3⟩)
  have HD3 := Lib.hid hD3
  have HS3 := Lib.hid hS3
  have HK3 := Lib.hid k3
  clear hD3 hS3 k3
  go_wp2_with fail
  go_ret2
  have hlen := HC0.out.d.len
  have e1 : ∀ i, i ≠ 53 → i ≠ 54 → cs1[i]? = cs[i]? := fun i h1 h2 => by
    rw [HCS.out, List.getElem?_set_ne (by omega), List.getElem?_set_ne (by omega)]
  have kk := (HK0.out.mono (fun i _ h => (h.elim : i = g ∨ i = gd))).trans' (HK2.out.trans' HK3.out)
  have k02 := (HK0.out.mono (fun i _ h => (h.elim : i = g ∨ i = gd))).trans' HK2.out
  refine ⟨cs3, rfl, H.out.to kk HD3.out ?_ ?_ ?_ ?_ ?_ ?_ ?_, ?_, kk⟩
  · rw [HS3.out.same 51 (.inr (by decide)), e1 51 (by decide) (by decide)]
  · rw [HS3.out.same 52 (.inr (by decide)), e1 52 (by decide) (by decide)]
  · rw [HS3.out.same 27 (.inl (by decide)), e1 27 (by decide) (by decide)]
  · rw [HS3.out.same 28 (.inl (by decide)), e1 28 (by decide) (by decide)]
  · rw [HS3.out.same 43 (.inl (by decide)), e1 43 (by decide) (by decide)]
  · rw [HS3.out.same 53 (.inr (by decide)), HCS.out, List.getElem?_set_self (by rw [List.length_set]; omega)]; rfl
  · rw [HS3.out.same 54 (.inr (by decide)), HCS.out, List.getElem?_set_ne (by decide), List.getElem?_set_self (by omega)]; rfl
  · have ht := (HT.out.other (cs' := cs1) (e1 48 (by decide) (by decide)) (e1 2 (by decide) (by decide)) (e1 3 (by decide) (by decide)) (e1 4 (by decide) (by decide))).keep k02 (fun v hr b hb e => by
      rcases e with e | e
      · exact hr.neBlk H.out.d.rd.blk (by decide) (by rw [hb, e])
      · exact hr.neBlk H.out.d.blk (by decide) (by rw [hb, e]))
    exact ht.next HD2.out HK3.out HS3.out HM.out
end Go.Proofs.YtcpegoofbenoiaaGreatDoor
