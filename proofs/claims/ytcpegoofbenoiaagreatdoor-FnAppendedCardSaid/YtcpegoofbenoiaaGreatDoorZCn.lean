/-
  WHAT A WRITER OF COUNTERS HOLDS beside the bytes of a segment; a number by seven bits is written.
-/
import Derived.Test.YtcpegoofbenoiaaGreatDoorZCg
import Derived.Test.YtcpegoofbenoiaaGreatDoorZTab4
import Derived.Test.YtcpegoofbenoiaaGreatDoorZGKg
namespace Go.Proofs.YtcpegoofbenoiaaGreatDoor
open Go.RowKit
open Go.ChangeShapes Go.WideShapes Go.ChangeAt Go.Deep
open Plain (M64)

/-- The cells of a writer of counters. -/
def ccells (gs : Value) (gb fe st al : Nat) (tm : Value) (fl segs : Nat) : List Value :=
  [gs, .pointer (some ⟨gb, 0, none⟩), .int .u64 fe, .int .u32 st, .int .u32 al, tm, .int .u8 fl, .int .u32 segs, .bool false]
/-- A writer of counters, and a writer of bytes that stands at its end. -/
structure PB (w : World) (gc : Nat) (gs : Value) (gb fe st al : Nat) (tm : Value) (fl segs gw : Nat) (pv : Value) (bs : List UInt8) : Prop where
  blk : Blk w gc (ccells gs gb fe st al tm fl segs) 98
  wr : Wr w gw pv bs.length bs
  tmp : ∃ n xs, Row w 5 1 tm n (B xs)
  shape : ∃ b n c, tm = .slice (some ⟨b, 0, none⟩) n c
  sep : ∀ b, tm.ownBlock = some b → pv.ownBlock ≠ some b
section
variable {w w' : World} {gc : Nat} {gs : Value} {gb fe st al : Nat} {tm : Value} {fl segs gw : Nat} {pv : Value} {bs : List UInt8}
theorem PB.keep {S : Nat → Prop} (h : PB w gc gs gb fe st al tm fl segs gw pv bs) (k : Keep S w w') (hs : ∀ i, TWF gc gw tm pv i → ¬ S i) : PB w' gc gs gb fe st al tm fl segs gw pv bs where
  blk := h.blk.keep k (hs gc (.inl rfl))
  wr := ⟨h.wr.blk.keep k (hs gw (.inr (.inr (.inl rfl)))), h.wr.row.keep k (fun b hb => hs b (.inr (.inr (.inr hb)))), h.wr.le⟩
  tmp := by
    obtain ⟨n, xs, r⟩ := h.tmp
    exact ⟨n, xs, r.keep k (fun b hb => hs b (.inr (.inl hb)))⟩
  shape := h.shape
  sep := h.sep
theorem PB.far (h : PB w gc gs gb fe st al tm fl segs gw pv bs) (k : Keep Non w w') : PB w' gc gs gb fe st al tm fl segs gw pv bs := h.keep k (fun _ _ h => h)
theorem PB.drew (h : PB w gc gs gb fe st al tm fl segs gw pv bs) : PB w.drew gc gs gb fe st al tm fl segs gw pv bs := h.far (Keep.refl _ _).drew
theorem PB.alloc (h : PB w gc gs gb fe st al tm fl segs gw pv bs) (o : Obj) : PB (w.alloc o) gc gs gb fe st al tm fl segs gw pv bs := h.far ((Keep.refl _ _).alloc o)
theorem PB.c5 (h : PB w gc gs gb fe st al tm fl segs gw pv bs) : w.cell? ⟨gc, 5, none⟩ = some tm := by rw [h.blk.cell]; rfl
theorem PB.c6 (h : PB w gc gs gb fe st al tm fl segs gw pv bs) : w.cell? ⟨gc, 6, none⟩ = some (.int .u8 fl) := by rw [h.blk.cell]; rfl
theorem PB.lt (h : PB w gc gs gb fe st al tm fl segs gw pv bs) : ∀ i, TWF gc gw tm pv i → i < w.heap.size := by
  rintro i (rfl | e | rfl | e)
  · exact h.blk.lt
  · obtain ⟨n, xs, r⟩ := h.tmp; exact r.lt e
  · exact h.wr.blk.lt
  · exact h.wr.row.lt e
theorem PB.gcw (h : PB w gc gs gb fe st al tm fl segs gw pv bs) : gc ≠ gw := h.blk.ne h.wr.blk (by decide)
theorem PB.tg (h : PB w gc gs gb fe st al tm fl segs gw pv bs) : ∀ b, tm.ownBlock = some b → b ≠ gc ∧ b ≠ gw := by
  obtain ⟨n, xs, r⟩ := h.tmp
  exact fun b hb => ⟨fun e => r.neBlk h.blk (by decide) (by rw [hb, e]), fun e => r.neBlk h.wr.blk (by decide) (by rw [hb, e])⟩
theorem PB.pg (h : PB w gc gs gb fe st al tm fl segs gw pv bs) : ∀ b, pv.ownBlock = some b → b ≠ gc ∧ b ≠ gw :=
  fun b hb => ⟨fun e => h.wr.row.neBlk h.blk (by decide) (by rw [hb, e]), fun e => h.wr.row.neBlk h.wr.blk (by decide) (by rw [hb, e])⟩
/-- A block of another type is none of these. -/
theorem PB.off (h : PB w gc gs gb fe st al tm fl segs gw pv bs) {b : Nat} {cs : List Value} {T : TypeId} (hb : Blk w b cs T) (h1 : T ≠ 98) (h2 : 5 ≠ T) (h3 : T ≠ 56) : ¬ TWF gc gw tm pv b := by
  rintro (rfl | e | rfl | e)
  · exact hb.ne h.blk h1 rfl
  · obtain ⟨n, xs, r⟩ := h.tmp; exact r.neBlk hb h2 e
  · exact hb.ne h.wr.blk h3 rfl
  · exact h.wr.row.neBlk hb h2 e
/-- One of its cells is another; not the scratch. -/
theorem PB.set (h : PB w gc gs gb fe st al tm fl segs gw pv bs) {gs' : Value} {gb' fe' st' al' fl' segs' : Nat} (i : Nat) (u : Value) (e : (ccells gs gb fe st al tm fl segs).set i u = ccells gs' gb' fe' st' al' tm fl' segs') : PB (w.setCell ⟨gc, i, none⟩ u) gc gs' gb' fe' st' al' tm fl' segs' gw pv bs where
  blk := by rw [← e]; exact h.blk.set i u
  wr := ⟨h.wr.blk.setOther (fun e => h.gcw (Eq.symm e)) _, h.wr.row.keep (Keep.one w gc i u) (fun b hb e => (h.pg b hb).1 e), h.wr.le⟩
  tmp := by
    obtain ⟨n, xs, r⟩ := h.tmp
    exact ⟨n, xs, r.keep (Keep.one w gc i u) (fun b hb e => (h.tg b hb).1 e)⟩
  shape := h.shape
  sep := h.sep
/-- Its scratch is another one: what was done was done to the old one. -/
theorem PB.retmp (h : PB w gc gs gb fe st al tm fl segs gw pv bs) (k : Keep (Own tm) w w') {tm' : Value} {n : Nat} {xs : List UInt8} (r : Row w' 5 1 tm' n (B xs)) (hs : ∃ b n c, tm' = .slice (some ⟨b, 0, none⟩) n c) (hl : ∀ b, tm'.ownBlock = some b → tm.ownBlock = some b ∨ w.heap.size ≤ b) :
    PB (w'.setCell ⟨gc, 5, none⟩ tm') gc gs gb fe st al tm' fl segs gw pv bs := by
  have b1 := h.blk.keep k (fun e => (h.tg gc e).1 rfl)
  have w1 := h.wr.blk.keep k (fun e => (h.tg gw e).2 rfl)
  have p1 := h.wr.row.keep k (fun b hb e => h.sep b e hb)
  refine ⟨?_, ⟨w1.setOther (fun e => h.gcw (Eq.symm e)) _, p1.keep (Keep.one w' gc 5 tm') (fun b hb e => (h.pg b hb).1 e), h.wr.le⟩, ⟨n, xs, r.keep (Keep.one w' gc 5 tm') (fun b hb e => r.neBlk b1 (by decide) (by rw [hb]; exact congrArg _ (show b = gc from e)))⟩, hs, fun b hb e => ?_⟩
  · have := b1.set 5 tm'
    simpa [ccells] using this
  · rcases hl b hb with h1 | h1
    · exact h.sep b h1 e
    · have := h.wr.row.lt e; omega
/-- Scratch is emptied. -/
theorem PB.scratch {b n c : Nat} (h : PB w gc gs gb fe st al (.slice (some ⟨b, 0, none⟩) n c) fl segs gw pv bs) :
    PB (w.setCell ⟨gc, 5, none⟩ (.slice (some ⟨b, 0, none⟩) 0 c)) gc gs gb fe st al (.slice (some ⟨b, 0, none⟩) 0 c) fl segs gw pv bs ∧ Row (w.setCell ⟨gc, 5, none⟩ (.slice (some ⟨b, 0, none⟩) 0 c)) 5 1 (.slice (some ⟨b, 0, none⟩) 0 c) 0 (B []) := by
  obtain ⟨n0, bs0, r0⟩ := h.tmp
  have hn : n0 = n := by
    rcases r0.shape with ⟨h, _⟩ | ⟨_, _, h, _⟩
    · cases h
    · cases h; rfl
  subst hn
  have rz : Row w 5 1 (.slice (some ⟨b, 0, none⟩) 0 c) 0 (B []) := r0.zero
  refine ⟨h.retmp (Keep.refl _ _) rz ⟨_, _, _, rfl⟩ (fun i hi => .inl hi), rz.keep (Keep.one w gc 5 _) (fun b' hb e => ?_)⟩
  exact (h.tg b' hb).1 e
theorem PB.laid {b n c vb vc x : Nat} (h : PB w gc gs gb fe st al (.slice (some ⟨b, 0, none⟩) n c) fl segs gw pv bs) (k : Keep (At b) w w')
    (r : Row w' 5 1 (.slice (some ⟨vb, 0, none⟩) (uleb x).length vc) (uleb x).length (B (uleb x))) (hl : vb = b ∨ w.heap.size ≤ vb) :
    Blk w' gc (ccells gs gb fe st al (.slice (some ⟨b, 0, none⟩) n c) fl segs) 98 ∧ PB (w'.setCell ⟨gc, 5, none⟩ (.slice (some ⟨vb, 0, none⟩) (uleb x).length vc)) gc gs gb fe st al (.slice (some ⟨vb, 0, none⟩) (uleb x).length vc) fl segs gw pv bs ∧
    Row (w'.setCell ⟨gc, 5, none⟩ (.slice (some ⟨vb, 0, none⟩) (uleb x).length vc)) 5 1 (.slice (some ⟨vb, 0, none⟩) (uleb x).length vc) (uleb x).length (B (uleb x)) := by
  have hbg := h.tg b rfl
  have b1 := h.blk.keep k (fun e => hbg.1 (Eq.symm e))
  refine ⟨b1, h.retmp (k.mono fun i _ e => ?_) r ⟨_, _, _, rfl⟩ (fun i hi => ?_), r.keep (Keep.one w' gc 5 _) (fun i hb e => r.neBlk b1 (by decide) (by rw [hb]; exact congrArg _ (show i = gc from e)))⟩
  · have e' : i = b := e
    subst e'; rfl
  · simp only [Value.ownBlock, Option.some.injEq] at hi
    subst hi
    rcases hl with rfl | hl
    · exact .inl rfl
    · exact .inr hl
/-- Something was written. -/
theorem PB.write {pv' : Value} {bs' : List UInt8} (h : PB w gc gs gb fe st al tm fl segs gw pv bs) (hw : Wr w' gw pv' bs'.length bs') (k : Keep (fun i => i = gw ∨ pv.ownBlock = some i) w w') (hl : ∀ b, pv'.ownBlock = some b → pv.ownBlock = some b ∨ w.heap.size ≤ b) :
    PB w' gc gs gb fe st al tm fl segs gw pv' bs' := by
  refine ⟨h.blk.keep k (fun e => ?_), hw, ?_, h.shape, fun b hb e => ?_⟩
  · rcases e with e | e
    · exact h.gcw e
    · exact (h.pg _ e).1 rfl
  · obtain ⟨n, xs, r⟩ := h.tmp
    refine ⟨n, xs, r.keep k (fun b hb e => ?_)⟩
    rcases e with e | e
    · exact (h.tg b hb).2 e
    · exact h.sep b hb e
  · rcases hl b e with h1 | h1
    · exact h.sep b hb h1
    · obtain ⟨n, xs, r⟩ := h.tmp
      have := r.lt hb; omega
end
/-- Behind a step of a writer of counters. -/
def PBPost (gc : Nat) (gs : Value) (gb st al : Nat) (tm : Value) (fl segs gw : Nat) (pv : Value) (bs' : List UInt8) (fe' : Nat) (w : World) (e : Ending) (w' : World) : Prop :=
  ∃ tm' pv', e = .returned .nilIface ∧ PB w' gc gs gb fe' st al tm' fl segs gw pv' bs' ∧ Keep (TWF gc gw tm pv) w w' ∧ (∀ b, tm'.ownBlock = some b → tm.ownBlock = some b ∨ w.heap.size ≤ b) ∧ (∀ b, pv'.ownBlock = some b → pv.ownBlock = some b ∨ w.heap.size ≤ b)
set_option maxRecDepth 100000 in
set_option maxHeartbeats 8000000 in
theorem wrU (gc : Nat) (gs : Value) (gb fe st al : Nat) (tm : Value) (fl segs gw : Nat) (pv : Value) (bs : List UInt8) (x ba bw : Nat) (w : World) (h : PB w gc gs gb fe st al tm fl segs gw pv bs) (hx : x < M64) (hbl : bs.length ≤ 2000000000)
    (hba : Blk w ba [.pointer (some ⟨gc, 0, none⟩)] 57) (hbw : Blk w bw [.pointer (some ⟨gw, 0, none⟩)] 54) :
    Calls Tryz.prog 65 #[.int .u64 x, .pointer (some ⟨ba, 0, none⟩), .pointer (some ⟨bw, 0, none⟩)] w (PBPost gc gs gb st al tm fl segs gw pv (bs ++ uleb x) fe w) := by
  obtain ⟨tb, tn, tc, rfl⟩ := h.shape
  have a0 : w.cell? ⟨ba, 0, none⟩ = some (.pointer (some ⟨gc, 0, none⟩)) := by rw [hba.cell]; rfl
  have c2 := h.c5
  have f2 := h.blk.free 5
  have hga : ba ≠ gc := fun e => hba.ne h.blk (by decide) e
  have hgb : bw ≠ gc := fun e => hbw.ne h.blk (by decide) e
  have hgz := h.blk.lt
  have H := Lib.hid h
  have HBA := Lib.hid hba
  have HBW := Lib.hid hbw
  clear h hba hbw
  go_enter Tryz.func65, Tryz.ntmps65
  go_wp2
  go_region
  go_upto_region 2 with (fail)
  obtain ⟨h1, r1⟩ := H.out.scratch
  have H1 := Lib.hid h1.drew
  have R1 := Lib.hid r1.drew
  clear h1 r1
  have K1 : Keep (fun i => i = gc ∨ i = tb) w (w.setCell ⟨gc, 5, none⟩ (.slice (some ⟨tb, 0, none⟩) 0 tc)).drew := ((Keep.refl _ _).setAt _ _ _ (.inl rfl)).drew
  have HK1 := Lib.hid K1
  have HBA1 : Hid (Blk (w.setCell ⟨gc, 5, none⟩ (.slice (some ⟨tb, 0, none⟩) 0 tc)).drew ba [.pointer (some ⟨gc, 0, none⟩)] 57) := Lib.hid (HBA.out.setOther hga _).drew
  have ez : (w.setCell ⟨gc, 5, none⟩ (.slice (some ⟨tb, 0, none⟩) 0 tc)).drew.heap.size = w.heap.size := by simp
  have HEZ := Lib.hid ez
  clear K1 ez
  generalize hW1 : (w.setCell ⟨gc, 5, none⟩ (.slice (some ⟨tb, 0, none⟩) 0 tc)).drew = W1 at *
  clear hW1
  have e0 : W1.cell? ⟨ba, 0, none⟩ = some (.pointer (some ⟨gc, 0, none⟩)) := by rw [HBA1.out.cell]; rfl
  have e2 : W1.cell? ⟨gc, 5, none⟩ = some (.slice (some ⟨tb, 0, none⟩) 0 tc) := H1.out.c5
  have hgz1 := H1.out.blk.lt
  have hbt : ba ≠ tb := fun e => R1.out.neBlk HBA1.out (by decide) (by rw [e]; rfl)
  clear a0 c2 f2 hgz
  go_cut [] from 15 to 23 (fun wx => ∃ vb vc, PB wx gc gs gb fe st al (.slice (some ⟨vb, 0, none⟩) (uleb x).length vc) fl segs gw pv bs ∧ Row wx 5 1 (.slice (some ⟨vb, 0, none⟩) (uleb x).length vc) (uleb x).length (B (uleb x)) ∧ Keep (fun i => i = gc ∨ i = tb) w wx ∧ (vb = tb ∨ w.heap.size ≤ vb))
  case first =>
    go_region_law (go_simp; go_at_call 66; go_must (refine (uleb0 tb tc x _ hx R1.out.drew).mono ?_); rintro e w2 ⟨vb, vc, rfl, r2, k2, l2⟩; obtain ⟨t2, t3, r3⟩ := H1.out.laid k2.undrew r2 l2; have d2 : w2.cell? ⟨gc, 5, none⟩ = some (.slice (some ⟨tb, 0, none⟩) 0 tc) := (by rw [t2.cell]; rfl); have y2 := t2.free 5; have x0 : w2.cell? ⟨ba, 0, none⟩ = some (.pointer (some ⟨gc, 0, none⟩)) := k2.undrew.cell e0 (fun e => hbt e))
    all_goals
      go_wp2_with fail
      go_meet
      case rel =>
        refine ⟨_, _, t3, r3, ?_, ?_⟩
        · refine Keep.setAt ?_ _ _ _ (.inl rfl)
          exact HK1.out.trans k2.undrew (fun i _ e => .inr e)
        · rcases l2 with h | h
          · exact .inl h
          · right; have := HEZ.out; simp at h; omega
  case rest =>
    obtain ⟨vb, vc, h2, r2, k2, l2⟩ := hcut
    have hbt2 : bw ≠ tb := fun e => by
      obtain ⟨n, xs, r⟩ := H.out.tmp
      exact r.neBlk HBW.out (by decide) (by rw [e]; rfl)
    have x0 : wc.cell? ⟨ba, 0, none⟩ = some (.pointer (some ⟨gc, 0, none⟩)) := by
      rw [(HBA.out.keep k2 (fun e => by rcases e with e | e <;> omega)).cell]; rfl
    have x1 : wc.cell? ⟨bw, 0, none⟩ = some (.pointer (some ⟨gw, 0, none⟩)) := by
      rw [(HBW.out.keep k2 (fun e => by rcases e with e | e <;> omega)).cell]; rfl
    have x2 := h2.c5
    have H2 := Lib.hid h2
    have R2 := Lib.hid r2
    have K2 := Lib.hid k2
    have L2 := Lib.hid l2
    clear h2 r2 k2 l2
    go_upto_region 3 with (fail)
    have hlu := uleb_len64 hx
    have HNE : Hid (0 < (uleb x).length → ∀ b, (Value.slice (some ⟨vb, 0, none⟩) (uleb x).length vc).ownBlock = some b → b ≠ gw ∧ pv.ownBlock ≠ some b) := Lib.hid (fun _ b hb => ⟨(H2.out.tg b hb).2, H2.out.sep b hb⟩)
    go_region_with (go_at_call 67; go_must (refine (swrite gw pv _ bs.length bs (uleb x) _ H2.out.drew.wr R2.out.reads.drew (by omega) (by omega) HNE.out).mono ?_); rintro e w3 ⟨pv', rfl, hw3, k3, l3⟩)
    all_goals
      go_wp2_with fail
      go_ret
      rw [wrote_end] at hw3
      rw [← List.length_append] at hw3
      refine ⟨_, pv', rfl, H2.out.drew.write hw3 k3 l3, ?_, fun b hb => ?_, fun b hb => ?_⟩
      · refine Keep.trans (S' := fun i => i = gw ∨ pv.ownBlock = some i) ?_ k3 (fun i _ e => ?_)
        · exact (K2.out.mono (fun i _ e => by
            rcases e with e | e
            · exact .inl e
            · exact .inr (.inl (congrArg some (Eq.symm e))))).drew
        · rcases e with e | e
          · exact .inr (.inr (.inl e))
          · exact .inr (.inr (.inr e))
      · simp only [Value.ownBlock, Option.some.injEq] at hb ⊢
        rcases L2.out with h | h
        · exact .inl (h.symm.trans hb)
        · right; omega
      · rcases l3 b hb with e | e
        · exact .inl e
        · right; have := K2.out.size; simp at e; omega
end Go.Proofs.YtcpegoofbenoiaaGreatDoor
