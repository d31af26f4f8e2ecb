/-
  CONTRACT: a number of counters is written, by seven bits or as four bytes.
-/
import Derived.Test.YtcpegoofbenoiaaGreatDoorZCn
namespace Go.Proofs.YtcpegoofbenoiaaGreatDoor
open Go.RowKit
open Go.ChangeShapes Go.WideShapes Go.ChangeAt Go.Deep
open Plain (M64)

set_option maxRecDepth 100000 in
theorem lePut (g c v : Nat) (xs : List Value) (w : World) (h : Row w 5 1 (.slice (some ⟨g, 0, none⟩) 4 c) 4 xs) (hv : v < 4294967296) :
    Calls Tryz.prog 70 #[.slice (some ⟨g, 0, none⟩) 4 c, .int .u32 v] w fun e w' => e = .returned (.tuple #[]) ∧ Row w' 5 1 (.slice (some ⟨g, 0, none⟩) 4 c) 4 (B (leb 4 v)) ∧ Keep (At g) w w' := by
  have f0 := h.free 0
  have f1 := h.free 1
  have f2 := h.free 2
  have f3 := h.free 3
  have hlt : g < w.heap.size := h.lt rfl
  have H := Lib.hid h
  have hl := h.len
  have c0 : w.cell? ⟨g, 0, none⟩ = some (xs[0]'(by omega)) := by rw [h.cell 0 (by omega)]; simp
  have c1 : w.cell? ⟨g, 1, none⟩ = some (xs[1]'(by omega)) := by rw [h.cell 1 (by omega)]; simp
  have c2 : w.cell? ⟨g, 2, none⟩ = some (xs[2]'(by omega)) := by rw [h.cell 2 (by omega)]; simp
  have c3 : w.cell? ⟨g, 3, none⟩ = some (xs[3]'(by omega)) := by rw [h.cell 3 (by omega)]; simp
  clear h
  go_enter Tryz.func70, Tryz.ntmps70
  go_wp2
  go_end0
  refine ⟨rfl, ?_, (((((Keep.refl _ _).setAt _ _ _ (atSelf _)).setAt _ _ _ (atSelf _)).setAt _ _ _ (atSelf _)).setAt _ _ _ (atSelf _))⟩
  have h := ((((H.out.store 0 (.int .u8 ((v : Int) % 256))).store 1 (.int .u8 ((v : Int) / 256 % 256))).store 2 (.int .u8 ((v : Int) / 65536 % 256))).store 3 (.int .u8 ((v : Int) / 16777216)))
  have e : ((((xs.set 0 (.int .u8 ((v : Int) % 256))).set 1 (.int .u8 ((v : Int) / 256 % 256))).set 2 (.int .u8 ((v : Int) / 65536 % 256))).set 3 (.int .u8 ((v : Int) / 16777216))) = B (leb 4 v) := by
    match xs, hl with
    | [a0, a1, a2, a3], _ =>
      simp [leb, B]
      omega
  rw [e] at h
  exact h


/-- .. and four bytes of scratch beside it. -/
structure PC (w : World) (gc : Nat) (gs : Value) (gb fe st al : Nat) (tm : Value) (fl segs gw : Nat) (pv : Value) (bs : List UInt8) (bc bx : Nat) : Prop where
  pb : PB w gc gs gb fe st al tm fl segs gw pv bs
  box : Blk w bc [.slice (some ⟨bx, 0, none⟩) 4 4] 33
  row : ∃ xs, Row w 5 1 (.slice (some ⟨bx, 0, none⟩) 4 4) 4 xs
  sep1 : tm.ownBlock ≠ some bx
  sep2 : pv.ownBlock ≠ some bx
def PCF (gc gw bx : Nat) (tm pv : Value) : Nat → Prop := fun i => TWF gc gw tm pv i ∨ i = bx
def PCPost (gc : Nat) (gs : Value) (gb st al : Nat) (tm : Value) (fl segs gw : Nat) (pv : Value) (bs' : List UInt8) (fe' bc bx : Nat) (w : World) (e : Ending) (w' : World) : Prop :=
  ∃ tm' pv', e = .returned .nilIface ∧ PC w' gc gs gb fe' st al tm' fl segs gw pv' bs' bc bx ∧ Keep (PCF gc gw bx tm pv) w w' ∧ (∀ b, tm'.ownBlock = some b → tm.ownBlock = some b ∨ w.heap.size ≤ b) ∧ (∀ b, pv'.ownBlock = some b → pv.ownBlock = some b ∨ w.heap.size ≤ b)
section
variable {w w' : World} {gc : Nat} {gs : Value} {gb fe st al : Nat} {tm : Value} {fl segs gw : Nat} {pv : Value} {bs : List UInt8} {bc bx : Nat}
theorem PC.bxlt (h : PC w gc gs gb fe st al tm fl segs gw pv bs bc bx) : bx < w.heap.size := by
  obtain ⟨xs, r⟩ := h.row
  exact r.lt rfl
theorem PC.bxg (h : PC w gc gs gb fe st al tm fl segs gw pv bs bc bx) : bx ≠ gc ∧ bx ≠ gw ∧ bx ≠ bc := by
  obtain ⟨xs, r⟩ := h.row
  exact ⟨fun e => r.neBlk h.pb.blk (by decide) (by rw [← e]; rfl), fun e => r.neBlk h.pb.wr.blk (by decide) (by rw [← e]; rfl), fun e => r.neBlk h.box (by decide) (by rw [← e]; rfl)⟩
theorem PC.nbx (h : PC w gc gs gb fe st al tm fl segs gw pv bs bc bx) : ∀ i, TWF gc gw tm pv i → i ≠ bx := by
  obtain ⟨h1, h2, _⟩ := h.bxg
  rintro i (rfl | e | rfl | e) rfl
  · exact h1 rfl
  · exact h.sep1 e
  · exact h2 rfl
  · exact h.sep2 e
theorem PC.off (h : PC w gc gs gb fe st al tm fl segs gw pv bs bc bx) {b : Nat} {cs : List Value} {T : TypeId} (hb : Blk w b cs T) (h1 : T ≠ 98) (h2 : 5 ≠ T) (h3 : T ≠ 56) : ¬ PCF gc gw bx tm pv b := by
  rintro (e | rfl)
  · exact h.pb.off hb h1 h2 h3 e
  · obtain ⟨xs, r⟩ := h.row
    exact r.neBlk hb h2 rfl
theorem PC.keep {S : Nat → Prop} (h : PC w gc gs gb fe st al tm fl segs gw pv bs bc bx) (k : Keep S w w') (hs : ∀ i, PCF gc gw bx tm pv i → ¬ S i) (hb : ¬ S bc) : PC w' gc gs gb fe st al tm fl segs gw pv bs bc bx where
  pb := h.pb.keep k (fun i hi => hs i (.inl hi))
  box := h.box.keep k hb
  row := by
    obtain ⟨xs, r⟩ := h.row
    exact ⟨xs, r.keep k (fun b e => hs b (.inr (by simpa [Value.ownBlock] using e.symm)))⟩
  sep1 := h.sep1
  sep2 := h.sep2
theorem PC.far (h : PC w gc gs gb fe st al tm fl segs gw pv bs bc bx) (k : Keep Non w w') : PC w' gc gs gb fe st al tm fl segs gw pv bs bc bx := h.keep k (fun _ _ h => h) (fun h => h)
/-- A step of the writer. -/
theorem PC.step {fe' st' al' : Nat} {tm' pv' : Value} {bs' : List UInt8} (h : PC w gc gs gb fe st al tm fl segs gw pv bs bc bx) (h' : PB w' gc gs gb fe' st' al' tm' fl segs gw pv' bs') (k : Keep (TWF gc gw tm pv) w w')
    (l1 : ∀ b, tm'.ownBlock = some b → tm.ownBlock = some b ∨ w.heap.size ≤ b) (l2 : ∀ b, pv'.ownBlock = some b → pv.ownBlock = some b ∨ w.heap.size ≤ b) : PC w' gc gs gb fe' st' al' tm' fl segs gw pv' bs' bc bx := by
  obtain ⟨hg1, hg2, _⟩ := h.bxg
  have hlt := h.bxlt
  refine ⟨h', h.box.keep k (h.pb.off h.box (by decide) (by decide) (by decide)), ?_, fun e => ?_, fun e => ?_⟩
  · obtain ⟨xs, r⟩ := h.row
    refine ⟨xs, r.keep k (fun b e => ?_)⟩
    simp only [Value.ownBlock, Option.some.injEq] at e
    subst e
    rintro (e | e | e | e)
    · exact hg1 e
    · exact h.sep1 e
    · exact hg2 e
    · exact h.sep2 e
  · rcases l1 _ e with e | e
    · exact h.sep1 e
    · omega
  · rcases l2 _ e with e | e
    · exact h.sep2 e
    · omega
end
set_option maxRecDepth 100000 in
set_option maxHeartbeats 8000000 in
theorem wrRaw (gc : Nat) (gs : Value) (gb fe st al : Nat) (tm : Value) (segs gw : Nat) (pv : Value) (bs : List UInt8) (x ba bc bx bw : Nat) (w : World) (h : PC w gc gs gb fe st al tm 1 segs gw pv bs bc bx) (hx : x < 4294967296) (hbl : bs.length ≤ 2000000000)
    (hba : Blk w ba [.pointer (some ⟨gc, 0, none⟩)] 57) (hbw : Blk w bw [.pointer (some ⟨gw, 0, none⟩)] 54) :
    Calls Tryz.prog 69 #[.int .u32 x, .pointer (some ⟨ba, 0, none⟩), .pointer (some ⟨bc, 0, none⟩), .pointer (some ⟨bw, 0, none⟩)] w (PCPost gc gs gb st al tm 1 segs gw pv (bs ++ numB false x) fe bc bx w) := by
  obtain ⟨xs, hr⟩ := h.row
  have x0 : w.cell? ⟨ba, 0, none⟩ = some (.pointer (some ⟨gc, 0, none⟩)) := by rw [hba.cell]; rfl
  have x1 : w.cell? ⟨bc, 0, none⟩ = some (.slice (some ⟨bx, 0, none⟩) 4 4) := by rw [h.box.cell]; rfl
  have x6 := h.pb.c6
  have H := Lib.hid h
  have HR := Lib.hid hr
  have HBA := Lib.hid hba
  have HBW := Lib.hid hbw
  clear h hr hba hbw
  go_enter Tryz.func69, Tryz.ntmps69
  go_wp2_with (first
    | (go_at_call 70; refine (lePut bx 4 x xs _ HR.out hx).mono ?_; rintro e w1 ⟨rfl, r1, k1⟩; have y1 : w1.cell? ⟨bc, 0, none⟩ = some (.slice (some ⟨bx, 0, none⟩) 4 4) := k1.cell x1 (fun e => H.out.bxg.2.2 (Eq.symm e)); have y2 : w1.cell? ⟨bw, 0, none⟩ = some (.pointer (some ⟨gw, 0, none⟩)) := (by rw [(HBW.out.keep k1 (fun e => HR.out.neBlk HBW.out (by decide) (by rw [show bw = bx from e]; rfl))).cell]; rfl); have R1 := Lib.hid r1; have K1 := Lib.hid k1; have P1 := Lib.hid (H.out.pb.keep k1 (fun i hi e => H.out.nbx i hi e)); clear r1 k1)
    | (go_at_call 67; go_must (refine (swrite gw pv _ bs.length bs (leb 4 x) _ P1.out.wr (by rw [leb_length]; exact R1.out.reads) (by omega) (by rw [leb_length]; omega) (fun _ b hb => by simp only [Value.ownBlock, Option.some.injEq] at hb; subst hb; exact ⟨H.out.bxg.2.1, H.out.sep2⟩)).mono ?_); rintro e w3 ⟨pv', rfl, hw3, k3, l3⟩))
  rw [wrote_end, ← List.length_append] at hw3
  go_ret
  have P3 := P1.out.write hw3 k3 l3
  have R3 := R1.out.keep k3 (fun b hb e => by
    simp only [Value.ownBlock, Option.some.injEq] at hb
    subst hb
    rcases e with e | e
    · exact H.out.bxg.2.1 e
    · exact H.out.sep2 e)
  refine ⟨tm, pv', rfl, ⟨P3, ?_, ⟨_, R3⟩, H.out.sep1, fun e => ?_⟩, ?_, fun b hb => .inl hb, fun b hb => ?_⟩
  · refine (H.out.box.keep K1.out (fun e => H.out.bxg.2.2 (Eq.symm e))).keep k3 (fun e => ?_)
    rcases e with e | e
    · exact H.out.box.ne H.out.pb.wr.blk (by decide) e
    · exact H.out.pb.wr.row.neBlk H.out.box (by decide) e
  · rcases l3 _ e with e | e
    · exact H.out.sep2 e
    · have := H.out.bxlt; have := K1.out.size; omega
  · refine (K1.out.mono (fun i _ e => .inr e)).trans k3 (fun i _ e => ?_)
    rcases e with e | e
    · exact .inl (.inr (.inr (.inl e)))
    · exact .inl (.inr (.inr (.inr e)))
  · rcases l3 b hb with e | e
    · exact .inl e
    · right; have := K1.out.size; omega
set_option maxRecDepth 100000 in
set_option maxHeartbeats 8000000 in
theorem wrPk (gc : Nat) (gs : Value) (gb fe st al : Nat) (tm : Value) (segs gw : Nat) (pv : Value) (bs : List UInt8) (x ba bc bw : Nat) (w : World) (h : PB w gc gs gb fe st al tm 2 segs gw pv bs) (hx4 : x < 4294967296) (hbl : bs.length ≤ 2000000000)
    (hba : Blk w ba [.pointer (some ⟨gc, 0, none⟩)] 57) (hbw : Blk w bw [.pointer (some ⟨gw, 0, none⟩)] 54) :
    Calls Tryz.prog 69 #[.int .u32 x, .pointer (some ⟨ba, 0, none⟩), .pointer (some ⟨bc, 0, none⟩), .pointer (some ⟨bw, 0, none⟩)] w (PBPost gc gs gb st al tm 2 segs gw pv (bs ++ numB true x) fe w) := by
  have hx : x < M64 := by unfold M64; omega
  have wx : IntKind.u64.wrap (x : Int) = (x : Int) := Plain.wrap_u64 _ (by omega) (by unfold M64; omega)
  have x6 := h.c6
  obtain ⟨tb, tn, tc, rfl⟩ := h.shape
  have a0 : w.cell? ⟨ba, 0, none⟩ = some (.pointer (some ⟨gc, 0, none⟩)) := by rw [hba.cell]; rfl
  have c2 := h.c5
  have f2 := h.blk.free 5
  have hga : ba ≠ gc := fun e => hba.ne h.blk (by decide) e
  have hgb : bw ≠ gc := fun e => hbw.ne h.blk (by decide) e
  have hgz := h.blk.lt
  have H := Lib.hid h
  have HBA := Lib.hid hba
  have HBW := Lib.hid hbw
  clear h hba hbw
  go_enter Tryz.func69, Tryz.ntmps69
  go_upto_region 8 with (fail)
  go_region
  go_upto_region 9 with (fail)
  obtain ⟨h1, r1⟩ := H.out.scratch
  have H1 := Lib.hid h1.drew
  have R1 := Lib.hid r1.drew
  clear h1 r1
  have K1 : Keep (fun i => i = gc ∨ i = tb) w (w.setCell ⟨gc, 5, none⟩ (.slice (some ⟨tb, 0, none⟩) 0 tc)).drew := ((Keep.refl _ _).setAt _ _ _ (.inl rfl)).drew
  have HK1 := Lib.hid K1
  have HBA1 : Hid (Blk (w.setCell ⟨gc, 5, none⟩ (.slice (some ⟨tb, 0, none⟩) 0 tc)).drew ba [.pointer (some ⟨gc, 0, none⟩)] 57) := Lib.hid (HBA.out.setOther hga _).drew
  have ez : (w.setCell ⟨gc, 5, none⟩ (.slice (some ⟨tb, 0, none⟩) 0 tc)).drew.heap.size = w.heap.size := by simp
  have HEZ := Lib.hid ez
  clear K1 ez
  generalize hW1 : (w.setCell ⟨gc, 5, none⟩ (.slice (some ⟨tb, 0, none⟩) 0 tc)).drew = W1 at *
  clear hW1
  have e0 : W1.cell? ⟨ba, 0, none⟩ = some (.pointer (some ⟨gc, 0, none⟩)) := by rw [HBA1.out.cell]; rfl
  have e2 : W1.cell? ⟨gc, 5, none⟩ = some (.slice (some ⟨tb, 0, none⟩) 0 tc) := H1.out.c5
  have hgz1 := H1.out.blk.lt
  have hbt : ba ≠ tb := fun e => R1.out.neBlk HBA1.out (by decide) (by rw [e]; rfl)
  clear a0 c2 f2 hgz x6
  go_cut [] from 32 to 41 (fun wx => ∃ vb vc, PB wx gc gs gb fe st al (.slice (some ⟨vb, 0, none⟩) (uleb x).length vc) 2 segs gw pv bs ∧ Row wx 5 1 (.slice (some ⟨vb, 0, none⟩) (uleb x).length vc) (uleb x).length (B (uleb x)) ∧ Keep (fun i => i = gc ∨ i = tb) w wx ∧ (vb = tb ∨ w.heap.size ≤ vb))
  case first =>
    go_region_law (go_simp; go_at_call 66; go_must (refine (uleb0 tb tc x _ hx R1.out.drew).mono ?_); rintro e w2 ⟨vb, vc, rfl, r2, k2, l2⟩; obtain ⟨t2, t3, r3⟩ := H1.out.laid k2.undrew r2 l2; have d2 : w2.cell? ⟨gc, 5, none⟩ = some (.slice (some ⟨tb, 0, none⟩) 0 tc) := (by rw [t2.cell]; rfl); have y2 := t2.free 5; have x0 : w2.cell? ⟨ba, 0, none⟩ = some (.pointer (some ⟨gc, 0, none⟩)) := k2.undrew.cell e0 (fun e => hbt e))
    all_goals
      go_wp2_with fail
      go_meet
      case rel =>
        refine ⟨_, _, t3, r3, ?_, ?_⟩
        · refine Keep.setAt ?_ _ _ _ (.inl rfl)
          exact HK1.out.trans k2.undrew (fun i _ e => .inr e)
        · rcases l2 with h | h
          · exact .inl h
          · right; have := HEZ.out; simp at h; omega
  case rest =>
    obtain ⟨vb, vc, h2, r2, k2, l2⟩ := hcut
    have hbt2 : bw ≠ tb := fun e => by
      obtain ⟨n, xs, r⟩ := H.out.tmp
      exact r.neBlk HBW.out (by decide) (by rw [e]; rfl)
    have x0 : wc.cell? ⟨ba, 0, none⟩ = some (.pointer (some ⟨gc, 0, none⟩)) := by
      rw [(HBA.out.keep k2 (fun e => by rcases e with e | e <;> omega)).cell]; rfl
    have x1 : wc.cell? ⟨bw, 0, none⟩ = some (.pointer (some ⟨gw, 0, none⟩)) := by
      rw [(HBW.out.keep k2 (fun e => by rcases e with e | e <;> omega)).cell]; rfl
    have x2 := h2.c5
    have H2 := Lib.hid h2
    have R2 := Lib.hid r2
    have K2 := Lib.hid k2
    have L2 := Lib.hid l2
    clear h2 r2 k2 l2
    go_upto_region 13 with (fail)
    have hlu := uleb_len64 hx
    have HNE : Hid (0 < (uleb x).length → ∀ b, (Value.slice (some ⟨vb, 0, none⟩) (uleb x).length vc).ownBlock = some b → b ≠ gw ∧ pv.ownBlock ≠ some b) := Lib.hid (fun _ b hb => ⟨(H2.out.tg b hb).2, H2.out.sep b hb⟩)
    go_wp2_with (go_at_call 67; go_must (refine (swrite gw pv _ bs.length bs (uleb x) _ H2.out.wr R2.out.reads (by omega) (by omega) HNE.out).mono ?_); rintro e w3 ⟨pv', rfl, hw3, k3, l3⟩)
    all_goals
      go_wp2_with fail
      go_ret
      rw [wrote_end] at hw3
      rw [← List.length_append] at hw3
      refine ⟨_, pv', rfl, H2.out.write hw3 k3 l3, ?_, fun b hb => ?_, fun b hb => ?_⟩
      · refine Keep.trans (S' := fun i => i = gw ∨ pv.ownBlock = some i) ?_ k3 (fun i _ e => ?_)
        · exact (K2.out.mono (fun i _ e => by
            rcases e with e | e
            · exact .inl e
            · exact .inr (.inl (congrArg some (Eq.symm e)))))
        · rcases e with e | e
          · exact .inr (.inr (.inl e))
          · exact .inr (.inr (.inr e))
      · simp only [Value.ownBlock, Option.some.injEq] at hb ⊢
        rcases L2.out with h | h
        · exact .inl (h.symm.trans hb)
        · right; omega
      · rcases l3 b hb with e | e
        · exact .inl e
        · right; have := K2.out.size; omega
/-- A number, however it is written. -/
theorem wrVal (packed : Bool) (gc : Nat) (gs : Value) (gb fe st al : Nat) (tm : Value) (fl segs gw : Nat) (pv : Value) (bs : List UInt8) (x ba bc bx bw : Nat) (w : World) (h : PC w gc gs gb fe st al tm fl segs gw pv bs bc bx) (hfl : fl = if packed then 2 else 1) (hx : x < 4294967296) (hbl : bs.length ≤ 2000000000)
    (hba : Blk w ba [.pointer (some ⟨gc, 0, none⟩)] 57) (hbw : Blk w bw [.pointer (some ⟨gw, 0, none⟩)] 54) :
    Calls Tryz.prog 69 #[.int .u32 x, .pointer (some ⟨ba, 0, none⟩), .pointer (some ⟨bc, 0, none⟩), .pointer (some ⟨bw, 0, none⟩)] w (PCPost gc gs gb st al tm fl segs gw pv (bs ++ numB packed x) fe bc bx w) := by
  cases packed with
  | false =>
    subst hfl
    exact wrRaw gc gs gb fe st al tm segs gw pv bs x ba bc bx bw w h hx hbl hba hbw
  | true =>
    subst hfl
    refine (wrPk gc gs gb fe st al tm segs gw pv bs x ba bc bw w h.pb hx hbl hba hbw).mono ?_
    rintro e w' ⟨tm', pv', rfl, h', k, l1, l2⟩
    exact ⟨tm', pv', rfl, h.step h' k l1 l2, k.mono (fun _ _ e => .inl e), l1, l2⟩
end Go.Proofs.YtcpegoofbenoiaaGreatDoor
