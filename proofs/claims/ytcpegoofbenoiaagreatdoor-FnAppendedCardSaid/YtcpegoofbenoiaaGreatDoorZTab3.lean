/-
  CONTRACTS of the writer of a table of texts: writing.
-/
import Derived.Test.YtcpegoofbenoiaaGreatDoorZGTab
import Derived.BigRegion
namespace Go.Proofs.YtcpegoofbenoiaaGreatDoor
open Go.RowKit
open Go.ChangeShapes Go.WideShapes Go.ChangeAt Go.Deep
open Plain (M64)

theorem Blk.ne {w : World} {g g' : Nat} {cs cs' : List Value} {T T' : TypeId} (h : Blk w g cs T) (h' : Blk w g' cs' T') (hT : T ≠ T') : g ≠ g' := by
  rintro rfl
  rw [Blk, h'] at h
  simp at h
  exact hT h.2.symm
theorem aheadWrite (a : Addr) (w : World) : (nilAhead 344 54 (.pointer (some a)) "Write").run Tryz.prog w = .ok (some false) w := by kernel_rfl
theorem methodWrite (a : Addr) (w : World) : (method 344 54 (.pointer (some a)) "Write").run Tryz.prog w = .ok (67, .pointer (some a)) w := by kernel_rfl
/-- A writer of a table, and the writer of bytes that it writes to. -/
structure TW (w : World) (g : Nat) (T : TypeId) (rest : List Value) (mb : Nat) (st tm : Value) (fz : Bool) (all : List ByteArray) (gw : Nat) (pv : Value) (p : Nat) (bs : List UInt8) : Prop where
  tab : Tab w g T rest mb st tm fz all
  wr : Wr w gw pv p bs
  sep : ∀ b, tm.ownBlock = some b → pv.ownBlock ≠ some b
/-- The blocks that writing touches. -/
def TWF (g gw : Nat) (tm pv : Value) : Nat → Prop := fun i => i = g ∨ tm.ownBlock = some i ∨ i = gw ∨ pv.ownBlock = some i
/-- The types of the blocks are apart. -/
structure Apart (T : TypeId) : Prop where
  s : 9 ≠ T
  b : 5 ≠ T
  w : T ≠ 56
  p : T ≠ 88
  i : T ≠ 87
theorem TW.far {w w' : World} {g : Nat} {T : TypeId} {rest : List Value} {mb : Nat} {st tm : Value} {fz : Bool} {all : List ByteArray} {gw : Nat} {pv : Value} {p : Nat} {bs : List UInt8} (h : TW w g T rest mb st tm fz all gw pv p bs) (k : Keep Non w w') : TW w' g T rest mb st tm fz all gw pv p bs :=
  ⟨h.tab.far k, ⟨h.wr.blk.keep k (fun h => h), h.wr.row.keep k (fun _ _ h => h), h.wr.le⟩, h.sep⟩
theorem TW.keep {S : Nat → Prop} {w w' : World} {g : Nat} {T : TypeId} {rest : List Value} {mb : Nat} {st tm : Value} {fz : Bool} {all : List ByteArray} {gw : Nat} {pv : Value} {p : Nat} {bs : List UInt8} (h : TW w g T rest mb st tm fz all gw pv p bs) (k : Keep S w w')
    (hs : ∀ i, TabF g mb st tm i ∨ i = gw ∨ pv.ownBlock = some i → ¬ S i) : TW w' g T rest mb st tm fz all gw pv p bs :=
  ⟨h.tab.keep k (fun i hi => hs i (.inl hi)), ⟨h.wr.blk.keep k (hs gw (.inr (.inl rfl))), h.wr.row.keep k (fun b hb => hs b (.inr (.inr hb))), h.wr.le⟩, h.sep⟩
/-- What is of the table is not of the writer. -/
theorem TW.apart {w : World} {g : Nat} {T : TypeId} {rest : List Value} {mb : Nat} {st tm : Value} {fz : Bool} {all : List ByteArray} {gw : Nat} {pv : Value} {p : Nat} {bs : List UInt8} (h : TW w g T rest mb st tm fz all gw pv p bs) (hA : Apart T) : ∀ i, TabF g mb st tm i → i ≠ gw ∧ pv.ownBlock ≠ some i := by
  obtain ⟨n0, bs0, r0, _⟩ := h.tab.tmp
  intro i hi
  rcases hi with rfl | rfl | hi | hi
  · exact ⟨h.tab.blk.ne h.wr.blk hA.w, fun e => h.wr.row.neBlk h.tab.blk hA.b e⟩
  · exact ⟨h.tab.map.neBlk h.wr.blk, h.tab.map.neRow h.wr.row⟩
  · exact ⟨fun e => h.tab.strs.neBlk h.wr.blk (by decide) (by rw [hi, e]), fun e => h.tab.strs.ne h.wr.row (by decide) hi e⟩
  · exact ⟨fun e => r0.neBlk h.wr.blk (by decide) (by rw [hi, e]), h.sep i hi⟩
/-- The table's scratch is another. -/
theorem TW.laid {w w' : World} {g : Nat} {T : TypeId} {rest : List Value} {mb : Nat} {st : Value} {fz : Bool} {all : List ByteArray} {b n c vb vc x : Nat} {gw : Nat} {pv : Value} {p : Nat} {bs : List UInt8} (h : TW w g T rest mb st (.slice (some ⟨b, 0, none⟩) n c) fz all gw pv p bs) (hA : Apart T) (hx : x < M64) (k : Keep (At b) w w')
    (r : Row w' 5 1 (.slice (some ⟨vb, 0, none⟩) (uleb x).length vc) (uleb x).length (B (uleb x))) (hl : vb = b ∨ w.heap.size ≤ vb) :
    Blk w' g (tcells mb st (.slice (some ⟨b, 0, none⟩) n c) fz rest) T ∧ TW (w'.setCell ⟨g, 2, none⟩ (.slice (some ⟨vb, 0, none⟩) (uleb x).length vc)) g T rest mb st (.slice (some ⟨vb, 0, none⟩) (uleb x).length vc) fz all gw pv p bs ∧
    Row (w'.setCell ⟨g, 2, none⟩ (.slice (some ⟨vb, 0, none⟩) (uleb x).length vc)) 5 1 (.slice (some ⟨vb, 0, none⟩) (uleb x).length vc) (uleb x).length (B (uleb x)) := by
  obtain ⟨h1, h2, h3⟩ := h.tab.laid hA.s hA.b hx k r
  have ha := h.apart hA
  have hb := ha b (.inr (.inr (.inr rfl)))
  have hg := ha g (.inl rfl)
  refine ⟨h1, ⟨h2, ⟨(h.wr.blk.keep k (fun e => hb.1 (Eq.symm e))).setOther (fun e => hg.1 (Eq.symm e)) _, (h.wr.row.keep k (fun i hi e => hb.2 (by rw [hi]; exact congrArg some (show i = b from e)))).keep (Keep.one w' g 2 _) (fun i hi e => hg.2 (by rw [hi]; exact congrArg some (show i = g from e))), h.wr.le⟩, fun i hi e => ?_⟩, h3⟩
  simp only [Value.ownBlock, Option.some.injEq] at hi
  subst hi
  rcases hl with rfl | hl
  · exact hb.2 e
  · have := h.wr.row.lt e
    omega
theorem TW.scratch {w : World} {g : Nat} {T : TypeId} {rest : List Value} {mb : Nat} {st : Value} {fz : Bool} {all : List ByteArray} {b n c : Nat} {gw : Nat} {pv : Value} {p : Nat} {bs : List UInt8} (h : TW w g T rest mb st (.slice (some ⟨b, 0, none⟩) n c) fz all gw pv p bs) (hA : Apart T) :
    TW (w.setCell ⟨g, 2, none⟩ (.slice (some ⟨b, 0, none⟩) 0 c)) g T rest mb st (.slice (some ⟨b, 0, none⟩) 0 c) fz all gw pv p bs ∧ Row (w.setCell ⟨g, 2, none⟩ (.slice (some ⟨b, 0, none⟩) 0 c)) 5 1 (.slice (some ⟨b, 0, none⟩) 0 c) 0 (B []) := by
  obtain ⟨h1, h2⟩ := h.tab.scratch hA.s hA.b
  have hg := h.apart hA g (.inl rfl)
  exact ⟨⟨h1, ⟨h.wr.blk.setOther (fun e => hg.1 (Eq.symm e)) _, h.wr.row.keep (Keep.one w g 2 _) (fun i hi e => hg.2 (by rw [hi]; exact congrArg some (show i = g from e))), h.wr.le⟩, h.sep⟩, h2⟩
theorem TW.drew {w : World} {g : Nat} {T : TypeId} {rest : List Value} {mb : Nat} {st tm : Value} {fz : Bool} {all : List ByteArray} {gw : Nat} {pv : Value} {p : Nat} {bs : List UInt8} (h : TW w g T rest mb st tm fz all gw pv p bs) : TW w.drew g T rest mb st tm fz all gw pv p bs := h.far (Keep.refl _ _).drew
/-- Something was written. -/
theorem TW.write {w w' : World} {g : Nat} {T : TypeId} {rest : List Value} {mb : Nat} {st tm : Value} {fz : Bool} {all : List ByteArray} {gw : Nat} {pv pv' : Value} {p p' : Nat} {bs bs' : List UInt8} (h : TW w g T rest mb st tm fz all gw pv p bs) (hA : Apart T) (hw : Wr w' gw pv' p' bs')
    (k : Keep (fun i => i = gw ∨ pv.ownBlock = some i) w w') (hl : ∀ b, pv'.ownBlock = some b → pv.ownBlock = some b ∨ w.heap.size ≤ b) : TW w' g T rest mb st tm fz all gw pv' p' bs' := by
  refine ⟨h.tab.keep k (fun i hi e => ?_), hw, fun b hb e => ?_⟩
  · obtain ⟨h1, h2⟩ := h.apart hA i hi
    rcases e with e | e
    · exact h1 e
    · exact h2 e
  · rcases hl b e with h1 | h1
    · exact h.sep b hb h1
    · have := h.tab.lt b (.inr (.inr (.inr hb)))
      omega
/-- What one number written has done. -/
def W128Post (g : Nat) (T : TypeId) (rest : List Value) (mb : Nat) (st tm : Value) (fz : Bool) (all : List ByteArray) (gw : Nat) (pv : Value) (p : Nat) (bs ds : List UInt8) (w : World) (e : Ending) (w' : World) : Prop :=
  ∃ tm' pv', e = .returned .nilIface ∧ TW w' g T rest mb st tm' fz all gw pv' (p + ds.length) (wrote bs p ds) ∧ Keep (TWF g gw tm pv) w w' ∧ (∀ b, tm'.ownBlock = some b → tm.ownBlock = some b ∨ w.heap.size ≤ b) ∧ (∀ b, pv'.ownBlock = some b → pv.ownBlock = some b ∨ w.heap.size ≤ b)
set_option maxRecDepth 100000 in
set_option maxHeartbeats 8000000 in
theorem wr128 (g : Nat) (T : TypeId) (rest : List Value) (mb : Nat) (st tm : Value) (fz : Bool) (all : List ByteArray) (gw : Nat) (pv : Value) (p : Nat) (bs : List UInt8) (x ba bw : Nat) (w : World) (h : TW w g T rest mb st tm fz all gw pv p bs) (hA : Apart T) (hx : x < M64) (hbl : bs.length ≤ 4000000000)
    (hba : Blk w ba [.pointer (some ⟨g, 0, none⟩)] 88) (hbw : Blk w bw [.iface 54 (.pointer (some ⟨gw, 0, none⟩))] 87) :
    Calls Tryz.prog 83 #[.int .u64 x, .pointer (some ⟨ba, 0, none⟩), .pointer (some ⟨bw, 0, none⟩)] w (W128Post g T rest mb st tm fz all gw pv p bs (uleb x) w) := by
  obtain ⟨tb, tn, tc, rfl⟩ := h.tab.shape
  have a0 : w.cell? ⟨ba, 0, none⟩ = some (.pointer (some ⟨g, 0, none⟩)) := by rw [hba.cell]; rfl
  have w0 : w.cell? ⟨bw, 0, none⟩ = some (.iface 54 (.pointer (some ⟨gw, 0, none⟩))) := by rw [hbw.cell]; rfl
  have c2 := h.tab.c2
  have f2 := h.tab.blk.free 2
  have hga : ba ≠ g := fun e => hba.ne h.tab.blk (Ne.symm hA.p) e
  have hgb : bw ≠ g := fun e => hbw.ne h.tab.blk (Ne.symm hA.i) e
  have hgz := h.tab.blk.lt
  have H := Lib.hid h
  have HBA := Lib.hid hba
  have HBW := Lib.hid hbw
  clear h hba hbw
  go_enter Tryz.func83, Tryz.ntmps83
  go_wp2
  go_region
  go_upto_region 2 with (fail)
  obtain ⟨h1, r1⟩ := H.out.scratch hA
  have H1 := Lib.hid h1.drew
  have R1 := Lib.hid r1.drew
  clear h1 r1
  have K1 : Keep (fun i => i = g ∨ i = tb) w (w.setCell ⟨g, 2, none⟩ (.slice (some ⟨tb, 0, none⟩) 0 tc)).drew := ((Keep.refl _ _).setAt _ _ _ (.inl rfl)).drew
  have HK1 := Lib.hid K1
  have HBA1 : Hid (Blk (w.setCell ⟨g, 2, none⟩ (.slice (some ⟨tb, 0, none⟩) 0 tc)).drew ba [.pointer (some ⟨g, 0, none⟩)] 88) := Lib.hid (HBA.out.setOther hga _).drew
  have HBW1 : Hid (Blk (w.setCell ⟨g, 2, none⟩ (.slice (some ⟨tb, 0, none⟩) 0 tc)).drew bw [.iface 54 (.pointer (some ⟨gw, 0, none⟩))] 87) := Lib.hid (HBW.out.setOther hgb _).drew
  have ez : (w.setCell ⟨g, 2, none⟩ (.slice (some ⟨tb, 0, none⟩) 0 tc)).drew.heap.size = w.heap.size := by simp
  have HEZ := Lib.hid ez
  clear K1 ez
  generalize hW1 : (w.setCell ⟨g, 2, none⟩ (.slice (some ⟨tb, 0, none⟩) 0 tc)).drew = W1 at *
  clear hW1
  have e0 : W1.cell? ⟨ba, 0, none⟩ = some (.pointer (some ⟨g, 0, none⟩)) := by rw [HBA1.out.cell]; rfl
  have e2 : W1.cell? ⟨g, 2, none⟩ = some (.slice (some ⟨tb, 0, none⟩) 0 tc) := H1.out.tab.c2
  have hgz1 := H1.out.tab.blk.lt
  have hapg := (H1.out.apart hA g (.inl rfl))
  have hat := (H1.out.apart hA tb (.inr (.inr (.inr rfl))))
  have HAT := Lib.hid hat
  have hbt : ba ≠ tb := fun e => R1.out.neBlk HBA1.out (by decide) (by rw [e]; rfl)
  have hbt2 : bw ≠ tb := fun e => R1.out.neBlk HBW1.out (by decide) (by rw [e]; rfl)
  clear a0 w0 c2 f2 hgz hapg hat
  go_cut [4] from 15 to 23 (fun v wx => v = .nilIface ∧ ∃ vb vc, TW wx g T rest mb st (.slice (some ⟨vb, 0, none⟩) (uleb x).length vc) fz all gw pv p bs ∧ Row wx 5 1 (.slice (some ⟨vb, 0, none⟩) (uleb x).length vc) (uleb x).length (B (uleb x)) ∧ Keep (fun i => i = g ∨ i = tb) w wx ∧ (vb = tb ∨ w.heap.size ≤ vb))
  case first =>
    go_region_law (go_simp; go_at_call 66; go_must (refine (uleb0 tb tc x _ hx R1.out.drew).mono ?_); rintro e w2 ⟨vb, vc, rfl, r2, k2, l2⟩; obtain ⟨t2, t3, r3⟩ := H1.out.laid hA hx k2.undrew r2 l2; have d2 : w2.cell? ⟨g, 2, none⟩ = some (.slice (some ⟨tb, 0, none⟩) 0 tc) := (by rw [t2.cell]; rfl); have y2 := t2.free 2; have x0 : w2.cell? ⟨ba, 0, none⟩ = some (.pointer (some ⟨g, 0, none⟩)) := k2.undrew.cell e0 (fun e => hbt e))
    all_goals
      go_wp2_with fail
      go_meet
      case rel =>
        refine ⟨rfl, _, _, t3, r3, ?_, ?_⟩
        · refine Keep.setAt ?_ _ _ _ (.inl rfl)
          exact HK1.out.trans k2.undrew (fun i _ e => .inr e)
        · rcases l2 with h | h
          · exact .inl h
          · right; have := HEZ.out; simp at h; omega
  case rest =>
    obtain ⟨rfl, vb, vc, h2, r2, k2, l2⟩ := hcut
    have x0 : wc.cell? ⟨ba, 0, none⟩ = some (.pointer (some ⟨g, 0, none⟩)) := by
      rw [(HBA.out.keep k2 (fun e => by rcases e with e | e <;> omega)).cell]; rfl
    have x1 : wc.cell? ⟨bw, 0, none⟩ = some (.iface 54 (.pointer (some ⟨gw, 0, none⟩))) := by
      rw [(HBW.out.keep k2 (fun e => by rcases e with e | e <;> omega)).cell]; rfl
    have x2 := h2.tab.c2
    have H2 := Lib.hid h2
    have R2 := Lib.hid r2
    have K2 := Lib.hid k2
    have L2 := Lib.hid l2
    clear h2 r2 k2 l2
    have hna := aheadWrite
    have hme := methodWrite
    go_upto_region 3 with (fail)
    go_cut [4, 5, 6] from 24 to 35 (fun v v5 v6 wx => v = .nilIface ∧ v5 = .int .i64 (uleb x).length ∧ v6 = .nilIface ∧ ∃ pv', TW wx g T rest mb st (.slice (some ⟨vb, 0, none⟩) (uleb x).length vc) fz all gw pv' (p + (uleb x).length) (wrote bs p (uleb x)) ∧ Keep (TWF g gw (.slice (some ⟨tb, 0, none⟩) tn tc) pv) w wx ∧ (∀ b, pv'.ownBlock = some b → pv.ownBlock = some b ∨ w.heap.size ≤ b))
    case first =>
      have hlu := uleb_len64 hx
      have HNE : Hid (0 < (uleb x).length → ∀ b, (Value.slice (some ⟨vb, 0, none⟩) (uleb x).length vc).ownBlock = some b → b ≠ gw ∧ pv.ownBlock ≠ some b) := Lib.hid (fun _ b hb => H2.out.apart hA b (.inr (.inr (.inr hb))))
      go_region_with (go_at_call 67; go_must (refine (swrite gw pv _ p bs (uleb x) _ H2.out.drew.wr R2.out.reads.drew hbl (by omega) HNE.out).mono ?_); rintro e w3 ⟨pv', rfl, hw3, k3, l3⟩)
      all_goals
        go_wp2_with fail
        go_meet
        case rel =>
          refine ⟨rfl, rfl, rfl, pv', H2.out.drew.write hA hw3 k3 l3, ?_, fun b hb => ?_⟩
          · refine Keep.trans (S' := fun i => i = gw ∨ pv.ownBlock = some i) ?_ k3 (fun i _ e => ?_)
            · exact (K2.out.mono (fun i _ e => by
                rcases e with e | e
                · exact .inl e
                · exact .inr (.inl (congrArg some (Eq.symm e))))).drew
            · rcases e with e | e
              · exact .inr (.inr (.inl e))
              · exact .inr (.inr (.inr e))
          · rcases l3 b hb with e | e
            · exact .inl e
            · right; have := K2.out.size; simp at e; omega
    case rest =>
      obtain ⟨rfl, rfl, rfl, pv', h4, k4, l4⟩ := hcut
      have hbaf : ¬ TWF g gw (.slice (some ⟨tb, 0, none⟩) tn tc) pv ba := by
        rintro (e | e | e | e)
        · omega
        · simp [Value.ownBlock] at e; omega
        · exact HBA.out.ne H.out.wr.blk (by decide) e
        · exact H.out.wr.row.neBlk HBA.out (by decide) e
      have y0 : wc.cell? ⟨ba, 0, none⟩ = some (.pointer (some ⟨g, 0, none⟩)) := by
        rw [(HBA.out.keep k4 hbaf).cell]; rfl
      have y2 := h4.tab.c2
      have H4 := Lib.hid h4
      have K4 := Lib.hid k4
      have L4 := Lib.hid l4
      clear h4 k4 l4 hbaf
      go_wp2
      go_ret
      refine ⟨_, pv', rfl, H4.out, K4.out, fun b hb => ?_, L4.out⟩
      simp only [Value.ownBlock, Option.some.injEq] at hb
      subst hb
      rcases L2.out with e | e
      · exact .inl (congrArg some e.symm)
      · exact .inr e
end Go.Proofs.YtcpegoofbenoiaaGreatDoor
