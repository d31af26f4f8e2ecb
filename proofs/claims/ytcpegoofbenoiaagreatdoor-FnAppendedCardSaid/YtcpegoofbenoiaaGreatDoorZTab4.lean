/-
  THE CONTRACT of the writer of a table of texts: the whole table is written.
-/
import Derived.Test.YtcpegoofbenoiaaGreatDoorZTab3
namespace Go.Proofs.YtcpegoofbenoiaaGreatDoor
open Go.RowKit
open Go.ChangeShapes Go.WideShapes Go.ChangeAt Go.Deep
open Plain (M64)

theorem wrote_end (bs ds : List UInt8) : wrote bs bs.length ds = bs ++ ds := by
  rw [wrote, List.take_of_length_le (Nat.le_refl _), List.drop_of_length_le (by omega), List.append_nil]
/-- A writer of a table, and a writer of bytes that stands at its end. -/
def TE (w : World) (g : Nat) (T : TypeId) (rest : List Value) (mb : Nat) (st tm : Value) (fz : Bool) (all : List ByteArray) (gw : Nat) (pv : Value) (bs : List UInt8) : Prop := TW w g T rest mb st tm fz all gw pv bs.length bs
/-- What writing has done. -/
def TWritePost (g : Nat) (T : TypeId) (rest : List Value) (mb : Nat) (st tm : Value) (fz : Bool) (all : List ByteArray) (gw : Nat) (pv : Value) (bs : List UInt8) (w : World) (e : Ending) (w' : World) : Prop :=
  ∃ tm' pv', e = .returned .nilIface ∧ TE w' g T rest mb st tm' fz all gw pv' (bs ++ tbytes all) ∧ Keep (TWF g gw tm pv) w w' ∧ (∀ b, tm'.ownBlock = some b → tm.ownBlock = some b ∨ w.heap.size ≤ b) ∧ (∀ b, pv'.ownBlock = some b → pv.ownBlock = some b ∨ w.heap.size ≤ b)
/-- One number more. -/
theorem wr128E (g : Nat) (T : TypeId) (rest : List Value) (mb : Nat) (st tm : Value) (fz : Bool) (all : List ByteArray) (gw : Nat) (pv : Value) (bs : List UInt8) (x ba bw : Nat) (w : World) (h : TE w g T rest mb st tm fz all gw pv bs) (hA : Apart T) (hx : x < M64) (hbl : bs.length ≤ 4000000000)
    (hba : Blk w ba [.pointer (some ⟨g, 0, none⟩)] 88) (hbw : Blk w bw [.iface 54 (.pointer (some ⟨gw, 0, none⟩))] 87) :
    Calls Tryz.prog 83 #[.int .u64 x, .pointer (some ⟨ba, 0, none⟩), .pointer (some ⟨bw, 0, none⟩)] w fun e w' => ∃ tm' pv', e = .returned .nilIface ∧ TE w' g T rest mb st tm' fz all gw pv' (bs ++ uleb x) ∧ Keep (TWF g gw tm pv) w w' ∧ (∀ b, tm'.ownBlock = some b → tm.ownBlock = some b ∨ w.heap.size ≤ b) ∧ (∀ b, pv'.ownBlock = some b → pv.ownBlock = some b ∨ w.heap.size ≤ b) := by
  refine (wr128 g T rest mb st tm fz all gw pv bs.length bs x ba bw w h hA hx hbl hba hbw).mono ?_
  rintro e w' ⟨tm', pv', rfl, h1, k, l1, l2⟩
  rw [wrote_end] at h1
  exact ⟨tm', pv', rfl, by unfold TE; rw [List.length_append]; exact h1, k, l1, l2⟩
/-- Footprints, carried on. -/
theorem foot_trans {g gw : Nat} {tm tm1 pv pv1 : Value} {a b c : World} (k : Keep (TWF g gw tm pv) a b) (k1 : Keep (TWF g gw tm1 pv1) b c) (l1 : ∀ i, tm1.ownBlock = some i → tm.ownBlock = some i ∨ a.heap.size ≤ i) (l2 : ∀ i, pv1.ownBlock = some i → pv.ownBlock = some i ∨ a.heap.size ≤ i) : Keep (TWF g gw tm pv) a c :=
  k.trans k1 (fun i hi e => by
    rcases e with e | e | e | e
    · exact .inl e
    · exact .inr (.inl ((l1 i e).resolve_right (by omega)))
    · exact .inr (.inr (.inl e))
    · exact .inr (.inr (.inr ((l2 i e).resolve_right (by omega)))))
theorem lies_trans {v v1 v2 : Value} {a b : World} (hs : a.heap.size ≤ b.heap.size) (l : ∀ i, v1.ownBlock = some i → v.ownBlock = some i ∨ a.heap.size ≤ i) (l1 : ∀ i, v2.ownBlock = some i → v1.ownBlock = some i ∨ b.heap.size ≤ i) : ∀ i, v2.ownBlock = some i → v.ownBlock = some i ∨ a.heap.size ≤ i := by
  intro i hi
  rcases l1 i hi with h | h
  · exact l i h
  · right; omega
set_option maxRecDepth 100000 in
set_option maxHeartbeats 8000000 in
theorem twrite (g : Nat) (T : TypeId) (rest : List Value) (mb : Nat) (st tm : Value) (fz : Bool) (all : List ByteArray) (gw : Nat) (pv : Value) (bs : List UInt8) (w : World) (h : TE w g T rest mb st tm fz all gw pv bs) (hA : Apart T) (hbl : bs.length ≤ 2000000000) (hl : all.length ≤ 1000) :
    Calls Tryz.prog 62 #[.pointer (some ⟨g, 0, none⟩), .iface 54 (.pointer (some ⟨gw, 0, none⟩))] w (TWritePost g T rest mb st tm fz all gw pv bs w) := by
  obtain ⟨sa, sc, rfl⟩ := h.tab.strs.reads.slice
  have hxl : all.length < M64 := by unfold M64; omega
  have hmem := methodWrite
  have c1 := h.tab.c1
  have hgz := h.tab.blk.lt
  have hlt0 := h.tab.lt
  have hpl : ∀ i, pv.ownBlock = some i → i < w.heap.size := fun i hi => h.wr.row.lt hi
  have hgwz := h.wr.blk.lt
  have ez : (w.alloc (.cells #[.pointer (some ⟨g, 0, none⟩)] 88)).heap.size = w.heap.size + 1 := by simp
  have hb1 : Blk ((w.alloc (.cells #[.pointer (some ⟨g, 0, none⟩)] 88)).alloc (.cells #[.iface 54 (.pointer (some ⟨gw, 0, none⟩))] 87)) w.heap.size [.pointer (some ⟨g, 0, none⟩)] 88 := (Blk.new w [.pointer (some ⟨g, 0, none⟩)] _).alloc _
  have hb2 : Blk ((w.alloc (.cells #[.pointer (some ⟨g, 0, none⟩)] 88)).alloc (.cells #[.iface 54 (.pointer (some ⟨gw, 0, none⟩))] 87)) (w.heap.size + 1) [.iface 54 (.pointer (some ⟨gw, 0, none⟩))] 87 := by
    have := Blk.new (w.alloc (.cells #[.pointer (some ⟨g, 0, none⟩)] 88)) [.iface 54 (.pointer (some ⟨gw, 0, none⟩))] 87
    rw [ez] at this
    exact this
  have h0 : TE ((w.alloc (.cells #[.pointer (some ⟨g, 0, none⟩)] 88)).alloc (.cells #[.iface 54 (.pointer (some ⟨gw, 0, none⟩))] 87)) g T rest mb (.slice sa all.length sc) tm fz all gw pv bs := TW.far h (((Keep.refl Non w).alloc _).alloc _)
  have hF1 : ¬ TWF g gw tm pv w.heap.size := by
    rintro (e | e | e | e)
    · omega
    · have := hlt0 _ (.inr (.inr (.inr e))); omega
    · omega
    · have := hpl _ e; omega
  have hF2 : ¬ TWF g gw tm pv (w.heap.size + 1) := by
    rintro (e | e | e | e)
    · omega
    · have := hlt0 _ (.inr (.inr (.inr e))); omega
    · omega
    · have := hpl _ e; omega
  have hzz : ((w.alloc (.cells #[.pointer (some ⟨g, 0, none⟩)] 88)).alloc (.cells #[.iface 54 (.pointer (some ⟨gw, 0, none⟩))] 87)).heap.size = w.heap.size + 1 + 1 := by simp
  have H0 := Lib.hid h0
  have HB1 := Lib.hid hb1
  have HB2 := Lib.hid hb2
  have HF1 := Lib.hid hF1
  have HF2 := Lib.hid hF2
  have HZZ := Lib.hid hzz
  have HSH := Lib.hid h.tab.short
  have HKW : Hid (Keep Non w ((w.alloc (.cells #[.pointer (some ⟨g, 0, none⟩)] 88)).alloc (.cells #[.iface 54 (.pointer (some ⟨gw, 0, none⟩))] 87))) := Lib.hid (((Keep.refl Non w).alloc _).alloc _)
  have hW0 : Hid (∃ W0, W0 = (w.alloc (.cells #[.pointer (some ⟨g, 0, none⟩)] 88)).alloc (.cells #[.iface 54 (.pointer (some ⟨gw, 0, none⟩))] 87)) := Lib.hid ⟨_, rfl⟩
  clear h h0 hb1 hb2 hF1 hF2 hzz ez hlt0 hpl
  go_enter Tryz.func62, Tryz.ntmps62
  go_wp2_with (go_at_call 83; go_must (refine (wr128E g T rest mb _ tm fz all gw pv bs all.length _ _ _ H0.out hA hxl (by omega) HB1.out HB2.out).mono ?_); rintro e w1 ⟨tm1, pv1, rfl, h1, k1, l1, l2⟩; have e1 : w1.cell? ⟨w.heap.size, 0, none⟩ = some (.pointer (some ⟨g, 0, none⟩)) := (by rw [(HB1.out.keep k1 HF1.out).cell]; rfl); have e2 := h1.tab.c1)
  have K1 := Lib.hid k1
  have L1 := Lib.hid l1
  have L2 := Lib.hid l2
  have H1 := Lib.hid h1
  clear h1 k1 l1 l2 hW0 H0 e1 e2
  generalize ((w.alloc (.cells #[.pointer (some ⟨g, 0, none⟩)] 88)).alloc (.cells #[.iface 54 (.pointer (some ⟨gw, 0, none⟩))] 87)) = W0 at K1 L1 L2 HB1 HB2 HZZ HKW
  have hszs := tones_len all HSH.out
  have hlu := uleb_len64 hxl
  go_loopw [29] (fun i wr => ∃ (k : Nat) (tm' pv' : Value) (L : List UInt8), k ≤ all.length ∧ i = .int .i64 k ∧ L = bs ++ (uleb all.length ++ (all.take k).flatMap tone) ∧ L.length ≤ bs.length + 10 + 1010 * k ∧ TE wr g T rest mb (.slice sa all.length sc) tm' fz all gw pv' L ∧ Keep (TWF g gw tm pv) W0 wr ∧ (∀ i, tm'.ownBlock = some i → tm.ownBlock = some i ∨ W0.heap.size ≤ i) ∧ (∀ i, pv'.ownBlock = some i → pv.ownBlock = some i ∨ W0.heap.size ≤ i)) (fun i _ => all.length - (intOf i).toNat)
  case atStart => exact ⟨0, tm1, pv1, _, by omega, rfl, by simp, by simp; omega, H1.out, K1.out, L1.out, L2.out⟩
  case round =>
    obtain ⟨k, tm', pv', L, hk, rfl, hL, hLb, hT, hkp, hl1, hl2⟩ := hrel
    by_cases hlt : k < all.length
    · obtain ⟨sb, sc', hse⟩ := hT.tab.strs.at (by omega)
      cases hse
      have e0 := hT.tab.strs.cell k (by omega)
      rw [Ts_at hlt] at e0
      have hb1 := HB1.out.keep hkp HF1.out
      have hb2 := HB2.out.keep hkp HF2.out
      have hsk := hT.tab.short _ (List.getElem_mem hlt)
      have hsn := tones_snoc hlt
      have HSN := Lib.hid hsn
      have HL := Lib.hid hL
      have HT := Lib.hid hT
      have HKP := Lib.hid hkp
      have HL1 := Lib.hid hl1
      have HL2 := Lib.hid hl2
      have HBA := Lib.hid hb1
      have HBB := Lib.hid hb2
      have hz0 := hkp.size
      clear hsn hL hT hkp hl1 hl2 hb1 hb2
      have hxs : all[k].size < M64 := by unfold M64; omega
      have hlu2 := uleb_len64 hxs
      generalize all[k] = s at *
      have hLb2 : L.length ≤ 4000000000 := by omega
      go_wp2_with (first
        | (go_at_call 83; go_must (refine (wr128E g T rest mb _ tm' fz all gw pv' L s.size _ _ _ HT.out hA hxs hLb2 HBA.out HBB.out).mono ?_); rintro e w2 ⟨tm2, pv2, rfl, h2, k2, l3, l4⟩
           have x1 : w2.cell? ⟨w.heap.size + 1, 0, none⟩ = some (.iface 54 (.pointer (some ⟨gw, 0, none⟩))) := by
             rw [(HB2.out.keep (foot_trans HKP.out k2 HL1.out HL2.out) HF2.out).cell]; rfl
           obtain ⟨W3, cp, hcv, kc, rc, zc⟩ := conv w2 s
           have h3 : TE W3 g T rest mb _ tm2 fz all gw pv2 (L ++ uleb s.size) := TW.far h2 kc
           have KK2 := Lib.hid ((foot_trans HKP.out k2 HL1.out HL2.out).trans kc (fun _ _ h => h.elim))
           have LL3 := Lib.hid (lies_trans HKP.out.size HL1.out l3)
           have LL4 := Lib.hid (lies_trans HKP.out.size HL2.out l4)
           have hps : ∀ i, pv2.ownBlock = some i → i < w2.heap.size := fun i hi => h2.wr.row.lt hi
           have hgs : gw < w2.heap.size := h2.wr.blk.lt
           have HH3 := Lib.hid h3
           have RC := Lib.hid rc
           have ZC := Lib.hid zc
           have HPS := Lib.hid hps
           have hq1 : (L ++ uleb s.size).length ≤ 4000000000 := by rw [List.length_append]; omega
           have hq2 : s.data.toList.length ≤ 4000000000 := by rw [show s.data.toList.length = s.size from Array.length_toList]; omega
           have HNE : Hid (0 < s.data.toList.length → ∀ b, (Value.slice (some ⟨w2.heap.size, 0, none⟩) s.size cp).ownBlock = some b → b ≠ gw ∧ pv2.ownBlock ≠ some b) := Lib.hid (fun _ i hi => by
             have hi' : w2.heap.size = i := by simpa [Value.ownBlock] using hi
             subst hi'
             refine ⟨by omega, fun e => ?_⟩
             have := hps _ e
             omega)
           clear h2 k2 l3 l4 kc rc zc h3 hps)
        | (go_at_call 67; go_must (refine (swrite gw pv2 _ (L ++ uleb s.size).length (L ++ uleb s.size) s.data.toList _ HH3.out.wr RC.out hq1 hq2 HNE.out).mono ?_); rintro e w4 ⟨pv4, he, hw4, k4, l5⟩
           rw [show s.data.toList.length = s.size from Array.length_toList] at he
           subst he
           obtain ⟨W5, cp5, hcv5, kc5, rc5, zc5⟩ := conv w4 s
           clear rc5 zc5))
      go_roundw
      case measure => simp [intOf]; omega
      case rel =>
        have hsl : s.data.toList.length = s.size := Array.length_toList
        have h5 := HH3.out.write hA hw4 k4 l5
        rw [wrote_end] at h5
        have h6 : TE W5 g T rest mb (.slice (some ⟨sb, 0, none⟩) all.length sc) tm2 fz all gw pv4 ((L ++ uleb s.size) ++ s.data.toList) := by
          refine TW.far ?_ kc5
          rw [List.length_append]
          exact h5
        have ht : (tone s).length ≤ 1010 := tone_len hsk
        refine ⟨k + 1, tm2, pv4, _, by omega, by go_num, ?_, ?_, h6, ?_, LL3.out, ?_⟩
        · rw [HSN.out, HL.out]
          simp [tone]
        · have : ((L ++ uleb s.size) ++ s.data.toList).length = L.length + (tone s).length := by simp [tone]
          omega
        · refine Keep.trans (KK2.out.trans k4 (fun i hi e => ?_)) kc5 (fun _ _ h => h.elim)
          rcases e with e | e
          · exact .inr (.inr (.inl e))
          · exact .inr (.inr (.inr ((LL4.out i e).resolve_right (by omega))))
        · exact lies_trans KK2.out.size LL4.out l5
    · have hkl : k = all.length := by omega
      subst hkl
      rw [List.take_of_length_le (Nat.le_refl _)] at hL
      have HL := Lib.hid hL
      have HT := Lib.hid hT
      have HKP := Lib.hid hkp
      have HL1 := Lib.hid hl1
      have HL2 := Lib.hid hl2
      clear hL hT hkp hl1 hl2
      go_wp2
      go_ret
      have hz := HKW.out.size
      refine ⟨tm', pv', rfl, ?_, (HKW.out.mono (fun _ _ h => h.elim)).trans HKP.out (fun i _ e => e), fun i hi => ?_, fun i hi => ?_⟩
      · have := HT.out
        rw [HL.out] at this
        exact this
      · rcases HL1.out i hi with h | h
        · exact .inl h
        · right; omega
      · rcases HL2.out i hi with h | h
        · exact .inl h
        · right; omega
end Go.Proofs.YtcpegoofbenoiaaGreatDoor
