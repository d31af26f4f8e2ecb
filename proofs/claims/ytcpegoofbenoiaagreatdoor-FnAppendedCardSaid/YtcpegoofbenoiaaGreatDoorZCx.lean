/-
  CONTRACTS of a buffered writer: room, writing into the buffer, flushing.
-/
import Derived.Test.YtcpegoofbenoiaaGreatDoorZGCt
import Derived.Test.YtcpegoofbenoiaaGreatDoorZGMem
namespace Go.Proofs.YtcpegoofbenoiaaGreatDoor
open Go.RowKit
open Go.ChangeShapes Go.WideShapes Go.ChangeAt Go.Deep
open Plain (M64)

/-- A buffered writer over a writer of bytes. -/
structure BW (w : World) (gb go bb : Nat) (pend : List UInt8) (po : Value) (out : List UInt8) : Prop where
  blk : Blk w gb [.nilIface, .slice (some ⟨bb, 0, none⟩) 4096 4096, .int .i64 (pend.length : Nat), .iface 54 (.pointer (some ⟨go, 0, none⟩))] 152
  buf : ∃ zs, Blk w bb zs 5 ∧ zs.length = 4096 ∧ zs.take pend.length = B pend
  wr : Wr w go po out.length out
  sep : po.ownBlock ≠ some bb
  le : pend.length ≤ 4096
def BWF (gb go bb : Nat) (po : Value) : Nat → Prop := fun i => i = gb ∨ i = go ∨ i = bb ∨ po.ownBlock = some i
section
variable {w w' : World} {gb go bb : Nat} {pend : List UInt8} {po : Value} {out : List UInt8}
theorem BW.lt (h : BW w gb go bb pend po out) : ∀ i, BWF gb go bb po i → i < w.heap.size := by
  obtain ⟨zs, hb, _⟩ := h.buf
  rintro i (rfl | rfl | rfl | e)
  · exact h.blk.lt
  · exact h.wr.blk.lt
  · exact hb.lt
  · exact h.wr.row.lt e
theorem BW.keep {S : Nat → Prop} (h : BW w gb go bb pend po out) (k : Keep S w w') (hs : ∀ i, BWF gb go bb po i → ¬ S i) : BW w' gb go bb pend po out where
  blk := h.blk.keep k (hs gb (.inl rfl))
  buf := by
    obtain ⟨zs, hb, r⟩ := h.buf
    exact ⟨zs, hb.keep k (hs bb (.inr (.inr (.inl rfl)))), r⟩
  wr := ⟨h.wr.blk.keep k (hs go (.inr (.inl rfl))), h.wr.row.keep k (fun b hb => hs b (.inr (.inr (.inr hb)))), h.wr.le⟩
  sep := h.sep
  le := h.le
theorem BW.far (h : BW w gb go bb pend po out) (k : Keep Non w w') : BW w' gb go bb pend po out := h.keep k (fun _ _ h => h)
theorem BW.ne (h : BW w gb go bb pend po out) : gb ≠ bb ∧ go ≠ bb ∧ gb ≠ go := by
  obtain ⟨zs, hb, _⟩ := h.buf
  exact ⟨h.blk.ne hb (by decide), h.wr.blk.ne hb (by decide), h.blk.ne h.wr.blk (by decide)⟩
theorem BW.pg (h : BW w gb go bb pend po out) : ∀ b, po.ownBlock = some b → b ≠ gb ∧ b ≠ go ∧ b ≠ bb :=
  fun b hb => ⟨fun e => h.wr.row.neBlk h.blk (by decide) (by rw [hb, e]), fun e => h.wr.row.neBlk h.wr.blk (by decide) (by rw [hb, e]), fun e => h.sep (by rw [hb, e])⟩
/-- What is pending can be read. -/
theorem BW.pending (h : BW w gb go bb pend po out) : Reads w 1 (.slice (some ⟨bb, 0, none⟩) pend.length 4096) pend.length (B pend) := by
  obtain ⟨zs, hb, hl, ht⟩ := h.buf
  refine ⟨by rw [B_length]; omega, .inr ⟨_, _, rfl, fun j u hj => ?_⟩⟩
  rw [addr_add, Nat.zero_add, hb.cell]
  rw [← ht] at hj
  have := (List.getElem?_eq_some_iff.1 hj).1
  rw [List.length_take] at this
  rwa [List.getElem?_take_of_lt (by omega)] at hj
end
set_option maxRecDepth 100000 in
theorem available (gb go bb : Nat) (pend : List UInt8) (po : Value) (out : List UInt8) (w : World) (h : BW w gb go bb pend po out) :
    Calls Tryz.prog 87 #[.pointer (some ⟨gb, 0, none⟩)] w fun e w' => e = .returned (.int .i64 (4096 - (pend.length : Int))) ∧ w' = w.drew := by
  have x1 : w.cell? ⟨gb, 1, none⟩ = some (.slice (some ⟨bb, 0, none⟩) 4096 4096) := by rw [h.blk.cell]; rfl
  have x2 : w.cell? ⟨gb, 2, none⟩ = some (.int .i64 (pend.length : Nat)) := by rw [h.blk.cell]; rfl
  have hle := h.le
  clear h
  go_enter Tryz.func87, Tryz.ntmps87
  go_wp2
  go_region
  all_goals
    go_wp2
    go_ret
    exact ⟨rfl, rfl⟩
set_option maxRecDepth 100000 in
set_option maxHeartbeats 4000000 in
theorem bwWrite (gb go bb : Nat) (pend ds : List UInt8) (po sv : Value) (out : List UInt8) (w : World) (h : BW w gb go bb pend po out) (hs : Reads w 1 sv ds.length (B ds)) (h0 : 0 < ds.length) (hfit : pend.length + ds.length ≤ 4096) :
    Calls Tryz.prog 73 #[.pointer (some ⟨gb, 0, none⟩), sv] w fun e w' => e = .returned (.tuple #[.int .i64 (ds.length : Nat), .nilIface]) ∧ BW w' gb go bb (pend ++ ds) po out ∧ Keep (fun i => i = gb ∨ i = bb) w w' := by
  obtain ⟨sa, sc, rfl⟩ := hs.slice
  have x0 : w.drew.cell? ⟨gb, 0, none⟩ = some .nilIface := by rw [h.blk.drew.cell]; rfl
  have x1 : w.drew.cell? ⟨gb, 1, none⟩ = some (.slice (some ⟨bb, 0, none⟩) 4096 4096) := by rw [h.blk.drew.cell]; rfl
  have x2 : w.drew.cell? ⟨gb, 2, none⟩ = some (.int .i64 (pend.length : Nat)) := by rw [h.blk.drew.cell]; rfl
  have f2 := h.blk.free 2
  have H := Lib.hid h
  have HS := Lib.hid hs
  clear h hs
  go_enter Tryz.func73, Tryz.ntmps73
  go_wp2
  refine wp_loop_rounds 1 ?_
  rw [rounds_succ]
  go_upto_region 12 with (go_at_call 87; refine (available gb go bb pend po out _ H.out).mono ?_; rintro e w1 ⟨rfl, rfl⟩)
  obtain ⟨zs, hzb, hzl, hzt⟩ := H.out.buf
  have HZB := Lib.hid hzb
  have HZL := Lib.hid hzl
  have HZT := Lib.hid hzt
  have hi0 : (0 : Int) ≤ (pend.length : Int) := by omega
  have hi1 : (pend.length : Int) ≤ 4096 := by omega
  have hgn : gb ≠ bb := H.out.ne.1
  clear hzb hzl hzt
  go_region_held3 (fun w' => w'.cell? ⟨gb, 1, none⟩ = some (.slice (some ⟨bb, 0, none⟩) 4096 4096) ∧ w'.cell? ⟨gb, 2, none⟩ = some (.int .i64 (pend.length : Nat)))
    (first
      | go_keep
      | exact ⟨k4.cell x1 (fun e => hgn e), k4.cell x2 (fun e => hgn e)⟩)
    (first
      | (refine step_cp (g := bb) (off := pend.length) (dLen := 4096 - pend.length) (dCap := 4096 - pend.length) (sv := .slice sa ds.length sc) (n := ds.length) (T := 5) (cur := zs) (xs := B ds) Tryz.underlying33 (by kernel_rfl) rfl (.tmp 80) (.tmp 81) rfl (by simp [Act.eval]; omega) rfl HZB.out.drew.drew HS.out.drew.drew h0 (by rw [HZL.out]; omega) (B_one _) ?_; intro w4 b4 k4))
  have hmin : min ds.length (4096 - pend.length) = ds.length := by omega
  rw [hmin] at b4 ⊢
  rw [List.take_of_length_le (by rw [B_length]; omega)] at b4
  have b5 := H.out.blk.drew.drew.keep k4 (fun e => hgn e)
  have z2 : w4.cell? ⟨gb, 2, none⟩ = some (.int .i64 (pend.length : Nat)) := by rw [b5.cell]; rfl
  have g2 := b5.free 2
  have B4 := Lib.hid b4
  have B5 := Lib.hid b5
  have K4 := Lib.hid k4
  have hgz := b5.lt
  clear b4 b5 k4 x0 x1 x2 f2 hmin
  go_wp2_with fail
  go_ret2
  have ht : (splice zs pend.length (B ds)).take (pend.length + ds.length) = B (pend ++ ds) := by
    rw [splice, HZT.out, ← List.append_assoc, ← B_append, List.take_left' (by rw [B_length, List.length_append])]
  have hk : Keep (fun i => i = gb ∨ i = bb) w (w4.setCell ⟨gb, 2, none⟩ (.int .i64 ((pend.length : Int) + (ds.length : Int)))) := by
    refine Keep.setAt ?_ _ _ _ (.inl rfl)
    exact (K4.out.undrew.undrew).mono (fun i _ e => .inr e)
  refine ⟨rfl, ⟨?_, ⟨_, B4.out.setOther (fun e => hgn (Eq.symm e)) _, by rw [length_splice _ _ _ (by rw [B_length, HZL.out]; exact hfit)]; exact HZL.out, by rw [List.length_append]; exact ht⟩, ?_, H.out.sep, by rw [List.length_append]; exact hfit⟩, hk⟩
  · have := B5.out.set 2 (.int .i64 ((pend.length : Int) + (ds.length : Int)))
    rw [List.length_append, Int.natCast_add]
    exact this
  · exact ⟨H.out.wr.blk.keep hk (fun e => e.elim (fun e => H.out.ne.2.2 (Eq.symm e)) (fun e => H.out.ne.2.1 e)), H.out.wr.row.keep hk (fun b hb e => e.elim (fun e => (H.out.pg b hb).1 e) (fun e => (H.out.pg b hb).2.2 e)), H.out.wr.le⟩
set_option maxRecDepth 100000 in
set_option maxHeartbeats 4000000 in
theorem bwFlush (gb go bb : Nat) (pend : List UInt8) (po : Value) (out : List UInt8) (w : World) (h : BW w gb go bb pend po out) (h0 : 0 < pend.length) (hol : out.length ≤ 1000000) :
    Calls Tryz.prog 44 #[.pointer (some ⟨gb, 0, none⟩)] w fun e w' => e = .returned .nilIface ∧ ∃ po', BW w' gb go bb [] po' (out ++ pend) ∧ Keep (BWF gb go bb po) w w' ∧ (∀ b, po'.ownBlock = some b → po.ownBlock = some b ∨ w.heap.size ≤ b) := by
  have x0 : w.cell? ⟨gb, 0, none⟩ = some .nilIface := by rw [h.blk.cell]; rfl
  have x1 : w.cell? ⟨gb, 1, none⟩ = some (.slice (some ⟨bb, 0, none⟩) 4096 4096) := by rw [h.blk.cell]; rfl
  have x2 : w.cell? ⟨gb, 2, none⟩ = some (.int .i64 (pend.length : Nat)) := by rw [h.blk.cell]; rfl
  have x3 : w.cell? ⟨gb, 3, none⟩ = some (.iface 54 (.pointer (some ⟨go, 0, none⟩))) := by rw [h.blk.cell]; rfl
  have hi0 : (0 : Int) ≤ (pend.length : Int) := by omega
  have hi1 : (pend.length : Int) ≤ 4096 := by have := h.le; omega
  have hne0 : ¬ (pend.length : Int) = 0 := by omega
  have hna := aheadWrite
  have hme := methodWrite
  have hle := h.le
  have H := Lib.hid h
  have HR := Lib.hid h.pending
  have HNE : Hid (0 < pend.length → ∀ b, (Value.slice (some ⟨bb, 0, none⟩) pend.length 4096).ownBlock = some b → b ≠ go ∧ po.ownBlock ≠ some b) := Lib.hid (fun _ b hb => by
    simp only [Value.ownBlock, Option.some.injEq] at hb
    subst hb
    exact ⟨fun e => h.ne.2.1 (Eq.symm e), h.sep⟩)
  clear h
  go_enter Tryz.func44, Tryz.ntmps44
  go_upto_region 5 with (fail)
  go_region_held3 (fun w' => w'.cell? ⟨gb, 1, none⟩ = some (.slice (some ⟨bb, 0, none⟩) 4096 4096) ∧ w'.cell? ⟨gb, 2, none⟩ = some (.int .i64 (pend.length : Nat)) ∧ w'.cell? ⟨gb, 3, none⟩ = some (.iface 54 (.pointer (some ⟨go, 0, none⟩))))
    (first
      | go_keep
      | exact ⟨k3.undrew.cell x1 n3.out, k3.undrew.cell x2 n3.out, k3.undrew.cell x3 n3.out⟩)
    (first
      | (go_at_call 67; refine (swrite go po _ out.length out pend _ (H.out.wr.far (Keep.refl Non w).drew) HR.out.drew (by omega) (by omega) HNE.out).mono ?_; rintro e w3 ⟨po', rfl, hw3, k3, l3⟩; have n3 : Hid (¬ (gb = go ∨ po.ownBlock = some gb)) := Lib.hid (fun e => e.elim H.out.ne.2.2 (fun e => (H.out.pg gb e).1 rfl))))
  all_goals
    have k3' := k3.undrew
    have b3 := H.out.blk.keep k3' n3.out
    have y0 : w3.cell? ⟨gb, 0, none⟩ = some .nilIface := by rw [b3.cell]; rfl
    have y2 : w3.cell? ⟨gb, 2, none⟩ = some (.int .i64 (pend.length : Nat)) := by rw [b3.cell]; rfl
    have g2 := b3.free 2
    have B3 := Lib.hid b3
    have K3 := Lib.hid k3'
    have HW3 := Lib.hid hw3
    have L3 := Lib.hid l3
    clear b3 k3 k3' hw3 l3 x0 x1 x2 x3
    go_wp2_with fail
    go_ret
    have hw := HW3.out
    rw [wrote_end, ← List.length_append] at hw
    refine ⟨rfl, po', ⟨?_, ?_, ?_, ?_, Nat.zero_le _⟩, ?_, fun b hb => by have := L3.out b hb; simpa using this⟩
    · exact B3.out.set 2 (.int .i64 0)
    · obtain ⟨zs, hzb, hzl, hzt⟩ := H.out.buf
      exact ⟨zs, (hzb.keep K3.out (fun e => e.elim (fun e => H.out.ne.2.1 (Eq.symm e)) H.out.sep)).setOther (fun e => H.out.ne.1 (Eq.symm e)) _, hzl, by simp [B]⟩
    · exact ⟨hw.blk.setOther (fun e => H.out.ne.2.2 (Eq.symm e)) _, hw.row.keep (Keep.one w3 gb 2 _) (fun b hb e => hw.row.neBlk B3.out (by decide) (by rw [hb]; exact congrArg some e)), hw.le⟩
    · intro e
      rcases L3.out _ e with e | e
      · exact H.out.sep e
      · have := H.out.lt bb (.inr (.inr (.inl rfl))); simp at e; omega
    · refine Keep.setAt ?_ _ _ _ (.inl rfl)
      exact K3.out.mono (fun i _ e => e.elim (fun e => .inr (.inl e)) (fun e => .inr (.inr (.inr e))))
end Go.Proofs.YtcpegoofbenoiaaGreatDoor
