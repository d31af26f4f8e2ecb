/-
  CONTRACTS of a builder's writes, first part.
-/
import Derived.Test.YtbmidlaakbpnlaaDoorMe6
import Derived.Deep.RegionHeld3
namespace Go.Proofs.YtbmidlaakbpnlaaDoor
open Go.RowKit
open Go.ChangeShapes Go.WideShapes Go.ChangeAt Go.Deep
open Plain (M64)

/-- Behind wrUint32. -/
def WrU32Post (Q : Nat → Prop) (g gh mb : Nat) (st tm fv : Value) (bb c : Nat) (p q m : Nat) (all : List ByteArray) (h : Nat × Nat) (E : List (Value × List UInt8)) (gw pos : Nat) (bs : List UInt8) (x : Nat) (w : World) (e : Ending) (w' : World) : Prop :=
  ∃ xs' pv', e = .returned (.tuple #[]) ∧ EW Q w' g gh mb st tm fv (.slice (some ⟨bb, 0, none⟩) 4 c) 4 xs' p q m all h E gw pv' (pos + 4) (wrote bs pos (leB 4 x)) ∧ Keep Q w w'
set_option maxRecDepth 100000 in
set_option maxHeartbeats 4000000 in
theorem wrU32 (Q : Nat → Prop) (g gh mb : Nat) (st tm fv : Value) (bb n c : Nat) (xs : List Value) (p q m : Nat) (all : List ByteArray) (h : Nat × Nat) (E : List (Value × List UInt8)) (gw : Nat) (pv : Value) (pos : Nat) (bs : List UInt8) (x : Nat) (w : World)
    (H : EW Q w g gh mb st tm fv (.slice (some ⟨bb, 0, none⟩) n c) n xs p q m all h E gw pv pos bs) (hc : 4 ≤ c) (hx : x < 4294967296) (hbl : bs.length ≤ 4000000000) :
    Calls Tryd.prog 40 #[.pointer (some ⟨g, 0, none⟩), .iface 64 (.pointer (some ⟨gw, 0, none⟩)), .int .u32 x] w (WrU32Post Q g gh mb st tm fv bb c p q m all h E gw pos bs x w) := by
  have x5 : w.cell? ⟨g, 5, none⟩ = some (.slice (some ⟨bb, 0, none⟩) n c) := H.bd.cell 1
  have f5 := H.bd.tab.blk.free 5
  have hgz := H.bd.tab.blk.lt
  obtain ⟨t1, h1, k1⟩ := H.laid (Keep.refl _ _) rfl H.bd.row.zero (fun b hb => .inl hb)
  have h2 := h1.far ((Keep.refl Non _).alloc (.cells #[.int .u8 0, .int .u8 0, .int .u8 0, .int .u8 0] 5))
  have hzb := Blk.new (w.setCell ⟨g, 5, none⟩ (.slice (some ⟨bb, 0, none⟩) 0 c)) [.int .u8 0, .int .u8 0, .int .u8 0, .int .u8 0] 5
  rw [show (w.setCell ⟨g, 5, none⟩ (.slice (some ⟨bb, 0, none⟩) 0 c)).heap.size = w.heap.size by simp] at hzb
  have hbz : bb < w.heap.size := H.bd.row.lt rfl
  have K1 := Lib.hid (k1.alloc (.cells #[.int .u8 0, .int .u8 0, .int .u8 0, .int .u8 0] 5))
  have H2 := Lib.hid h2
  have HZB := Lib.hid hzb
  have hgb : g ≠ bb := fun e => by
    have hk := H.bd.row.kd (g := bb) rfl
    rw [← e] at hk
    exact kd_false H.bd.tab.blk.kd hk (by decide)
  clear t1 h1 k1 h2 hzb H
  go_enter Tryd.func40, Tryd.ntmps40
  go_wp2_with (at_builtin; go_must (refine wpList_four rfl _ _ rfl rfl rfl H2.out.bd.row hc HZB.out ?_); intro w1 r1 k1; have y5 : w1.cell? ⟨g, 5, none⟩ = some (.slice (some ⟨bb, 0, none⟩) 0 c) := (by rw [(H2.out.bd.tab.blk.keep k1 (fun e => hgb e)).cell]; rfl); have z5 := (H2.out.bd.tab.blk.keep k1 (fun e => hgb e)).free 5; have gz1 := (H2.out.bd.tab.blk.keep k1 (fun e => hgb e)).lt)
  obtain ⟨t3, h3, k3⟩ := H2.out.laid (bt' := .slice (some ⟨bb, 0, none⟩) 4 c) (k1.mono (fun i _ e => congrArg some (show bb = i from Eq.symm e))) rfl r1 (fun b hb => .inl hb)
  have R3 := Lib.hid h3.bd.row
  have H3 := Lib.hid h3
  have K3 := Lib.hid (K1.out.trans' k3)
  clear t3 h3 k3 r1 k1
  refine (lePut bb c x _ _ R3.out hx).mono ?_
  rintro e w4 ⟨rfl, r4, k4⟩
  obtain ⟨h4, q4⟩ := H3.out.rowed (k4.mono (fun i _ e => congrArg some (show bb = i from Eq.symm e))) r4
  have x5' : w4.cell? ⟨g, 5, none⟩ = some (.slice (some ⟨bb, 0, none⟩) 4 c) := h4.bd.cell 1
  have hz4 := h4.bd.tab.blk.lt
  have H4 := Lib.hid h4
  have K4 := Lib.hid (K3.out.trans' q4)
  have R4 := Lib.hid r4
  have hna := aheadWrite
  have hme := methodWrite
  clear h4 q4 r4 k4 H3 K3 R3 H2 K1 HZB x5 f5 y5 z5 gz1 hgz
  go_upto_region 3 with (fail)
  go_cut [6, 7] from 32 to 42 (fun v6 v7 wx => v6 = .int .i64 4 ∧ v7 = .nilIface ∧ ∃ pv', EW Q wx g gh mb st tm fv (.slice (some ⟨bb, 0, none⟩) 4 c) 4 (B (leB 4 x)) p q m all h E gw pv' (pos + 4) (wrote bs pos (leB 4 x)) ∧ Keep Q w wx)
  case first =>
    have HNE : Hid (0 < 4 → ∀ b, (Value.slice (some ⟨bb, 0, none⟩) 4 c).ownBlock = some b → b ≠ gw ∧ pv.ownBlock ≠ some b) := Lib.hid (fun _ b hb => ⟨fun e => H4.out.ngw (.inr (.inr (.inr (.inl (by rw [← e]; exact hb))))), fun e => H4.out.sep b e (.inr (.inr (.inr (.inl hb))))⟩)
    go_region_with (go_at_call 79; go_must (refine (H4.out.drew.swrite _ 4 (leB 4 x) (leB_length 4 x) R4.out.reads.drew hbl (by decide) HNE.out).mono ?_); rintro e w5 ⟨pv', rfl, h5, k5⟩)
    all_goals
      go_wp2_with fail
      go_meet
      case rel => exact ⟨rfl, rfl, pv', h5, K4.out.trans' k5.undrew⟩
  case rest =>
    obtain ⟨rfl, rfl, pv', h5, k5⟩ := hcut
    have H5 := Lib.hid h5
    have K5 := Lib.hid k5
    clear h5 k5
    go_wp2
    go_end0
    exact ⟨_, pv', rfl, H5.out, K5.out⟩
end Go.Proofs.YtbmidlaakbpnlaaDoor
