/-
  CONTRACTS: io.ReadFull over the reader of a slice.
-/
import Derived.Test.YtcpegoofbenoiaaGreatDoorZGKe
namespace Go.Proofs.YtcpegoofbenoiaaGreatDoor
open Go.RowKit
open Go.ChangeShapes Go.WideShapes Go.ChangeAt Go.Deep
open Plain (M64)

theorem aheadRead (a : Addr) (w : World) : (nilAhead 344 71 (.pointer (some a)) "Read").run Tryz.prog w = .ok (some false) w := by kernel_rfl
theorem methodRead (a : Addr) (w : World) : (method 344 71 (.pointer (some a)) "Read").run Tryz.prog w = .ok (158, .pointer (some a)) w := by kernel_rfl
/-- Behind a read of m bytes. -/
def RdPost (g bb c p gb m : Nat) (bs : List UInt8) (T : TypeId) (w : World) (e : Ending) (w' : World) : Prop :=
  e = .returned (.tuple #[.int .i64 (m : Nat), .nilIface]) ∧ RR w' g bb c (p + m) bs ∧ Blk w' gb (B ((bs.drop p).take m)) T ∧ Keep (fun i => i = g ∨ i = gb) w w'
theorem readM (g bb c p gb m : Nat) (bs : List UInt8) (zs : List Value) (T : TypeId) (w : World) (h : RR w g bb c p bs) (hbb : Blk w gb zs T) (hz : zs.length = m) (hl : bs.length ≤ 1000000) (hfit : p + m ≤ bs.length) (hg : gb ≠ g) (hb : gb ≠ bb) :
    Calls Tryz.prog 158 #[.pointer (some ⟨g, 0, none⟩), .slice (some ⟨gb, 0, none⟩) m m] w (RdPost g bb c p gb m bs T w) := by
  have := readInto bb c g gb p m (nat8 bs) zs T w (by rw [nat8_length]; exact h.blk) (by rw [nat8_length, By_nat8]; exact h.data) (by rw [nat8_length]; exact h.cap) (by rw [nat8_length]; exact hl) (by rw [nat8_length]; omega) (by omega) hz hbb hg
  refine this.mono ?_
  rintro e w' ⟨rfl, h1, h2, k⟩
  rw [nat8_length, show min m (bs.length - p) = m by omega] at h1
  rw [nat8_length, show min (bs.length - p) m = m by omega] at h2
  have e1 : splice zs 0 ((By ((nat8 bs).drop p)).take m) = B ((bs.drop p).take m) := by
    have e2 : (By ((nat8 bs).drop p)).take m = B ((bs.drop p).take m) := by
      simp only [By, nat8, B, List.map_drop, List.map_take, List.map_map]
      rfl
    have hL : (B ((bs.drop p).take m)).length = m := by rw [B_length]; simp; omega
    have hD : zs.drop (0 + (B ((bs.drop p).take m)).length) = [] := List.drop_of_length_le (by omega)
    rw [e2, splice, hD, List.take_zero]
    simp
  rw [e1] at h2
  refine ⟨by rw [nat8_length, show min m (bs.length - p) = m by omega], ⟨h1, h.data.keep k (fun b hb' e => ?_), h.cap, h.ne⟩, h2, k⟩
  simp [Value.ownBlock] at hb'
  rcases e with e | e
  · exact h.ne (by omega)
  · exact hb (by omega)
set_option maxRecDepth 100000 in
set_option maxHeartbeats 2000000 in
theorem readFull (g bb c p gb m : Nat) (bs : List UInt8) (zs : List Value) (T : TypeId) (w : World) (h : RR w g bb c p bs) (hbb : Blk w gb zs T) (hz : zs.length = m) (hl : bs.length ≤ 1000000) (hfit : p + m ≤ bs.length) (hg : gb ≠ g) (hb : gb ≠ bb) (hm : 0 < m) :
    Calls Tryz.prog 89 #[.iface 71 (.pointer (some ⟨g, 0, none⟩)), .slice (some ⟨gb, 0, none⟩) m m, .int .i64 m] w (RdPost g bb c p gb m bs T w) := by
  have HR := Lib.hid h
  have HB := Lib.hid hbb
  have HZ := Lib.hid hz
  have hm1 : m ≤ 1000000 := by omega
  clear h hbb hz
  have hna := aheadRead
  have hme := methodRead
  go_enter Tryz.func89, Tryz.ntmps89
  go_wp2
  refine wp_loop_rounds 2 ?_
  rw [rounds_succ]
  go_upto_region 5 with (fail)
  go_cut [7, 8] from 22 to 31 (fun v7 v8 wx => v7 = .nilIface ∧ v8 = .int .i64 m ∧ RR wx g bb c (p + m) bs ∧ Blk wx gb (B ((bs.drop p).take m)) T ∧ Keep (fun i => i = g ∨ i = gb) w wx)
  case first =>
    go_region_with (go_at_call 158; go_must (refine (readM g bb c p gb m bs zs T _ (HR.out.keep ((Keep.refl Non w).drew) (fun h => h) (fun h => h)) HB.out.drew HZ.out hl hfit hg hb).mono ?_); rintro e w2 ⟨rfl, h2, b2, k2⟩)
    all_goals
      go_wp2_with fail
      go_meet
      case rel => exact ⟨rfl, rfl, h2, b2, k2.undrew⟩
  case rest =>
    obtain ⟨rfl, rfl, h2, b2, k2⟩ := hcut
    have H2 := Lib.hid h2
    have B2 := Lib.hid b2
    have K2 := Lib.hid k2
    clear h2 b2 k2
    go_wp2
    rw [rounds_succ]
    go_wp2
    go_ret2
    exact ⟨rfl, H2.out, B2.out, K2.out⟩
set_option maxRecDepth 100000 in
theorem readFull2 (g bb c p gb m : Nat) (bs : List UInt8) (zs : List Value) (T : TypeId) (w : World) (h : RR w g bb c p bs) (hbb : Blk w gb zs T) (hz : zs.length = m) (hl : bs.length ≤ 1000000) (hfit : p + m ≤ bs.length) (hg : gb ≠ g) (hb : gb ≠ bb) (hm : 0 < m) :
    Calls Tryz.prog 75 #[.iface 71 (.pointer (some ⟨g, 0, none⟩)), .slice (some ⟨gb, 0, none⟩) m m] w (RdPost g bb c p gb m bs T w) := by
  go_enter Tryz.func75, Tryz.ntmps75
  go_wp2_with fail
  refine (readFull g bb c p gb m bs zs T w h hbb hz hl hfit hg hb hm).mono ?_
  rintro e w2 ⟨rfl, h2, b2, k2⟩
  have H2 := Lib.hid h2
  have B2 := Lib.hid b2
  have K2 := Lib.hid k2
  clear h2 b2 k2
  go_wp2
  go_ret2
  exact ⟨rfl, H2.out, B2.out, K2.out⟩
end Go.Proofs.YtcpegoofbenoiaaGreatDoor
