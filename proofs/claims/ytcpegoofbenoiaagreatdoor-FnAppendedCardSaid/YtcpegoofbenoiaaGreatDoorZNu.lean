/-
  CONTRACTS: how the reader of counters reads a number, by seven bits or as four bytes.
-/
import Derived.Test.YtcpegoofbenoiaaGreatDoorZRm2
import Derived.Test.YtcpegoofbenoiaaGreatDoorZRm4
import Derived.Test.YtcpegoofbenoiaaGreatDoorZGMem
import Derived.Test.YtcpegoofbenoiaaGreatDoorZGKc
import Derived.Test.YtcpegoofbenoiaaGreatDoorZGKe
namespace Go.Proofs.YtcpegoofbenoiaaGreatDoor
open Go.RowKit
open Go.ChangeShapes Go.WideShapes Go.ChangeAt Go.Deep
open Plain (M64)

theorem cell_of0 {w : World} {g i : Nat} {cs : List Value} {T : TypeId} {v : Value} (h : Blk w g cs T) (e : cs[i]? = some v) : w.cell? ⟨g, i, none⟩ = some v := by rw [h.cell]; exact e
theorem subR0 {W : World} {gb : Nat} {l : List UInt8} {T : TypeId} (hb : Blk W gb (B l) T) {n : Nat} (hl : l.length = n) : Reads W 1 (.slice (some ⟨gb, 0, none⟩) n n) n (B l) := by
  refine ⟨by simp [B_length, hl], .inr ⟨_, _, rfl, fun j u hj => ?_⟩⟩
  rw [addr_add, hb.cell, Nat.zero_add]
  exact hj
/-- Behind a read number. -/
def NumPost (n b g bb c p x : Nat) (bs : List UInt8) (w : World) (e : Ending) (w' : World) : Prop :=
  e = .returned (.tuple #[.int .u32 x, .nilIface]) ∧ RR w' g bb c p bs ∧ (∃ us : List Value, us.length = n ∧ Blk w' b us 5) ∧ Keep (fun i => i = g ∨ i = b) w w'
theorem wrapU32 (x : Nat) (h : x < 4294967296) : IntKind.u32.wrap (x : Int) = (x : Int) := by
  simp [IntKind.wrap, IntKind.bits, IntKind.signed]; omega
theorem take1 (bs : List UInt8) (q : Nat) (x : UInt8) (h : bs[q]? = some x) : (bs.drop q).take 1 = [x] := by
  obtain ⟨h1, h2⟩ := List.getElem?_eq_some_iff.1 h
  rw [List.drop_eq_getElem_cons h1, h2]
  rfl
set_option maxRecDepth 100000 in
set_option maxHeartbeats 8000000 in
theorem num1T (b2 gd g bb c p b8 x : Nat) (bs r : List UInt8) (w : World) (hbx : Blk w b2 [.pointer (some ⟨gd, 0, none⟩)] 68)
    (x5 : w.cell? ⟨gd, 5, none⟩ = some (.iface 71 (.pointer (some ⟨g, 0, none⟩)))) (x52 : w.cell? ⟨gd, 52, none⟩ = some (.slice (some ⟨b8, 0, none⟩) 1 1)) (hr : RR w g bb c p bs)
    (h8 : ∃ us : List Value, us.length = 1 ∧ Blk w b8 us 5) (n8 : b8 ≠ bb) (hg : gd ≠ g) (hg8 : gd ≠ b8) (hx : x < 4294967296) (hl : bs.length ≤ 1000000) (hp : bs.drop p = uleb x ++ r) :
    Calls Tryz.prog 50 #[.pointer (some ⟨b2, 0, none⟩)] w (NumPost 1 b8 g bb c (p + (uleb x).length) x bs w) := by
  have hul := uleb_len64 (v := x) (by unfold M64; omega)
  have hu0 : 0 < (uleb x).length := List.length_pos_iff.2 (uleb_ne x)
  have hpl : p + (uleb x).length ≤ bs.length := by
    have := congrArg List.length hp
    simp at this; omega
  have hat := ulebAt_uleb 10 x [] hul
  obtain ⟨_, _, _, hhi⟩ := ulebAt_spec _ _ _ hat
  have hv : ulebVal (nat8 (uleb x)) = x := ulebVal_uleb (x + 1) x (by omega)
  have hd : ∀ k (h : k < (nat8 (uleb x)).length), B ((bs.drop (p + k)).take 1) = [.int .u8 (((nat8 (uleb x))[k] : Nat) : Int)] ∧ (nat8 (uleb x))[k] < 256 := fun k h => by
    have h' : k < (uleb x).length := by rw [← nat8_length]; exact h
    have e : bs[p + k]? = some (uleb x)[k] := by
      rw [← List.getElem?_drop, hp, List.getElem?_append_left h', List.getElem?_eq_getElem h']
    rw [take1 _ _ _ e]
    refine ⟨?_, nat8_lt _ _ (List.getElem_mem h)⟩
    simp [B, nat8]
  have hn2 : b2 ≠ g := hbx.ne hr.blk (by decide)
  have hn28 : b2 ≠ b8 := by
    obtain ⟨us, _, hb⟩ := h8
    exact hbx.ne hb (by decide)
  have h8g : b8 ≠ g := by
    obtain ⟨us, _, hb⟩ := h8
    exact hb.ne hr.blk (by decide)
  rw [← nat8_length] at hul hu0 hpl
  rw [show (uleb x).length = (nat8 (uleb x)).length from (nat8_length _).symm]
  generalize nat8 (uleb x) = ds at *
  have hfit : ulebVal ds < M64 := by rw [hv]; unfold M64; omega
  have hwx := wrapU32 x hx
  have HHI := Lib.hid hhi
  have HD := Lib.hid hd
  have HV := Lib.hid hv
  have HFIT := Lib.hid hfit
  have HR := Lib.hid hr
  have H8 := Lib.hid h8
  have HB := Lib.hid hbx
  have X5 := Lib.hid x5
  have X52 := Lib.hid x52
  have hna := aheadRead
  have hme := methodRead
  clear hp hhi hd hv hfit hr h8 hbx x5 x52 hat
  go_enter Tryz.func50, Tryz.ntmps50
  go_wp2_with fail
  go_loopw [3, 4] (fun sh v wr => ∃ k : Nat, k < ds.length ∧ v = .int .u64 (ulebVal (ds.take k) : Nat) ∧ sh = .int .u64 (7 * k : Nat) ∧ RR wr g bb c (p + k) bs ∧ (∃ us : List Value, us.length = 1 ∧ Blk wr b8 us 5) ∧ Keep (fun i => i = g ∨ i = b8) w wr) (fun sh _ _ => 7 * ds.length - (intOf sh).toNat)
  case atStart => exact ⟨0, hu0, rfl, rfl, HR.out, H8.out, Keep.refl _ _⟩
  case round =>
    obtain ⟨k, hk, rfl, rfl, hrk, h8k, hkk⟩ := hrel
    have HRk := Lib.hid hrk
    have H8k := Lib.hid h8k
    have HKk := Lib.hid hkk
    have kb : Keep (fun i => i = g ∨ i = b8) w wr := hkk
    have yb := hkk.cell (cell_of0 (i := 0) (v := .pointer (some ⟨gd, 0, none⟩)) HB.out rfl) (fun e => by rcases e with e | e; exact hn2 e; exact hn28 e)
    have y5 := hkk.cell X5.out (fun e => by rcases e with e | e; exact hg e; exact hg8 e)
    have y52 := hkk.cell X52.out (fun e => by rcases e with e | e; exact hg e; exact hg8 e)
    clear hrk h8k hkk kb
    go_upto_region 3 with (fail)
    go_cut [5, 6] from 8 to 21 (fun n e wx => n = .int .i64 (1 : Nat) ∧ e = .nilIface ∧ RR wx g bb c (p + k + 1) bs ∧ Blk wx b8 [.int .u8 (ds[k] : Nat)] 5 ∧ Keep (fun i => i = g ∨ i = b8) wr wx)
    case first =>
      obtain ⟨us, husl, hus⟩ := H8k.out
      have HUS := Lib.hid hus
      clear hus
      go_region_with (go_at_call 158; go_must (refine (readM g bb c (p + k) b8 1 bs us 5 _ (HRk.out.keep (Keep.refl Non _).drew (fun h => h) (fun h => h)) (HUS.out.keep (Keep.refl Non _).drew (fun h => h)) husl hl (by omega) h8g n8).mono ?_); rintro e w3 ⟨rfl, r3, b3, k3⟩)
      all_goals
        go_wp2_with fail
        go_meet
        case rel =>
          rw [(HD.out k hk).1] at b3
          exact ⟨rfl, rfl, r3, b3, k3.undrew⟩
    case rest =>
      obtain ⟨rfl, rfl, r3, b3, k3⟩ := hcut
      have R3 := Lib.hid r3
      have B3 := Lib.hid b3
      have hx8 := (HD.out k hk).2
      have HX : Hid (ds[k] = ds[k]) := Lib.hid rfl
      have K3 := Lib.hid (HKk.out.trans' k3)
      have zb := k3.cell yb (fun e => by rcases e with e | e; exact hn2 e; exact hn28 e)
      have z52 := k3.cell y52 (fun e => by rcases e with e | e; exact hg e; exact hg8 e)
      have z8 : wc.cell? ⟨b8, 0, none⟩ = some (.int .u8 (ds[k] : Nat)) := cell_of0 (i := 0) (v := .int .u8 (ds[k] : Nat)) b3 rfl
      clear r3 b3 k3 yb y5 y52
      obtain ⟨y, hy⟩ : ∃ y, y = ds[k] := ⟨_, rfl⟩
      have hor : bits .or .u64 ((ulebVal (ds.take k) : Nat) : Int) (IntKind.u64.wrap ((y : Int) % 128 * 2 ^ (7 * k))) = ((ulebVal (ds.take (k + 1)) : Nat) : Int) := by
        rw [hy]; exact ulebVal_step hk HFIT.out
      rw [← hy] at hx8 z8
      have HY := Lib.hid hy
      clear hy HX
      have h127 := Plain.and127u8 y hx8
      by_cases hx1 : y < 128
      · have h128 : bits .and .u8 (y : Int) 128 = 0 := by rw [Plain.and128 y hx8]; omega
        have hlast : k + 1 = ds.length := by
          have := HHI.out k hk
          rw [← HY.out] at this
          omega
        rw [hlast, List.take_of_length_le (Nat.le_refl _), HV.out] at hor
        go_wp2_with fail
        go_ret2
        exact ⟨rfl, by rw [← hlast, ← Nat.add_assoc]; exact R3.out, ⟨_, rfl, B3.out⟩, K3.out⟩
      · have h128 : bits .and .u8 (y : Int) 128 = 128 := by rw [Plain.and128 y hx8]; omega
        have hlast : k + 1 < ds.length := by
          have := HHI.out k hk
          rw [← HY.out] at this
          omega
        go_wp2_with fail
        go_roundw
        case measure => simp [intOf]; omega
        case rel => exact ⟨k + 1, hlast, rfl, by go_num, R3.out, ⟨_, rfl, B3.out⟩, K3.out⟩
set_option maxRecDepth 100000 in
set_option maxHeartbeats 4000000 in
theorem leT32 (s : Value) (n b0 b1 b2 b3 : Nat) (xs : List Value) (w : World) (hs : Reads w 1 s n xs) (hn : 4 ≤ n) (h0 : b0 < 256) (h1 : b1 < 256) (h2 : b2 < 256) (h3 : b3 < 256)
    (e0 : xs[0]? = some (.int .u8 b0)) (e1 : xs[1]? = some (.int .u8 b1)) (e2 : xs[2]? = some (.int .u8 b2)) (e3 : xs[3]? = some (.int .u8 b3)) :
    Calls Tryz.prog 54 #[s] w fun e w' => e = .returned (.int .u32 (leVal [b0, b1, b2, b3])) ∧ ∃ m, w' = w.drewN m := by
  obtain ⟨bb, off, ca, rfl, hc⟩ := hs.at (by omega) (by omega)
  have i0 := hc 0 _ e0
  rw [Nat.add_zero] at i0
  have i1 := hc 1 _ e1
  have i2 := hc 2 _ e2
  have i3 := hc 3 _ e3
  clear hc e0 e1 e2 e3
  go_enter Tryz.func54, Tryz.ntmps54
  go_wp2
  go_quiet (fail)
  go_wp2
  go_ret
  exact ⟨congrArg (fun x => Ending.returned (.int .u32 x)) (or4 h0 h1 h2 h3), _, rfl⟩
theorem leb4_at (x : Nat) : B (leb 4 x) = [.int .u8 ((x % 256 : Nat) : Int), .int .u8 ((x / 256 % 256 : Nat) : Int), .int .u8 ((x / 256 / 256 % 256 : Nat) : Int), .int .u8 ((x / 256 / 256 / 256 % 256 : Nat) : Int)] := by
  simp [leb, B]
theorem leVal4 (x : Nat) (h : x < 4294967296) : leVal [x % 256, x / 256 % 256, x / 256 / 256 % 256, x / 256 / 256 / 256 % 256] = x := by
  simp only [leVal]; omega
set_option maxRecDepth 100000 in
set_option maxHeartbeats 8000000 in
theorem num3T (b2 gd g bb c p b8 x : Nat) (bs r : List UInt8) (w : World) (hbx : Blk w b2 [.pointer (some ⟨gd, 0, none⟩)] 68)
    (x5 : w.cell? ⟨gd, 5, none⟩ = some (.iface 71 (.pointer (some ⟨g, 0, none⟩)))) (x51 : w.cell? ⟨gd, 51, none⟩ = some (.slice (some ⟨b8, 0, none⟩) 4 4)) (hr : RR w g bb c p bs)
    (h8 : ∃ us : List Value, us.length = 4 ∧ Blk w b8 us 5) (n8 : b8 ≠ bb) (hg : gd ≠ g) (hg8 : gd ≠ b8) (hx : x < 4294967296) (hl : bs.length ≤ 1000000) (hp : bs.drop p = leb 4 x ++ r) :
    Calls Tryz.prog 53 #[.pointer (some ⟨b2, 0, none⟩)] w (NumPost 4 b8 g bb c (p + 4) x bs w) := by
  have hl4 : (leb 4 x).length = 4 := leb_length _ _
  have hpl : p + 4 ≤ bs.length := by
    have := congrArg List.length hp
    simp at this; omega
  have hd : (bs.drop p).take 4 = leb 4 x := by rw [hp, List.take_append_of_le_length (by omega), List.take_of_length_le (by omega)]
  have hn2 : b2 ≠ g := hbx.ne hr.blk (by decide)
  obtain ⟨us, husl, hus⟩ := h8
  have hn28 : b2 ≠ b8 := hbx.ne hus (by decide)
  have h8g : b8 ≠ g := hus.ne hr.blk (by decide)
  have HD := Lib.hid hd
  have HR := Lib.hid hr
  have HUS := Lib.hid hus
  have HB := Lib.hid hbx
  have X51 := Lib.hid x51
  have yb := cell_of0 (i := 0) (v := .pointer (some ⟨gd, 0, none⟩)) hbx rfl
  have hna := aheadRead
  have hme := methodRead
  clear hp hd hr hus hbx
  go_enter Tryz.func53, Tryz.ntmps53
  go_upto_region 1 with (fail)
  go_cut [3, 4] from 5 to 18 (fun n e wx => n = .int .i64 (4 : Nat) ∧ e = .nilIface ∧ RR wx g bb c (p + 4) bs ∧ Blk wx b8 (B (leb 4 x)) 5 ∧ Keep (fun i => i = g ∨ i = b8) w wx)
  case first =>
    go_region_with (go_at_call 158; go_must (refine (readM g bb c p b8 4 bs us 5 _ (HR.out.keep (Keep.refl Non _).drew (fun h => h) (fun h => h)) (HUS.out.keep (Keep.refl Non _).drew (fun h => h)) husl hl hpl h8g n8).mono ?_); rintro e w3 ⟨rfl, r3, b3, k3⟩)
    all_goals
      go_wp2_with fail
      go_meet
      case rel =>
        rw [HD.out] at b3
        exact ⟨rfl, rfl, r3, b3, k3.undrew⟩
  case rest =>
    obtain ⟨rfl, rfl, r3, b3, k3⟩ := hcut
    have R3 := Lib.hid r3
    have B3 := Lib.hid b3
    have K3 := Lib.hid k3
    have zb := k3.cell yb (fun e => by rcases e with e | e; exact hn2 e; exact hn28 e)
    have z51 := k3.cell X51.out (fun e => by rcases e with e | e; exact hg e; exact hg8 e)
    have hrd : Reads wc 1 (.slice (some ⟨b8, 0, none⟩) 4 4) 4 (B (leb 4 x)) := subR0 b3 hl4
    have HRD := Lib.hid hrd
    clear r3 b3 k3 yb x5 x51 hrd
    go_wp2_with (go_at_call 54; go_must (refine (leT32 _ 4 (x % 256) (x / 256 % 256) (x / 256 / 256 % 256) (x / 256 / 256 / 256 % 256) _ _ HRD.out (by decide) (Nat.mod_lt _ (by decide)) (Nat.mod_lt _ (by decide)) (Nat.mod_lt _ (by decide)) (Nat.mod_lt _ (by decide)) (by rw [leb4_at]; rfl) (by rw [leb4_at]; rfl) (by rw [leb4_at]; rfl) (by rw [leb4_at]; rfl)).mono ?_); rintro e w4 ⟨rfl, m, rfl⟩)
    go_ret2
    rw [leVal4 x hx]
    exact ⟨rfl, R3.out.keep ((Keep.refl Non _).drewN m) (fun h => h) (fun h => h), ⟨_, by rw [B_length, hl4], B3.out.keep ((Keep.refl Non _).drewN m) (fun h => h)⟩, K3.out.drewN m⟩
end Go.Proofs.YtcpegoofbenoiaaGreatDoor
