/-
  THE LAW FnCounters, of segments that read as such.
-/
import Derived.Test.YtcpegoofbenoiaaGreatDoorZJf
namespace Go.Proofs.YtcpegoofbenoiaaGreatDoor
open Go.RowKit
open Go.ChangeShapes Go.WideShapes Go.ChangeAt Go.Deep
open Plain (M64)

set_option maxRecDepth 100000 in
set_option maxHeartbeats 4000000 in
theorem counters_law (packed : Bool) (hash : List UInt8) (L : List SgV) (lv : Value) (w : World) (hh : hash.length = 16) (h : SegR w lv L) (hw : ∀ x ∈ L, x.sg.wide) (hl : L.length ≤ maxLen) (hM : Mag w) :
    Calls Tryz.prog 4 #[.bool packed, .agg (B hash).toArray, lv] w fun e w' => e = .returned (.bool true) ∧ Below w.heap.size w w' := by
  obtain ⟨la, lc, rfl⟩ := h.reads.slice
  obtain ⟨W1, hW1⟩ : ∃ W, W = w.alloc (.cells (B hash).toArray 22) := ⟨_, rfl⟩
  have k1 : Keep Non w W1 := by rw [hW1]; exact (Keep.refl _ _).alloc _
  have b1 : Blk W1 w.heap.size (B hash) 22 := by rw [hW1]; exact Blk.new w (B hash) _
  have hu16 : Tryz.prog.underlying 22 = some (.array 16 5) := by kernel_rfl
  have hi16 : (Tryz.prog.info? 22).map (·.size) = some 16 := by kernel_rfl
  have hsz16 : (Tryz.prog.info? 22).map (·.size) = some (B hash).length := by rw [B_length, hh]; exact hi16
  have hle : w.heap.size < W1.heap.size := by rw [hW1]; simp
  have H := Lib.hid (h.far k1)
  have HM := Lib.hid (hM.far k1)
  have HW := Lib.hid hw
  have HH := Lib.hid hh
  have HK1 := Lib.hid k1
  have HB1 := Lib.hid b1
  have HSZ := Lib.hid hsz16
  have HU := Lib.hid hu16
  clear h hM hw hh k1 b1 hsz16 hu16 hi16 hle
  go_enter Tryz.func4, Tryz.ntmps4
  go_upto_region 1 with (fail)
  rw [← hW1]
  clear hW1
  obtain ⟨bh, hbh⟩ : ∃ b, b = w.heap.size := ⟨_, rfl⟩
  rw [← hbh] at HB1 ⊢
  clear hbh
  go_wp2_with fail
  refine (fits4 _ L W1 H.out HW.out hl).mono ?_
  rintro e w2 ⟨ok1, rfl, k2, hok1⟩
  have HK2 := Lib.hid (HK1.out.trans' k2)
  cases ok1 with
  | false =>
    clear hok1 k2
    go_wp2
    go_ret
    exact ⟨rfl, HK2.out.below (Nat.le_refl _) (fun _ _ h => h.elim)⟩
  | true =>
    have HFI := Lib.hid (hok1 rfl)
    have H2 := Lib.hid (H.out.far k2)
    have HB2 := Lib.hid (HB1.out.keep k2 (fun h => h))
    have HM2 := Lib.hid (HM.out.far k2)
    clear hok1 k2 H HB1 HM HK1
    go_wp2_with fail
    refine (segmentsT _ L w2 H2.out (by have := HFI.out.1; omega) HFI.out.2).mono ?_
    rintro e w3 ⟨wv, Lw, rfl, d3, m3, k3⟩
    have HK3 := Lib.hid (HK2.out.trans' k3)
    have H3 := Lib.hid (H2.out.far k3)
    have HB3 := Lib.hid (HB2.out.keep k3 (fun h => h))
    have HM3 := Lib.hid (HM2.out.far k3)
    have HD3 := Lib.hid d3
    have HS3 := Lib.hid m3
    have hlw : Lw.length = L.length := by have := congrArg List.length m3; simpa using this
    have HLW := Lib.hid hlw
    clear d3 m3 k3 H2 HB2 HM2 HK2 hlw
    go_wp2_with fail
    refine (segsOk _ Lw w3 HD3.out (wide_same HS3.out HW.out) (by rw [HLW.out]; exact hl)).mono ?_
    rintro e w4 ⟨ok2, rfl, k4, hok2⟩
    have HK4 := Lib.hid (HK3.out.trans' k4)
    cases ok2 with
    | false =>
      clear hok2 k4
      go_wp2
      go_ret
      exact ⟨rfl, HK4.out.below (Nat.le_refl _) (fun _ _ h => h.elim)⟩
    | true =>
      have hg := hok2 rfl
      rw [HS3.out] at hg
      have HG := Lib.hid hg
      have hn1 := hg.n1
      have hn4 := hg.n4
      simp only [List.length_map] at hn1 hn4
      have H4 := Lib.hid (H3.out.far k4)
      have HB4 := Lib.hid (HB3.out.keep k4 (fun h => h))
      have HM4 := Lib.hid (HM3.out.far k4)
      have HD4 := Lib.hid (HD3.out.far k4)
      have hwr : IntKind.u32.wrap (L.length : Int) = (L.length : Int) := by rw [IntKind.wrap_u32]; omega
      clear hok2 k4 H3 HB3 HM3 HK3 HD3 hg
      go_upto_region 7 with (first
        | ((with_reducible show wpList _ _ _ (Oper.mk (some 23) _ _ _ _ _ :: _) _ _); go_must (refine wpList_load_mid rfl _ _ rfl bh 0 rfl (B hash) _ HB4.out.range HU.out rfl HSZ.out ?_))
        | (go_at_call 10; refine (countersT packed hash L _ _ H4.out HM4.out (ok_same rfl HG.out.ok) hn4 hn1 HH.out).mono ?_; rintro e w5 ⟨dv, bs, C, rfl, r5, f5, m5, l5, k5⟩; have R5 := Lib.hid r5; have F5 := Lib.hid f5; have M5 := Lib.hid m5; have K5 := Lib.hid k5; obtain ⟨da, dc, rfl⟩ := r5.slice; clear r5 f5 m5 k5))
      have HK5 := Lib.hid (HK4.out.trans' K5.out)
      have HM5 := Lib.hid (HM4.out.far K5.out)
      have HD5 := Lib.hid (HD4.out.far K5.out)
      go_wp2_with (first
        | (go_at_call 11; go_must (refine (readBackT packed hash L C bs _ _ HG.out HH.out F5.out M5.out l5 R5.out HM5.out).mono ?_); rintro e w6 ⟨n0, ov, L2, rfl, o6, m6, hl6, k6⟩; have O6 := Lib.hid o6.segR; have M6 := Lib.hid m6; have K6 := Lib.hid k6; clear o6 m6 k6)
        | (go_at_call 9; go_must (refine (segmentsT _ L2 _ O6.out (by omega) (fits_of (by rw [M6.out]; exact HG.out.ok))).mono ?_); rintro e w7 ⟨gv, L3, rfl, d7, m7, k7⟩; have D7 := Lib.hid d7; have M7 := Lib.hid (m7.trans M6.out); have hl7 : L3.length = L.length := (by have := congrArg List.length M7.out; simpa using this); have K7 := Lib.hid k7; clear d7 m7 k7)
        | (go_at_call 12; go_must (refine (sameSegsT _ _ L3 Lw _ D7.out ((HD5.out.far K6.out).far K7.out) (M7.out.trans HS3.out.symm) (by omega) (ok_same M7.out HG.out.ok)).mono ?_); rintro e w8 ⟨rfl, n8, rfl⟩))
      go_ret
      exact ⟨rfl, ((((HK5.out.trans' K6.out).trans' K7.out).drewN _)).below (Nat.le_refl _) (fun _ _ h => h.elim)⟩
end Go.Proofs.YtcpegoofbenoiaaGreatDoor
