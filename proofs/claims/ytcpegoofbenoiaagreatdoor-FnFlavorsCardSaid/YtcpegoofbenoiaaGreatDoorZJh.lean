/-
  THE LAW FnFlavors, of segments that read as such.
-/
import Derived.Test.YtcpegoofbenoiaaGreatDoorZJf
namespace Go.Proofs.YtcpegoofbenoiaaGreatDoor
open Go.RowKit
open Go.ChangeShapes Go.WideShapes Go.ChangeAt Go.Deep
open Plain (M64)

set_option maxRecDepth 100000 in
set_option maxHeartbeats 4000000 in
theorem flavors_law (hash hash2 : List UInt8) (L : List SgV) (lv : Value) (w : World) (hh : hash.length = 16) (hh2 : hash2.length = 16) (h : SegR w lv L) (hw : ∀ x ∈ L, x.sg.wide) (hl : L.length ≤ maxLen) (hM : Mag w) :
    Calls Tryz.prog 5 #[.agg (B hash).toArray, .agg (B hash2).toArray, lv] w fun e w' => e = .returned (.bool true) ∧ Below w.heap.size w w' := by
  obtain ⟨la, lc, rfl⟩ := h.reads.slice
  obtain ⟨W1, hW1⟩ : ∃ W, W = (w.alloc (.cells (B hash).toArray 22)).alloc (.cells (B hash2).toArray 22) := ⟨_, rfl⟩
  have k1 : Keep Non w W1 := by rw [hW1]; exact ((Keep.refl _ _).alloc _).alloc _
  have b1 : Blk W1 w.heap.size (B hash) 22 := by rw [hW1]; exact (Blk.new w (B hash) _).alloc _
  have b2 : Blk W1 (w.heap.size + 1) (B hash2) 22 := by
    have := Blk.new (w.alloc (.cells (B hash).toArray 22)) (B hash2) 22
    rw [hW1]
    simpa using this
  have hu16 : Tryz.prog.underlying 22 = some (.array 16 5) := by kernel_rfl
  have hi16 : (Tryz.prog.info? 22).map (·.size) = some 16 := by kernel_rfl
  have hsz16 : (Tryz.prog.info? 22).map (·.size) = some (B hash).length := by rw [B_length, hh]; exact hi16
  have hsz17 : (Tryz.prog.info? 22).map (·.size) = some (B hash2).length := by rw [B_length, hh2]; exact hi16
  have H := Lib.hid (h.far k1)
  have HM := Lib.hid (hM.far k1)
  have HW := Lib.hid hw
  have HH := Lib.hid hh
  have HH2 := Lib.hid hh2
  have HK1 := Lib.hid k1
  have HB1 := Lib.hid b1
  have HE1 := Lib.hid b2
  have HSZ := Lib.hid hsz16
  have HSZ2 := Lib.hid hsz17
  have HU := Lib.hid hu16
  clear h hM hw hh hh2 k1 b1 b2 hsz16 hsz17 hu16 hi16
  go_enter Tryz.func5, Tryz.ntmps5
  go_upto_region 1 with (fail)
  rw [← hW1]
  clear hW1
  obtain ⟨bh, hbh⟩ : ∃ b, b = w.heap.size := ⟨_, rfl⟩
  obtain ⟨be, hbe⟩ : ∃ b, b = w.heap.size + 1 := ⟨_, rfl⟩
  rw [← hbe] at HE1 ⊢
  rw [← hbh] at HB1 ⊢
  clear hbh hbe
  go_wp2_with fail
  refine (fits4 _ L W1 H.out HW.out hl).mono ?_
  rintro e w2 ⟨ok1, rfl, k2, hok1⟩
  have HK2 := Lib.hid (HK1.out.trans' k2)
  cases ok1 with
  | false =>
    clear hok1 k2
    go_wp2
    go_ret
    exact ⟨rfl, HK2.out.below (Nat.le_refl _) (fun _ _ h => h.elim)⟩
  | true =>
    have HFI := Lib.hid (hok1 rfl)
    have H2 := Lib.hid (H.out.far k2)
    have HB2 := Lib.hid (HB1.out.keep k2 (fun h => h))
    have HE2 := Lib.hid (HE1.out.keep k2 (fun h => h))
    have HM2 := Lib.hid (HM.out.far k2)
    clear hok1 k2 H HB1 HE1 HM HK1
    go_wp2_with fail
    refine (segmentsT _ L w2 H2.out (by have := HFI.out.1; omega) HFI.out.2).mono ?_
    rintro e w3 ⟨wv, Lw, rfl, d3, m3, k3⟩
    have HK3 := Lib.hid (HK2.out.trans' k3)
    have H3 := Lib.hid (H2.out.far k3)
    have HB3 := Lib.hid (HB2.out.keep k3 (fun h => h))
    have HE3 := Lib.hid (HE2.out.keep k3 (fun h => h))
    have HM3 := Lib.hid (HM2.out.far k3)
    have HD3 := Lib.hid d3
    have HS3 := Lib.hid m3
    have hlw : Lw.length = L.length := by have := congrArg List.length m3; simpa using this
    have HLW := Lib.hid hlw
    clear d3 m3 k3 H2 HB2 HE2 HM2 HK2 hlw
    go_wp2_with fail
    refine (segsOk _ Lw w3 HD3.out (wide_same HS3.out HW.out) (by rw [HLW.out]; exact hl)).mono ?_
    rintro e w4 ⟨ok2, rfl, k4, hok2⟩
    have HK4 := Lib.hid (HK3.out.trans' k4)
    cases ok2 with
    | false =>
      clear hok2 k4
      go_wp2
      go_ret
      exact ⟨rfl, HK4.out.below (Nat.le_refl _) (fun _ _ h => h.elim)⟩
    | true =>
      have hg := hok2 rfl
      rw [HS3.out] at hg
      have HG := Lib.hid hg
      have hn1 := hg.n1
      have hn4 := hg.n4
      simp only [List.length_map] at hn1 hn4
      have H4 := Lib.hid (H3.out.far k4)
      have HB4 := Lib.hid (HB3.out.keep k4 (fun h => h))
      have HE4 := Lib.hid (HE3.out.keep k4 (fun h => h))
      have HM4 := Lib.hid (HM3.out.far k4)
      have HD4 := Lib.hid (HD3.out.far k4)
      clear hok2 k4 H3 HB3 HE3 HM3 HK3 HD3 hg
      go_upto_region 6 with (first
        | ((with_reducible show wpList _ _ _ (Oper.mk (some 25) _ _ _ _ _ :: _) _ _); go_must (refine wpList_load_mid rfl _ _ rfl bh 0 rfl (B hash) _ HB4.out.range HU.out rfl HSZ.out ?_))
        | (go_at_call 10; refine (countersT true hash L _ _ H4.out HM4.out (ok_same rfl HG.out.ok) hn4 hn1 HH.out).mono ?_; rintro e w5 ⟨dv, bs, C, rfl, r5, f5, m5, l5, k5⟩; have R5 := Lib.hid r5; have F5 := Lib.hid f5; have M5 := Lib.hid m5; have K5 := Lib.hid k5; obtain ⟨da, dc, rfl⟩ := r5.slice; clear r5 f5 m5 k5))
      have HK5 := Lib.hid (HK4.out.trans' K5.out)
      have H5 := Lib.hid (H4.out.far K5.out)
      have HE5 := Lib.hid (HE4.out.keep K5.out (fun h => h))
      have HM5 := Lib.hid (HM4.out.far K5.out)
      clear K5 HK4 H4 HE4 HM4 HB4 HD4
      go_upto_region 7 with (first
        | ((with_reducible show wpList _ _ _ (Oper.mk (some 31) _ _ _ _ _ :: _) _ _); go_must (refine wpList_load_mid rfl _ _ rfl be 0 rfl (B hash2) _ HE5.out.range HU.out rfl HSZ2.out ?_))
        | (go_at_call 10; refine (countersT false hash2 L _ _ H5.out HM5.out (ok_same rfl HG.out.ok) hn4 hn1 HH2.out).mono ?_; rintro e w6 ⟨dv2, bs2, C2, rfl, r6, f6, m6, l6, k6⟩; have R6 := Lib.hid r6; have F6 := Lib.hid f6; have M6 := Lib.hid m6; have K6 := Lib.hid k6; obtain ⟨da2, dc2, rfl⟩ := r6.slice; clear r6 f6 m6 k6))
      have HK6 := Lib.hid (HK5.out.trans' K6.out)
      have HM6 := Lib.hid (HM5.out.far K6.out)
      have HR6 := Lib.hid (R5.out.keep K6.out (fun _ _ h => h))
      clear K6 HK5 HM5 HE5 H5 R5
      go_upto_region 8 with (first
        | (go_at_call 11; refine (readBackT true hash L C bs _ _ HG.out HH.out F5.out M5.out l5 HR6.out HM6.out).mono ?_; rintro e w7 ⟨n7, ov7, L7, rfl, o7, m7, hl7, k7⟩; have O7 := Lib.hid o7.segR; have M7 := Lib.hid m7; have K7 := Lib.hid k7; clear o7 m7 k7))
      have HK7 := Lib.hid (HK6.out.trans' K7.out)
      have HM7 := Lib.hid (HM6.out.far K7.out)
      have HR7 := Lib.hid (R6.out.keep K7.out (fun _ _ h => h))
      clear K7 HK6 HM6 HR6 R6
      go_upto_region 9 with (first
        | (go_at_call 11; refine (readBackT false hash2 L C2 bs2 _ _ HG.out HH2.out F6.out M6.out l6 HR7.out HM7.out).mono ?_; rintro e w8 ⟨n8, ov8, L8, rfl, o8, m8, hl8, k8⟩; have O8 := Lib.hid o8.segR; have M8 := Lib.hid m8; have K8 := Lib.hid k8; clear o8 m8 k8))
      have HK8 := Lib.hid (HK7.out.trans' K8.out)
      have HO7 := Lib.hid (O7.out.far K8.out)
      clear K8 HK7 HM7 HR7 O7
      go_wp2_with (first
        | (go_at_call_of 9 ov7; go_must (refine (segmentsT _ L7 _ HO7.out (by omega) (fits_of (by rw [M7.out]; exact HG.out.ok))).mono ?_); rintro e w9 ⟨gv9, L9, rfl, d9, m9, k9⟩; have D9 := Lib.hid d9; have M9 := Lib.hid (m9.trans M7.out); have hl9 : L9.length = L.length := (by have := congrArg List.length M9.out; simpa using this); have K9 := Lib.hid k9; clear d9 m9 k9)
        | (go_at_call_of 9 ov8; go_must (refine (segmentsT _ L8 _ (O8.out.far K9.out) (by omega) (fits_of (by rw [M8.out]; exact HG.out.ok))).mono ?_); rintro e w10 ⟨gv10, L10, rfl, d10, m10, k10⟩; have D10 := Lib.hid d10; have M10 := Lib.hid (m10.trans M8.out); have K10 := Lib.hid k10; clear d10 m10 k10)
        | (go_at_call 12; go_must (refine (sameSegsT _ _ L9 L10 _ (D9.out.far K10.out) D10.out (M9.out.trans M10.out.symm) (by omega) (ok_same M9.out HG.out.ok)).mono ?_); rintro e w11 ⟨rfl, n11, rfl⟩))
      go_ret
      exact ⟨rfl, ((((HK8.out.trans' K9.out).trans' K10.out).drewN _)).below (Nat.le_refl _) (fun _ _ h => h.elim)⟩
end Go.Proofs.YtcpegoofbenoiaaGreatDoor
