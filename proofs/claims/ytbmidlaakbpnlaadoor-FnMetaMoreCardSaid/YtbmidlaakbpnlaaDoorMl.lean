/-
  THE LAW FnMeta, of a package that reads as descriptions.
-/
import Derived.Test.YtbmidlaakbpnlaaDoorMo
import Derived.Test.YtbmidlaakbpnlaaDoorRm9
import Derived.Test.YtbmidlaakbpnlaaDoorRm10
namespace Go.Proofs.YtbmidlaakbpnlaaDoor
open Go.RowKit
open Go.Joins Go.ChangeShapes Go.WideShapes Go.ChangeAt Go.Deep
open Plain (M64)

theorem Pkg.fits_again {p : Pkg} {L : List (Dsc × Value)} (h : L.map (·.1) = p.ds.map (·.1)) (hf : p.fits) : Pkg.fits ⟨p.path, p.name, p.mod, L⟩ := by
  have hl : L.length = p.ds.length := by simpa using congrArg List.length h
  obtain ⟨h1, h2⟩ := hf
  refine ⟨by simp only; omega, fun x hx => ?_⟩
  have : x.1 ∈ p.ds.map (·.1) := by rw [← h]; exact List.mem_map_of_mem hx
  obtain ⟨y, hy, e⟩ := List.mem_map.1 this
  rw [← e]; exact h2 y hy
set_option maxRecDepth 100000 in
set_option maxHeartbeats 8000000 in
theorem meta_law (p : Pkg) (fv : Value) (w : World) (h : DescR w fv p.ds) (hw : p.wide) :
    Calls Tryd.prog 3 #[.agg #[.string p.path, .string p.name, .string p.mod, fv]] w fun e w' => e = .returned (.bool true) ∧ Below w.heap.size w w' := by
  obtain ⟨fa, fc, rfl⟩ := h.reads.slice
  obtain ⟨W1, hW1⟩ : ∃ W1, W1 = w.alloc (.cells #[.string p.path, .string p.name, .string p.mod, .slice fa p.ds.length fc] 24) := ⟨_, rfl⟩
  have hk1 : Keep Non w W1 := by rw [hW1]; exact (Keep.refl _ _).alloc _
  have hb1 : Blk W1 w.heap.size [.string p.path, .string p.name, .string p.mod, .slice fa p.ds.length fc] 24 := by rw [hW1]; exact Blk.new w [.string p.path, .string p.name, .string p.mod, .slice fa p.ds.length fc] _
  have HK1 := Lib.hid hk1
  have HB1 := Lib.hid hb1
  have HH := Lib.hid h
  have HW := Lib.hid hw
  clear h hk1 hb1 hw
  go_enter Tryd.func3, Tryd.ntmps3
  go_wp2_with fail
  rw [← hW1]
  clear hW1
  refine (fits8 p _ W1 (HH.out.far HK1.out) HW.out).mono ?_
  rintro e w2 ⟨ok1, rfl, k2, hok1⟩
  have HK2 := Lib.hid (HK1.out.trans' k2)
  have HB2 := Lib.hid (HB1.out.keep k2 (fun h => h))
  cases ok1 with
  | false =>
    clear hok1 k2
    go_wp2
    go_ret
    exact ⟨rfl, HK2.out.below (Nat.le_refl _) (fun _ _ h => h.elim)⟩
  | true =>
    have HF := Lib.hid (hok1 rfl)
    have x0 : w2.cell? ⟨w.heap.size, 0, none⟩ = some (.string p.path) := by rw [HB2.out.cell]; rfl
    have x1 : w2.cell? ⟨w.heap.size, 1, none⟩ = some (.string p.name) := by rw [HB2.out.cell]; rfl
    have x2 : w2.cell? ⟨w.heap.size, 2, none⟩ = some (.string p.mod) := by rw [HB2.out.cell]; rfl
    have x3 : w2.cell? ⟨w.heap.size, 3, none⟩ = some (.slice fa p.ds.length fc) := by rw [HB2.out.cell]; rfl
    clear hok1 k2
    go_wp2_with fail
    refine (packT p _ w2 (HH.out.far HK2.out) HF.out.w).mono ?_
    rintro e w3 ⟨fv3, L3, rfl, d3, m3, k3⟩
    obtain ⟨va, vc, rfl⟩ := d3.reads.slice
    obtain ⟨W3, hW3⟩ : ∃ W3, W3 = w3.alloc (.cells #[.string p.path, .string p.name, .string p.mod, .slice va L3.length vc] 28) := ⟨_, rfl⟩
    have k3' : Keep Non w3 W3 := by rw [hW3]; exact (Keep.refl _ _).alloc _
    have hc3 : Blk W3 w3.heap.size [.string p.path, .string p.name, .string p.mod, .slice va L3.length vc] 28 := by rw [hW3]; exact Blk.new w3 [.string p.path, .string p.name, .string p.mod, .slice va L3.length vc] _
    have HK3 := Lib.hid ((HK2.out.trans' k3).trans' k3')
    have HB3 := Lib.hid ((HB2.out.keep k3 (fun h => h)).keep k3' (fun h => h))
    have HC3 := Lib.hid hc3
    have HD3 := Lib.hid (d3.far k3')
    have HM3 := Lib.hid m3
    have HA3 := Lib.hid (Pkg.again m3 HW.out)
    clear d3 m3 k3 x0 x1 x2 x3 k3' hc3
    go_upto_region 4 with (fail)
    rw [← hW3]
    clear hW3
    generalize w3.heap.size = g3 at *
    have y0 : W3.cell? ⟨g3, 0, none⟩ = some (.string p.path) := by rw [HC3.out.cell]; rfl
    have y1 : W3.cell? ⟨g3, 1, none⟩ = some (.string p.name) := by rw [HC3.out.cell]; rfl
    have y2 : W3.cell? ⟨g3, 2, none⟩ = some (.string p.mod) := by rw [HC3.out.cell]; rfl
    have y3 : W3.cell? ⟨g3, 3, none⟩ = some (.slice va L3.length vc) := by rw [HC3.out.cell]; rfl
    go_wp2_with fail
    refine (goodT ⟨p.path, p.name, p.mod, L3⟩ _ W3 HD3.out HA3.out.1).mono ?_
    rintro e w4 ⟨ok2, rfl, k4, hok2⟩
    have HK4 := Lib.hid (HK3.out.trans' k4)
    have HB4 := Lib.hid (HB3.out.keep k4 (fun h => h))
    have HC4 := Lib.hid (HC3.out.keep k4 (fun h => h))
    have HD4 := Lib.hid (HD3.out.far k4)
    clear y0 y1 y2 y3
    cases ok2 with
    | false =>
      clear hok2 k4
      go_wp2
      go_ret
      exact ⟨rfl, HK4.out.below (Nat.le_refl _) (fun _ _ h => h.elim)⟩
    | true =>
      have HG := Lib.hid (HA3.out.2 (hok2 rfl))
      have x0 : w4.cell? ⟨w.heap.size, 0, none⟩ = some (.string p.path) := by rw [HB4.out.cell]; rfl
      have x1 : w4.cell? ⟨w.heap.size, 1, none⟩ = some (.string p.name) := by rw [HB4.out.cell]; rfl
      have x2 : w4.cell? ⟨w.heap.size, 2, none⟩ = some (.string p.mod) := by rw [HB4.out.cell]; rfl
      have x3 : w4.cell? ⟨w.heap.size, 3, none⟩ = some (.slice fa p.ds.length fc) := by rw [HB4.out.cell]; rfl
      clear hok2 k4
      go_wp2_with fail
      refine (metaT p _ w4 (HH.out.far HK4.out) HG.out HW.out).mono ?_
      rintro e w5 ⟨v5, tv5, rfl, r5, t5, k5, _, _⟩
      have hdl : p.ds.length ≤ 8 := HG.out.2.2.2.1
      obtain ⟨ta, tc, rfl⟩ := t5.reads.slice
      have hpos : 0 < mtotal (p.ms p.ds.length) := by simp only [mtotal, mbase]; omega
      have HK5 := Lib.hid (HK4.out.trans' k5)
      have HB5 := Lib.hid (HB4.out.keep k5 (fun h => h))
      have HC5 := Lib.hid (HC4.out.keep k5 (fun h => h))
      have HD5 := Lib.hid (HD4.out.far k5)
      obtain ⟨ga, gc, rfl⟩ := r5.at hpos
      have R5 := Lib.hid r5.reads
      have T5 := Lib.hid t5.reads
      have y3 : w5.cell? ⟨w.heap.size, 3, none⟩ = some (.slice fa p.ds.length fc) := by rw [HB5.out.cell]; rfl
      clear k5 r5 t5 x0 x1 x2 x3
      go_wp2_with fail
      go_loop [37] (fun i => ∃ k : Nat, k ≤ p.ds.length ∧ i = .int .i64 k) (fun i => p.ds.length - (intOf i).toNat)
      case atStart => exact ⟨0, by omega, rfl⟩
      case round =>
        obtain ⟨k, hk, rfl⟩ := hrel
        by_cases hlt : k < p.ds.length
        · obtain ⟨b3, o3, c3, hv3, hc3⟩ := T5.out.at (by omega) (by omega)
          cases hv3
          have d0 := hc3 k _ (TN_at hlt)
          clear hc3
          go_wp2
          go_round
          case measure => simp [intOf]; omega
          case rel => exact ⟨k + 1, by omega, by go_num⟩
        · obtain rfl : k = p.ds.length := by omega
          go_wp2_with fail
          refine (readMeta p _ w5 HG.out HW.out R5.out).mono ?_
          rintro e w6 ⟨fv6, L6, rfl, d6, m6, k6, _⟩
          obtain ⟨va6, vc6, rfl⟩ := d6.reads.slice
          have hl6 : L6.length = p.ds.length := by simpa using congrArg List.length m6
          obtain ⟨W6, hW6⟩ : ∃ W6, W6 = w6.alloc (.cells #[.string p.path, .string p.name, .string p.mod, .slice va6 L6.length vc6] 24) := ⟨_, rfl⟩
          have k6' : Keep Non w6 W6 := by rw [hW6]; exact (Keep.refl _ _).alloc _
          have hc6 : Blk W6 w6.heap.size [.string p.path, .string p.name, .string p.mod, .slice va6 L6.length vc6] 24 := by rw [hW6]; exact Blk.new w6 [.string p.path, .string p.name, .string p.mod, .slice va6 L6.length vc6] _
          have HK6 := Lib.hid ((HK5.out.trans' k6).trans' k6')
          have HC6 := Lib.hid ((HC5.out.keep k6 (fun h => h)).keep k6' (fun h => h))
          have HE6 := Lib.hid hc6
          have HD6 := Lib.hid ((HD5.out.far k6).far k6')
          have HF6 := Lib.hid (d6.far k6')
          have HM6 := Lib.hid m6
          have HFG := Lib.hid (Pkg.fits_again m6 HF.out)
          clear d6 m6 k6 y3 k6' hc6 hl6
          go_upto_region 16 with (fail)
          rw [← hW6]
          clear hW6
          generalize w6.heap.size = g6 at *
          have z0 : W6.cell? ⟨g6, 0, none⟩ = some (.string p.path) := by rw [HE6.out.cell]; rfl
          have z1 : W6.cell? ⟨g6, 1, none⟩ = some (.string p.name) := by rw [HE6.out.cell]; rfl
          have z2 : W6.cell? ⟨g6, 2, none⟩ = some (.string p.mod) := by rw [HE6.out.cell]; rfl
          have z3 : W6.cell? ⟨g6, 3, none⟩ = some (.slice va6 L6.length vc6) := by rw [HE6.out.cell]; rfl
          have u0 : W6.cell? ⟨g3, 0, none⟩ = some (.string p.path) := by rw [HC6.out.cell]; rfl
          have u1 : W6.cell? ⟨g3, 1, none⟩ = some (.string p.name) := by rw [HC6.out.cell]; rfl
          have u2 : W6.cell? ⟨g3, 2, none⟩ = some (.string p.mod) := by rw [HC6.out.cell]; rfl
          have u3 : W6.cell? ⟨g3, 3, none⟩ = some (.slice va L3.length vc) := by rw [HC6.out.cell]; rfl
          have hl3 : L3.length = p.ds.length := by simpa using congrArg List.length HM3.out
          have HL3 := Lib.hid hl3
          clear hl3
          have HUN : Hid (∀ L : List (Dsc × Value), L.map (·.1) = p.ds.map (·.1) → L.length ≤ 1000 ∧ ∀ x ∈ L, x.1.units.length ≤ 1000) := Lib.hid (fun L hL => by
            have h1 : L.length = p.ds.length := by simpa using congrArg List.length hL
            refine ⟨by omega, fun x hx => ?_⟩
            have : x.1 ∈ p.ds.map (·.1) := by rw [← hL]; exact List.mem_map_of_mem hx
            obtain ⟨y, hy, e⟩ := List.mem_map.1 this
            have := (HG.out.2.2.2.2 y hy).2.2
            rw [← e]; omega)
          go_region_held3 (fun w' => w'.cell? ⟨g6, 0, none⟩ = some (.string p.path) ∧ w'.cell? ⟨g6, 1, none⟩ = some (.string p.name) ∧ w'.cell? ⟨g6, 2, none⟩ = some (.string p.mod) ∧ w'.cell? ⟨g6, 3, none⟩ = some (.slice va6 L6.length vc6) ∧ w'.cell? ⟨g3, 0, none⟩ = some (.string p.path) ∧ w'.cell? ⟨g3, 1, none⟩ = some (.string p.name) ∧ w'.cell? ⟨g3, 2, none⟩ = some (.string p.mod) ∧ w'.cell? ⟨g3, 3, none⟩ = some (.slice va L3.length vc))
            (first
              | go_keep
              | exact ⟨kk.out.cell z0 (fun h => h), kk.out.cell z1 (fun h => h), kk.out.cell z2 (fun h => h), kk.out.cell z3 (fun h => h), kk.out.cell u0 (fun h => h), kk.out.cell u1 (fun h => h), kk.out.cell u2 (fun h => h), kk.out.cell u3 (fun h => h)⟩)
            (first
              | (go_at_call 6; refine (packT ⟨p.path, p.name, p.mod, L6⟩ _ _ (HF6.out.far ((Keep.refl Non W6).drew)) HFG.out.w).mono ?_; rintro e w7 ⟨fv7, L7, rfl, d7, m7, k7⟩; obtain ⟨v7, c7, rfl⟩ := d7.reads.slice; have kk := Lib.hid k7.undrew; have D7 := Lib.hid d7; have M7 := Lib.hid (m7.trans HM6.out); clear d7 m7 k7)
              | (go_at_call 10; refine (samePkg p.path p.name p.mod _ _ L7 L3 _ D7.out (HD6.out.far kk.out) (M7.out.trans HM3.out.symm) (HUN.out L7 M7.out).1 (HUN.out L7 M7.out).2).mono ?_; rintro e w8 ⟨rfl, k8⟩; have kk := Lib.hid (kk.out.trans' k8); clear k8))
          all_goals
            go_wp2_with fail
            go_ret
            exact ⟨rfl, (HK6.out.trans' kk.out).below (Nat.le_refl _) (fun _ _ h => h.elim)⟩
end Go.Proofs.YtbmidlaakbpnlaaDoor
