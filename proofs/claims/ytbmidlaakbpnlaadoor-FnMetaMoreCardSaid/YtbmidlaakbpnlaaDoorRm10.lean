/-
  THE CONTRACT of spec.SamePackage, of packages that are the same.
-/
import Derived.Test.YtbmidlaakbpnlaaDoorPk3
import Derived.Deep.RegionHeld3
namespace Go.Proofs.YtbmidlaakbpnlaaDoor
open Go.RowKit
open Go.ChangeShapes Go.WideShapes Go.ChangeAt Go.Deep
open Plain (M64)

theorem two_blk (W : World) (cs1 cs2 : List Value) (T : TypeId) : Blk ((W.alloc (.cells cs1.toArray T)).alloc (.cells cs2.toArray T)).drew W.heap.size cs1 T ∧ Blk ((W.alloc (.cells cs1.toArray T)).alloc (.cells cs2.toArray T)).drew (W.heap.size + 1) cs2 T ∧ Keep Non W ((W.alloc (.cells cs1.toArray T)).alloc (.cells cs2.toArray T)).drew := by
  refine ⟨((Blk.new W cs1 T).alloc _).drew, ?_, (((Keep.refl _ _).alloc _).alloc _).drew⟩
  have := (Blk.new (W.alloc (.cells cs1.toArray T)) cs2 T).drew
  simpa using this
set_option maxRecDepth 100000 in
set_option maxHeartbeats 8000000 in
theorem samePkg (a b m : ByteArray) (fv1 fv2 : Value) (L1 L2 : List (Dsc × Value)) (w : World) (h1 : DescR w fv1 L1) (h2 : DescR w fv2 L2) (hm : L1.map (·.1) = L2.map (·.1)) (hl : L1.length ≤ 1000) (hun : ∀ x ∈ L1, x.1.units.length ≤ 1000) :
    Calls Tryd.prog 10 #[.agg #[.string a, .string b, .string m, fv1], .agg #[.string a, .string b, .string m, fv2]] w fun e w' => e = .returned (.bool true) ∧ Keep Non w w' := by
  have hn : L2.length = L1.length := by have := congrArg List.length hm; simpa using this.symm
  have h2r := h2.reads
  rw [hn] at h2r
  have hgt : ∀ k (hk : k < L1.length) (hk2 : k < L2.length), L2[k].1 = L1[k].1 := fun k hk hk2 => by
    have e := congrArg (fun l => l[k]?) hm
    simp [List.getElem?_eq_getElem hk, List.getElem?_eq_getElem hk2] at e
    exact e.symm
  obtain ⟨fa, fc, rfl⟩ := h1.reads.slice
  obtain ⟨fb, fd, rfl⟩ := h2r.slice
  obtain ⟨W1, hW1⟩ : ∃ W1, W1 = (w.alloc (.cells #[.string a, .string b, .string m, .slice fa L1.length fc] 28)).alloc (.cells #[.string a, .string b, .string m, .slice fb L1.length fd] 28) := ⟨_, rfl⟩
  have hk1 : Keep Non w W1 := by rw [hW1]; exact ((Keep.refl _ _).alloc _).alloc _
  have hb1 : Blk W1 w.heap.size [.string a, .string b, .string m, .slice fa L1.length fc] 28 := by rw [hW1]; exact (Blk.new w [.string a, .string b, .string m, .slice fa L1.length fc] _).alloc _
  have hb2 : Blk W1 (w.heap.size + 1) [.string a, .string b, .string m, .slice fb L1.length fd] 28 := by
    have := Blk.new (w.alloc (.cells #[.string a, .string b, .string m, .slice fa L1.length fc] 28)) [.string a, .string b, .string m, .slice fb L1.length fd] 28
    rw [hW1]
    simpa using this
  have HK1 := Lib.hid hk1
  have HB1 := Lib.hid hb1
  have HB2 := Lib.hid hb2
  have H1 := Lib.hid h1
  have H2 := Lib.hid h2
  have HR2 := Lib.hid h2r
  have HGT := Lib.hid hgt
  have HUN := Lib.hid hun
  have HN := Lib.hid hn
  have x10 : W1.cell? ⟨w.heap.size, 0, none⟩ = some (.string a) := by rw [hb1.cell]; rfl
  have x11 : W1.cell? ⟨w.heap.size, 1, none⟩ = some (.string b) := by rw [hb1.cell]; rfl
  have x12 : W1.cell? ⟨w.heap.size, 2, none⟩ = some (.string m) := by rw [hb1.cell]; rfl
  have x13 : W1.cell? ⟨w.heap.size, 3, none⟩ = some (.slice fa L1.length fc) := by rw [hb1.cell]; rfl
  have x20 : W1.cell? ⟨w.heap.size + 1, 0, none⟩ = some (.string a) := by rw [hb2.cell]; rfl
  have x21 : W1.cell? ⟨w.heap.size + 1, 1, none⟩ = some (.string b) := by rw [hb2.cell]; rfl
  have x22 : W1.cell? ⟨w.heap.size + 1, 2, none⟩ = some (.string m) := by rw [hb2.cell]; rfl
  have x23 : W1.cell? ⟨w.heap.size + 1, 3, none⟩ = some (.slice fb L1.length fd) := by rw [hb2.cell]; rfl
  clear hk1 hb1 hb2 h1 h2 h2r hgt hun hn hm
  go_enter Tryd.func10, Tryd.ntmps10
  go_upto_region 1 with (fail)
  rw [← hW1]
  clear hW1
  obtain ⟨ga, hga⟩ : ∃ g, g = w.heap.size := ⟨_, rfl⟩
  obtain ⟨gb, hgb⟩ : ∃ g, g = w.heap.size + 1 := ⟨_, rfl⟩
  rw [← hgb] at HB2 x20 x21 x22 x23 ⊢
  rw [← hga] at HB1 x10 x11 x12 x13 ⊢
  clear hga hgb
  go_wp2_with fail
  clear x10 x11 x12 x20 x21 x22
  go_loopw [40] (fun i wr => ∃ k : Nat, k ≤ L1.length ∧ i = .int .i64 k ∧ Keep Non W1 wr) (fun i _ => L1.length - (intOf i).toNat)
  case atStart => exact ⟨0, by omega, rfl, Keep.refl _ _⟩
  case round =>
    obtain ⟨k, hk, rfl, hkp⟩ := hrel
    obtain ⟨W0, rfl⟩ : ∃ W0, W0 = wr := ⟨_, rfl⟩
    by_cases hlt : k < L1.length
    · have hlt2 : k < L2.length := by rw [HN.out]; exact hlt
      have hA := (H1.out.far (HK1.out.trans' hkp)).reads
      have hB := (HR2.out.keep (HK1.out.trans' hkp) (fun _ _ h => h))
      have hU1 := ((H1.out.far (HK1.out.trans' hkp)).units _ (List.getElem_mem hlt))
      have hU2 := ((H2.out.far (HK1.out.trans' hkp)).units _ (List.getElem_mem hlt2))
      obtain ⟨ba, offa, ca', hva, hca⟩ := hA.at (by omega) (by omega)
      cases hva
      obtain ⟨bb, offb, cb', hvb, hcb⟩ := hB.at (by omega) (by omega)
      cases hvb
      obtain ⟨p0, p1, p2, p3⟩ := four_at hca hlt
      obtain ⟨q0, q1, q2, q3⟩ := four_at hcb hlt2
      have heq := HGT.out k hlt hlt2
      have hunl := HUN.out _ (List.getElem_mem hlt)
      rw [heq] at q0 q1 q3 hU2
      have HU1 := Lib.hid hU1
      have HU2 := Lib.hid hU2
      have HKP := Lib.hid hkp
      have y13 := hkp.cell x13 (fun h => h)
      have y23 := hkp.cell x23 (fun h => h)
      clear hca hcb hA hB hU1 hU2 hkp heq
      generalize L2[k].2 = uv2 at *
      generalize L1[k] = x at *
      obtain ⟨d, uv1⟩ := x
      dsimp only at *
      obtain ⟨ua, uc, rfl⟩ := HU1.out.slice
      obtain ⟨ub, ud, rfl⟩ := HU2.out.slice
      go_upto_region 6 with (fail)
      have hi0 : (0 : Int) ≤ (k : Int) := by omega
      have hi1 : (k : Int) < (L1.length : Int) := by omega
      go_cut [6, 7] from 43 to 52 (fun v6 v7 wx => ∃ g1 g2, v6 = .pointer (some ⟨g1, 0, none⟩) ∧ v7 = .pointer (some ⟨g2, 0, none⟩) ∧ Blk wx g1 [.string d.name, .string d.file, .slice ua d.units.length uc, .bool d.lit] 46 ∧ Blk wx g2 [.string d.name, .string d.file, .slice ub d.units.length ud, .bool d.lit] 46 ∧ Keep Non W0 wx)
      case first =>
        go_region_held3 (fun w' => w'.cell? ⟨ga, 3, none⟩ = some (.slice (some ⟨ba, offa, none⟩) L1.length fc) ∧ w'.cell? ⟨gb, 3, none⟩ = some (.slice (some ⟨bb, offb, none⟩) L1.length fd) ∧ w'.cell? ⟨ba, offa + k * 4, none⟩ = some (.string d.name) ∧ w'.cell? ⟨ba, offa + k * 4 + 1, none⟩ = some (.string d.file) ∧ w'.cell? ⟨ba, offa + k * 4 + 2, none⟩ = some (.slice ua d.units.length uc) ∧ w'.cell? ⟨ba, offa + k * 4 + 3, none⟩ = some (.bool d.lit) ∧ w'.cell? ⟨bb, offb + k * 4, none⟩ = some (.string d.name) ∧ w'.cell? ⟨bb, offb + k * 4 + 1, none⟩ = some (.string d.file) ∧ w'.cell? ⟨bb, offb + k * 4 + 2, none⟩ = some (.slice ub d.units.length ud) ∧ w'.cell? ⟨bb, offb + k * 4 + 3, none⟩ = some (.bool d.lit))
          (first
            | go_keep)
          (first
            | fail)
        all_goals
          go_wp2_with fail
          go_meet
          case rel =>
            first
              | (have h := two_blk W0 [.string d.name, .string d.file, .slice ua d.units.length uc, .bool d.lit] [.string d.name, .string d.file, .slice ub d.units.length ud, .bool d.lit] 46
                 exact ⟨_, _, rfl, rfl, h.1, h.2.1, h.2.2⟩)
              | (have h := two_blk W0 [.string d.name, .string d.file, .slice ub d.units.length ud, .bool d.lit] [.string d.name, .string d.file, .slice ua d.units.length uc, .bool d.lit] 46
                 exact ⟨_, _, rfl, rfl, h.2.1, h.1, h.2.2⟩)
      case rest =>
        obtain ⟨g1, g2, rfl, rfl, hb1, hb2, hk2⟩ := hcut
        obtain ⟨W2, rfl⟩ : ∃ W2, W2 = wc := ⟨_, rfl⟩
        have e0 : W2.cell? ⟨g1, 0, none⟩ = some (.string d.name) := by rw [hb1.cell]; rfl
        have e1 : W2.cell? ⟨g1, 1, none⟩ = some (.string d.file) := by rw [hb1.cell]; rfl
        have e2 : W2.cell? ⟨g1, 2, none⟩ = some (.slice ua d.units.length uc) := by rw [hb1.cell]; rfl
        have e3 : W2.cell? ⟨g1, 3, none⟩ = some (.bool d.lit) := by rw [hb1.cell]; rfl
        have f0 : W2.cell? ⟨g2, 0, none⟩ = some (.string d.name) := by rw [hb2.cell]; rfl
        have f1 : W2.cell? ⟨g2, 1, none⟩ = some (.string d.file) := by rw [hb2.cell]; rfl
        have f2 : W2.cell? ⟨g2, 2, none⟩ = some (.slice ub d.units.length ud) := by rw [hb2.cell]; rfl
        have f3 : W2.cell? ⟨g2, 3, none⟩ = some (.bool d.lit) := by rw [hb2.cell]; rfl
        have V1 := Lib.hid (HU1.out.keep hk2 (fun _ _ h => h))
        have V2 := Lib.hid (HU2.out.keep hk2 (fun _ _ h => h))
        have HK2 := Lib.hid (HKP.out.trans' hk2)
        clear hb1 hb2 hk2 p0 p1 p2 p3 q0 q1 q2 q3 y13 y23 HU1 HU2 HKP hi0 hi1
        go_wp2_with fail
        go_loopw [84] (fun i wr => ∃ j : Nat, j ≤ d.units.length ∧ i = .int .i64 j ∧ Keep Non W2 wr) (fun i _ => d.units.length - (intOf i).toNat)
        case atStart => exact ⟨0, by omega, rfl, Keep.refl _ _⟩
        case round =>
          obtain ⟨j, hj, rfl, hkj⟩ := hrel
          by_cases hjl : j < d.units.length
          · have hA := V1.out.keep hkj (fun _ _ h => h)
            have hB := V2.out.keep hkj (fun _ _ h => h)
            obtain ⟨b3, o3, c3, hv3, hc3⟩ := hA.at (by omega) (by omega)
            cases hv3
            obtain ⟨b4, o4, c4, hv4, hc4⟩ := hB.at (by omega) (by omega)
            cases hv4
            obtain ⟨p0, p1, p2, p3, p4⟩ := five_at hc3 hjl
            obtain ⟨q0, q1, q2, q3, q4⟩ := five_at hc4 hjl
            have z13 := hkj.cell e2 (fun h => h)
            have z23 := hkj.cell f2 (fun h => h)
            have HKJ := Lib.hid hkj
            have hi0 : (0 : Int) ≤ (j : Int) := by omega
            have hi1 : (j : Int) < (d.units.length : Int) := by omega
            clear hA hB hc3 hc4 hkj
            generalize d.units[j] = u at *
            go_upto_region 12 with (fail)
            go_quiet (fail)
            go_wp2_with fail
            go_roundw
            case measure => simp [intOf]; omega
            case rel => exact ⟨j + 1, by omega, by go_num, HKJ.out.drewN _⟩
          · obtain rfl : j = d.units.length := by omega
            have HKJ := Lib.hid hkj
            clear hkj
            go_wp2_with fail
            go_roundw
            case measure => simp [intOf]; omega
            case rel => exact ⟨k + 1, by omega, by go_num, HK2.out.trans' HKJ.out⟩
    · obtain rfl : k = L1.length := by omega
      have HKP := Lib.hid hkp
      clear hkp
      go_wp2
      go_ret
      exact ⟨rfl, HK1.out.trans' HKP.out⟩
end Go.Proofs.YtbmidlaakbpnlaaDoor
