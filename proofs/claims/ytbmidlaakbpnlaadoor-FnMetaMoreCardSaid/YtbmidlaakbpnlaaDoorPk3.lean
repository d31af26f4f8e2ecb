/-
  CONTRACTS: the reference's description of a package, and its test.
-/
import Derived.Test.YtbmidlaakbpnlaaDoorPk2
import Derived.Deep.MidRow
namespace Go.Proofs.YtbmidlaakbpnlaaDoor
open Go.RowKit
open Go.ChangeShapes Go.WideShapes Go.ChangeAt Go.Deep
open Plain (M64)

theorem Blk.rng {w : World} {g : Nat} {cs : List Value} {T : TypeId} (h : Blk w g cs T) : w.rangeAt g 0 cs := fun j v hj => by rw [Nat.zero_add, h.cell]; exact hj
theorem Reads.fourAt {w : World} {x y z u : Value} {T : TypeId} {g : Nat} (hg : g = w.heap.size) : Reads (w.alloc (.cells #[x, y, z, u] T)) 4 (.slice (some ⟨g, 0, none⟩) 1 1) 1 [x, y, z, u] := by
  subst hg
  refine ⟨rfl, .inr ⟨_, 1, rfl, fun j v hj => ?_⟩⟩
  rw [addr_add, Nat.zero_add, (Blk.new w [x, y, z, u] T).cell]
  exact hj
theorem Reads.fiveAt {w : World} {x y z u t : Value} {T : TypeId} {g : Nat} (hg : g = w.heap.size) : Reads (w.alloc (.cells #[x, y, z, u, t] T)) 5 (.slice (some ⟨g, 0, none⟩) 1 1) 1 [x, y, z, u, t] := by
  subst hg
  refine ⟨rfl, .inr ⟨_, 1, rfl, fun j v hj => ?_⟩⟩
  rw [addr_add, Nat.zero_add, (Blk.new w [x, y, z, u, t] T).cell]
  exact hj
/-- What the reference's test tells. -/
def Pkg.good (p : Pkg) : Prop := Pln p.path true ∧ Pln p.name false ∧ Pln p.mod false ∧ p.ds.length ≤ 8 ∧ ∀ x ∈ p.ds, x.1.name.size ≤ 60 ∧ x.1.file.size ≤ 60 ∧ x.1.units.length ≤ 8
def Dsc.small (d : Dsc) : Prop := d.name.size ≤ 60 ∧ d.file.size ≤ 60 ∧ d.units.length ≤ 8
set_option maxRecDepth 100000 in
set_option maxHeartbeats 2000000 in
theorem goodT (p : Pkg) (fv : Value) (w : World) (h : DescR w fv p.ds) (hw : p.wide) : Calls Tryd.prog 7 #[.agg #[.string p.path, .string p.name, .string p.mod, fv]] w (OkP w p.good) := by
  obtain ⟨h1, h2, h3, h4, h5⟩ := hw
  obtain ⟨fa, fc, rfl⟩ := h.reads.slice
  have h4' : p.ds.length ≤ 9223372036854775807 := by unfold maxLen at h4; omega
  have HH := Lib.hid (h.far ((Keep.refl Non w).alloc (.cells #[.string p.path, .string p.name, .string p.mod, .slice fa p.ds.length fc] 28)))
  have HW := Lib.hid h5
  have H1 := Lib.hid h1
  have H2 := Lib.hid h2
  have H3 := Lib.hid h3
  obtain ⟨W1, hW1⟩ : ∃ W1, W1 = w.alloc (.cells #[.string p.path, .string p.name, .string p.mod, .slice fa p.ds.length fc] 28) := ⟨_, rfl⟩
  have hb1 : Blk W1 w.heap.size [.string p.path, .string p.name, .string p.mod, .slice fa p.ds.length fc] 28 := by rw [hW1]; exact Blk.new w [.string p.path, .string p.name, .string p.mod, .slice fa p.ds.length fc] _
  have hk1 : Keep Non w W1 := by rw [hW1]; exact (Keep.refl _ _).alloc _
  rw [← hW1] at HH
  have HB1 := Lib.hid hb1
  have HK1 := Lib.hid hk1
  clear h h1 h2 h3 h4 h5 hb1 hk1
  go_enter Tryd.func7, Tryd.ntmps7
  go_wp2
  rw [← hW1]
  clear hW1
  go_loopw [8] (fun i wr => ∃ k : Nat, k ≤ p.ds.length ∧ i = .int .i64 k ∧ Keep Non W1 wr ∧ (∀ x ∈ p.ds.take k, x.1.small)) (fun i _ => p.ds.length - (intOf i).toNat)
  case atStart => exact ⟨0, by omega, rfl, Keep.refl _ _, by simp⟩
  case round =>
    obtain ⟨k, hk, rfl, hkp, hv⟩ := hrel
    by_cases hlt : k < p.ds.length
    · have hR := (HH.out.far hkp)
      obtain ⟨ba, off, ca', hva, hca⟩ := hR.reads.at (by omega) (by omega)
      cases hva
      obtain ⟨q0, q1, q2, q3⟩ := four_at hca hlt
      have HV : Hid (p.ds[k].1.small → ∀ m ∈ p.ds.take (k + 1), m.1.small) := Lib.hid (fun h => take_snoc_mem hlt hv h)
      have HU := Lib.hid (hR.units _ (List.getElem_mem hlt))
      have HWD := Lib.hid (HW.out _ (List.getElem_mem hlt))
      have HKP := Lib.hid hkp
      clear hv hca hR hkp
      generalize p.ds[k] = x at *
      obtain ⟨d, uv⟩ := x
      dsimp only at *
      obtain ⟨ua, uc, rfl⟩ := HU.out.slice
      have hul : d.units.length ≤ 9223372036854775807 := by have := HWD.out.2.2.2; unfold maxLen at this; omega
      go_wp2_with fail
      refine (plainT d.name false _ HWD.out.2.1).mono ?_
      rintro e w2 ⟨ok1, rfl, rfl, hok1⟩
      cases ok1 with
      | false =>
        clear hok1
        go_wp2
        go_ret
        exact ⟨false, rfl, HK1.out.trans' (HKP.out.alloc _), fun h => by cases h⟩
      | true =>
        have HO1 := Lib.hid (hok1 rfl)
        clear hok1
        go_wp2_with fail
        refine (plainT d.file false _ HWD.out.2.2.1).mono ?_
        rintro e w3 ⟨ok2, rfl, rfl, hok2⟩
        cases ok2 with
        | false =>
          clear hok2
          go_wp2
          go_ret
          exact ⟨false, rfl, HK1.out.trans' (HKP.out.alloc _), fun h => by cases h⟩
        | true =>
          have HO2 := Lib.hid (hok2 rfl)
          clear hok2
          by_cases h8 : d.units.length ≤ 8
          · go_wp2
            go_roundw
            case measure => simp [intOf]; omega
            case rel => exact ⟨k + 1, by omega, by go_num, HKP.out.alloc _, HV.out ⟨HO1.out.1, HO2.out.1, h8⟩⟩
          · go_wp2
            go_ret
            exact ⟨false, rfl, HK1.out.trans' (HKP.out.alloc _), fun h => by cases h⟩
    · have hkl : k = p.ds.length := by omega
      subst hkl
      rw [List.take_of_length_le (Nat.le_refl _)] at hv
      have hB := HB1.out.keep hkp (fun h => h)
      have x0 : wr.cell? ⟨w.heap.size, 0, none⟩ = some (.string p.path) := by rw [hB.cell]; rfl
      have x1 : wr.cell? ⟨w.heap.size, 1, none⟩ = some (.string p.name) := by rw [hB.cell]; rfl
      have x2 : wr.cell? ⟨w.heap.size, 2, none⟩ = some (.string p.mod) := by rw [hB.cell]; rfl
      have x3 : wr.cell? ⟨w.heap.size, 3, none⟩ = some (.slice fa p.ds.length fc) := by rw [hB.cell]; rfl
      have HV := Lib.hid hv
      have HKP := Lib.hid hkp
      clear hv hkp hB
      go_wp2_with fail
      refine (plainT p.path true _ H1.out).mono ?_
      rintro e w2 ⟨ok1, rfl, rfl, hok1⟩
      cases ok1 with
      | false =>
        clear hok1
        go_wp2
        go_ret
        exact ⟨false, rfl, HK1.out.trans' HKP.out, fun h => by cases h⟩
      | true =>
        have HO1 := Lib.hid (hok1 rfl)
        clear hok1
        go_wp2_with fail
        refine (plainT p.name false _ H2.out).mono ?_
        rintro e w3 ⟨ok2, rfl, rfl, hok2⟩
        cases ok2 with
        | false =>
          clear hok2
          go_wp2
          go_ret
          exact ⟨false, rfl, HK1.out.trans' HKP.out, fun h => by cases h⟩
        | true =>
          have HO2 := Lib.hid (hok2 rfl)
          clear hok2
          go_wp2_with fail
          refine (plainT p.mod false _ H3.out).mono ?_
          rintro e w4 ⟨ok3, rfl, rfl, hok3⟩
          cases ok3 with
          | false =>
            clear hok3
            go_wp2
            go_ret
            exact ⟨false, rfl, HK1.out.trans' HKP.out, fun h => by cases h⟩
          | true =>
            have HO3 := Lib.hid (hok3 rfl)
            clear hok3
            go_wp2
            go_ret
            exact ⟨decide ((p.ds.length : Int) ≤ 8), rfl, HK1.out.trans' HKP.out, fun h => ⟨HO1.out, HO2.out, HO3.out, by have := of_decide_eq_true h; omega, HV.out⟩⟩
theorem sliceSU : SliceT Tryd.prog 44 50 (.agg #[.int .u32 0, .int .u32 0, .int .u32 0, .int .u32 0, .int .u32 0]) 5 20 := ⟨Tryd.underlying44, by kernel_rfl, rfl, by decide⟩
theorem sliceSD : SliceT Tryd.prog 26 46 (.agg #[.string ⟨#[]⟩, .string ⟨#[]⟩, .slice none 0 0, .bool false]) 4 64 := ⟨Tryd.underlying26, by kernel_rfl, rfl, by decide⟩
theorem ut_one (u : Ut) : ∀ v ∈ u.cells, v.oneCell' = true := by
  intro v hv
  simp [Ut.cells] at hv
  rcases hv with rfl | rfl | rfl | rfl | rfl <;> rfl
theorem d_one (d : Dsc) (a : Option Addr) (n c : Nat) : ∀ v ∈ dcells d (.slice a n c), v.oneCell' = true := by
  intro v hv
  simp [dcells] at hv
  rcases hv with rfl | rfl | rfl | rfl <;> rfl
theorem cells_snoc {l : List Ut} {k : Nat} (h : k < l.length) : (l.take (k + 1)).flatMap Ut.cells = (l.take k).flatMap Ut.cells ++ l[k].cells := by
  rw [List.take_succ_eq_append_getElem h, List.flatMap_append]; simp
/-- On the way: how much has been copied. -/
structure PkI (w wr : World) (g2 g3 : Nat) (p : Pkg) (k : Nat) (fv : Value) (L : List (Dsc × Value)) : Prop where
  out : Blk wr g3 [.string p.path, .string p.name, .string p.mod, fv] 28
  res : Blk wr g2 [.string ⟨#[]⟩, .string ⟨#[]⟩, .string ⟨#[]⟩, .slice none 0 0] 28
  row : Row wr 46 4 fv L.length (L.flatMap dl4)
  same : L.map (·.1) = (p.ds.take k).map (·.1)
  rows : ∀ x ∈ L, Row wr 50 5 x.2 x.1.units.length (x.1.units.flatMap Ut.cells)
  keep : Keep Non w wr
  l2 : w.heap.size ≤ g2
  l3 : w.heap.size ≤ g3
  lf : ∀ b, fv.ownBlock = some b → w.heap.size ≤ b
  lu : ∀ x ∈ L, ∀ b, x.2.ownBlock = some b → w.heap.size ≤ b
theorem PkI.far {w wr w' : World} {g2 g3 : Nat} {p : Pkg} {k : Nat} {fv : Value} {L : List (Dsc × Value)} (h : PkI w wr g2 g3 p k fv L) {S : Nat → Prop} (kk : Keep S wr w') (hs : ∀ i, S i → wr.heap.size ≤ i) : PkI w w' g2 g3 p k fv L := by
  have hlt : ∀ i, i < wr.heap.size → ¬ S i := fun i hi e => by have := hs i e; omega
  refine ⟨h.out.keep kk (hlt _ h.out.lt), h.res.keep kk (hlt _ h.res.lt), h.row.keep kk (fun b hb => hlt _ (h.row.lt hb)), h.same, fun x hx => (h.rows x hx).keep kk (fun b hb => hlt _ ((h.rows x hx).lt hb)), h.keep.trans kk (fun i hi e => by have := hs i e; have := h.keep.size; omega), h.l2, h.l3, h.lf, h.lu⟩
theorem PkI.size {w wr : World} {g2 g3 : Nat} {p : Pkg} {k : Nat} {fv : Value} {L : List (Dsc × Value)} (h : PkI w wr g2 g3 p k fv L) (hk : k ≤ p.ds.length) : L.length = k := by
  have := congrArg List.length h.same
  simp at this
  omega
/-- Behind pack. -/
def PackPost (w : World) (p : Pkg) (e : Ending) (w' : World) : Prop :=
  ∃ fv L, e = .returned (.agg #[.string p.path, .string p.name, .string p.mod, fv]) ∧ DescR w' fv L ∧ L.map (·.1) = p.ds.map (·.1) ∧ Keep Non w w'
theorem pack_results (g : Nat) (a b c d : Value) {fn : Func} {t : Tmp} (h : fn.results = #[.cell t 28]) {tmps : Array Value} {W : World} (hb : Blk W g [a, b, c, d] 28) (ht : tmps[t]?.getD undef = .pointer (some ⟨g, 0, none⟩)) :
    (results fn tmps).run Tryd.prog W = .ok (.agg #[a, b, c, d]) W := by
  have hl := run_loadVar_mid (P := Tryd.prog) W g 0 28 [a, b, c, d] _ hb.rng Tryd.underlying28 rfl (by kernel_rfl)
  simp [results, h, ht, hl, asAddr]
/-- As 'fits', one more. -/
def Pkg.fitsW (p : Pkg) : Prop := p.ds.length ≤ 2147483648 ∧ ∀ x ∈ p.ds, x.1.fits
theorem Pkg.fits.w {p : Pkg} (h : p.fits) : p.fitsW := ⟨Nat.le_trans h.1 (by decide), h.2⟩
set_option maxRecDepth 100000 in
set_option maxHeartbeats 4000000 in
theorem packT (p : Pkg) (fv : Value) (w : World) (h : DescR w fv p.ds) (hf : p.fitsW) : Calls Tryd.prog 6 #[.agg #[.string p.path, .string p.name, .string p.mod, fv]] w (PackPost w p) := by
  obtain ⟨h1, h2⟩ := hf
  obtain ⟨fa, fc, rfl⟩ := h.reads.slice
  obtain ⟨W1, hW1⟩ : ∃ W1, W1 = ((w.alloc (.cells #[.string p.path, .string p.name, .string p.mod, .slice fa p.ds.length fc] 24)).alloc (.cells #[.string ⟨#[]⟩, .string ⟨#[]⟩, .string ⟨#[]⟩, .slice none 0 0] 28)).alloc (.cells #[.string p.path, .string p.name, .string p.mod, .slice none 0 0] 28) := ⟨_, rfl⟩
  have hI : PkI w W1 (w.heap.size + 1) (w.heap.size + 1 + 1) p 0 (.slice none 0 0) [] := by
    refine ⟨?_, ?_, Row.nil _ _ _, by simp, by simp, ?_, by omega, by omega, fun b hb => by simp [Value.ownBlock] at hb, by simp⟩
    · have := Blk.new ((w.alloc (.cells #[.string p.path, .string p.name, .string p.mod, .slice fa p.ds.length fc] 24)).alloc (.cells #[.string ⟨#[]⟩, .string ⟨#[]⟩, .string ⟨#[]⟩, .slice none 0 0] 28)) [.string p.path, .string p.name, .string p.mod, .slice none 0 0] 28
      rw [hW1]
      simpa using this
    · have := (Blk.new (w.alloc (.cells #[.string p.path, .string p.name, .string p.mod, .slice fa p.ds.length fc] 24)) [.string ⟨#[]⟩, .string ⟨#[]⟩, .string ⟨#[]⟩, .slice none 0 0] 28).alloc (.cells #[.string p.path, .string p.name, .string p.mod, .slice none 0 0] 28)
      rw [hW1]
      simpa using this
    · rw [hW1]; exact (((Keep.refl _ _).alloc _).alloc _).alloc _
  have HI := Lib.hid hI
  have HH := Lib.hid h
  have HW := Lib.hid h2
  clear h h2 hI
  go_enter Tryd.func6, Tryd.ntmps6
  go_wp2
  rw [← hW1]
  clear hW1
  obtain ⟨g2, hg2⟩ : ∃ g2, g2 = w.heap.size + 1 := ⟨_, rfl⟩
  obtain ⟨g3, hg3⟩ : ∃ g3, g3 = w.heap.size + 1 + 1 := ⟨_, rfl⟩
  rw [← hg3] at HI ⊢
  rw [← hg2] at HI ⊢
  have hg23 : g2 ≠ g3 := by omega
  have HG23 := Lib.hid hg23
  clear hg2 hg3 hg23
  go_loopw [19] (fun i wr => ∃ (k : Nat) (fv' : Value) (L : List (Dsc × Value)), k ≤ p.ds.length ∧ i = .int .i64 k ∧ PkI w wr g2 g3 p k fv' L) (fun i _ => p.ds.length - (intOf i).toNat)
  case atStart => exact ⟨0, _, [], by omega, rfl, HI.out⟩
  case round =>
    obtain ⟨k, fv', L, hk, rfl, hI⟩ := hrel
    obtain ⟨W0, rfl⟩ : ∃ W0, W0 = wr := ⟨_, rfl⟩
    by_cases hlt : k < p.ds.length
    · have hR := (HH.out.far hI.keep)
      obtain ⟨ba, off, ca', hva, hca⟩ := hR.reads.at (by omega) (by omega)
      cases hva
      obtain ⟨q0, q1, q2, q3⟩ := four_at hca hlt
      have hU := hR.units _ (List.getElem_mem hlt)
      have hfit := HW.out _ (List.getElem_mem hlt)
      have hsn : (p.ds.take (k + 1)).map (·.1) = (p.ds.take k).map (·.1) ++ [p.ds[k].1] := by rw [List.take_succ_eq_append_getElem hlt, List.map_append]; rfl
      have hls := hI.size hk
      have HLS := Lib.hid hls
      have HSN := Lib.hid hsn
      have HU := Lib.hid hU
      have HII := Lib.hid hI
      clear hca hR hI hU hsn hls
      generalize p.ds[k] = x at *
      obtain ⟨d, uv⟩ := x
      dsimp only at *
      obtain ⟨ua, uc, rfl⟩ := HU.out.slice
      have hul : d.units.length ≤ 2147483647 := hfit.2.2
      clear hfit
      obtain ⟨W2, hW2⟩ : ∃ W2, W2 = (W0.alloc (.cells #[.string d.name, .string d.file, .slice ua d.units.length uc, .bool d.lit] 40)).alloc (.cells #[.string d.name, .string d.file, .slice none 0 0, .bool d.lit] 46) := ⟨_, rfl⟩
      have hk2 : Keep Non W0 W2 := by rw [hW2]; exact ((Keep.refl _ _).alloc _).alloc _
      have hz2 : W2.heap.size = W0.heap.size + 1 + 1 := by rw [hW2]; simp
      have hd2 : Blk W2 (W0.heap.size + 1) [.string d.name, .string d.file, .slice none 0 0, .bool d.lit] 46 := by
        have := Blk.new (W0.alloc (.cells #[.string d.name, .string d.file, .slice ua d.units.length uc, .bool d.lit] 40)) [.string d.name, .string d.file, .slice none 0 0, .bool d.lit] 46
        rw [hW2]
        simpa using this
      have HK2 := Lib.hid hk2
      have HZ2 := Lib.hid hz2
      have HD2 := Lib.hid hd2
      clear hk2 hz2 hd2
      go_wp2_with fail
      rw [← hW2]
      clear hW2
      obtain ⟨gd, hgd⟩ : ∃ gd, gd = W0.heap.size + 1 := ⟨_, rfl⟩
      rw [← hgd] at HD2 ⊢
      have HGD := Lib.hid hgd
      clear hgd
      go_loopw [33] (fun i w2 => ∃ (j : Nat) (uv' : Value), j ≤ d.units.length ∧ i = .int .i64 j ∧ Blk w2 gd [.string d.name, .string d.file, uv', .bool d.lit] 46 ∧ Row w2 50 5 uv' j ((d.units.take j).flatMap Ut.cells) ∧ Keep (At gd) W2 w2 ∧ (∀ b, uv'.ownBlock = some b → W2.heap.size ≤ b)) (fun i _ => d.units.length - (intOf i).toNat)
      case atStart => exact ⟨0, _, by omega, rfl, HD2.out, Row.nil _ _ _, Keep.refl _ _, fun b hb => by simp [Value.ownBlock] at hb⟩
      case round =>
        obtain ⟨j, uv', hj, rfl, hbd, hrow, hkk, hnew⟩ := hrel
        by_cases hjl : j < d.units.length
        · have hu2 : Reads wr 5 (.slice ua d.units.length uc) d.units.length (d.units.flatMap Ut.cells) := (HU.out.keep HK2.out (fun _ _ h => h)).keep hkk (fun b hb e => by
            have a1 := HU.out.blk (by omega) (by decide) b hb
            have a2 := HGD.out
            have e : b = gd := e
            omega)
          obtain ⟨bb, offb, cb', hvb, hcb⟩ := hu2.at (by omega) (by omega)
          cases hvb
          obtain ⟨r0, r1, r2, r3, r4⟩ := five_at hcb hjl
          have hsn := cells_snoc hjl
          have HSN2 := Lib.hid hsn
          have HUT := Lib.hid (ut_one d.units[j])
          have c2 : wr.cell? ⟨gd, 2, none⟩ = some uv' := by rw [hbd.cell]; rfl
          have f2 := hbd.free 2
          have hgdl := hbd.lt
          have HBD := Lib.hid hbd
          have HROW := Lib.hid hrow
          have HKK := Lib.hid hkk
          have HNEW := Lib.hid hnew
          have hng : ∀ b, uv'.ownBlock = some b → b ≠ gd := fun b hb e => hrow.neBlk hbd (by decide) (by rw [hb, e])
          have HNG := Lib.hid hng
          clear hsn hcb hu2 hbd hrow hkk hnew hng
          have hcu : d.units[j].cells = [.int .u32 d.units[j].sl, .int .u32 d.units[j].sc, .int .u32 d.units[j].el, .int .u32 d.units[j].ec, .int .u32 d.units[j].ns] := rfl
          rw [hcu] at HSN2 HUT
          clear hcu
          generalize d.units[j] = u at *
          go_wp2_with (at_builtin; go_must (refine wpList_app (n := j) (m := 1) sliceSU rfl _ _ rfl rfl ((HROW.out.alloc _).alloc _) rfl (Reads.fiveAt (by simp)) HUT.out (by unfold maxLen; omega) (by omega) ?_); intro v1 w1 r1 g1 n1; have hb1 := ((HBD.out.alloc _).alloc _).keep g1.keep (fun e => HNG.out _ e rfl); have c3 : w1.cell? ⟨gd, 2, none⟩ = some uv' := (by rw [hb1.cell]; rfl); have f3 := hb1.free 2; have hl3 := hb1.lt; obtain ⟨va, vc, rfl⟩ := r1.reads.slice)
          go_roundw
          case measure => simp [intOf]; omega
          case rel =>
            have hz := HKK.out.size
            have hb2 := hb1.set 2 (.slice va (j + 1) vc)
            refine ⟨j + 1, _, by omega, by go_num, hb2, ?_, ?_, fun b hb => ?_⟩
            · rw [HSN2.out]
              refine r1.keep (Keep.one w1 gd 2 _) (fun b hb e => ?_)
              have e : b = gd := e
              exact r1.neBlk hb1 (by decide) (by rw [hb, e])
            · exact (((HKK.out.alloc _).alloc _).trans g1.keep (fun i hi e => by have := HNEW.out i e; omega)).setAt gd 2 _ rfl
            · rcases g1.lies hb with e | e
              · exact HNEW.out b e
              · simp at e; omega
        · obtain rfl : j = d.units.length := by omega
          rw [List.take_of_length_le (Nat.le_refl _)] at hrow
          have hKT : Keep (fun i => W0.heap.size ≤ i) W0 wr := (HK2.out.mono (fun _ _ h => h.elim)).trans hkk (fun i hi e => by have e : i = gd := e; have := HGD.out; omega)
          have hII := HII.out.far hKT (fun i h => h)
          obtain ⟨fva, fvc, rfl⟩ := hII.row.reads.slice
          obtain ⟨uva, uvc, rfl⟩ := hrow.reads.slice
          have c0 : wr.cell? ⟨gd, 0, none⟩ = some (.string d.name) := by rw [hbd.cell]; rfl
          have c1 : wr.cell? ⟨gd, 1, none⟩ = some (.string d.file) := by rw [hbd.cell]; rfl
          have c2 : wr.cell? ⟨gd, 2, none⟩ = some (.slice uva d.units.length uvc) := by rw [hbd.cell]; rfl
          have c3 : wr.cell? ⟨gd, 3, none⟩ = some (.bool d.lit) := by rw [hbd.cell]; rfl
          have e3 : wr.cell? ⟨g3, 3, none⟩ = some (.slice fva L.length fvc) := by rw [hII.out.cell]; rfl
          have HI2 := Lib.hid hII
          have HROW := Lib.hid hrow
          have HONE := Lib.hid (d_one d uva d.units.length uvc)
          have HNEW := Lib.hid hnew
          have hng : ∀ b, (Value.slice fva L.length fvc).ownBlock = some b → b ≠ g3 := fun b hb e => hII.row.neBlk hII.out (by decide) (by rw [hb, e])
          have HNG := Lib.hid hng
          clear hII hrow hbd hnew hng hkk hKT
          go_wp2_with (at_builtin; go_must (refine wpList_app (n := L.length) (m := 1) sliceSD rfl _ _ rfl rfl (HI2.out.row.alloc _) rfl (Reads.fourAt (by simp)) HONE.out (by have := HLS.out; unfold maxLen; omega) (by have := HLS.out; omega) ?_); intro v1 w1 r1 g1 n1; have hb1 := (HI2.out.out.alloc _).keep g1.keep (fun e => HNG.out _ e rfl); have e4 : w1.cell? ⟨g3, 3, none⟩ = some (.slice fva L.length fvc) := (by rw [hb1.cell]; rfl); have f3 := hb1.free 3; have hl3 := hb1.lt; obtain ⟨va, vc, rfl⟩ := r1.reads.slice)
          go_roundw
          case measure => simp [intOf]; omega
          case rel =>
            have hz := HI2.out.keep.size
            have hzr := HI2.out.row
            have k1 := Keep.one w1 g3 3 (.slice va (L.length + 1) vc)
            refine ⟨k + 1, .slice va (L.length + 1) vc, L ++ [(d, .slice uva d.units.length uvc)], by omega, by go_num, ?_, ?_, ?_, ?_, ?_, ?_, HI2.out.l2, HI2.out.l3, fun b hb => ?_, ?_⟩
            · exact hb1.set 3 (.slice va (L.length + 1) vc)
            · exact ((HI2.out.res.alloc _).keep g1.keep (fun e => HI2.out.row.neBlk HI2.out.res (by decide) e)).keep k1 (fun e => HG23.out e)
            · have := r1.keep k1 (fun b hb e => r1.neBlk hb1 (by decide) (by rw [hb]; exact congrArg some e))
              simpa [dl4, dcells] using this
            · rw [List.map_append, HI2.out.same, HSN.out]; rfl
            · intro x hx
              have key : Row wr 50 5 x.2 x.1.units.length (x.1.units.flatMap Ut.cells) := by
                rcases List.mem_append.1 hx with hx | hx
                · exact HI2.out.rows x hx
                · simp at hx; subst hx; exact HROW.out
              have k2 := (key.alloc (.cells #[.string d.name, .string d.file, .slice uva d.units.length uvc, .bool d.lit] 46)).keep g1.keep (fun b hb e => key.ne hzr (by decide) hb e)
              exact k2.keep k1 (fun b hb e => k2.neBlk hb1 (by decide) (by rw [hb]; exact congrArg some e))
            · exact ((HI2.out.keep.alloc _).trans g1.keep (fun i hi e => by have := HI2.out.lf i e; omega)).setNew HI2.out.l3 3 _
            · rcases g1.lies hb with e | e
              · exact HI2.out.lf b e
              · simp at e; omega
            · intro x hx b hb
              rcases List.mem_append.1 hx with hx | hx
              · exact HI2.out.lu x hx b hb
              · simp at hx; subst hx
                have a1 := HNEW.out b hb
                have a2 := HZ2.out
                have a3 := HII.out.keep.size
                omega
    · obtain rfl : k = p.ds.length := by omega
      obtain ⟨fva, fvc, rfl⟩ := hI.row.reads.slice
      have hls := hI.size (Nat.le_refl _)
      have e0 : W0.cell? ⟨g3, 0, none⟩ = some (.string p.path) := by rw [hI.out.cell]; rfl
      have e1 : W0.cell? ⟨g3, 1, none⟩ = some (.string p.name) := by rw [hI.out.cell]; rfl
      have e2 : W0.cell? ⟨g3, 2, none⟩ = some (.string p.mod) := by rw [hI.out.cell]; rfl
      have e3 : W0.cell? ⟨g3, 3, none⟩ = some (.slice fva L.length fvc) := by rw [hI.out.cell]; rfl
      have c0 : W0.cell? ⟨g2, 0, none⟩ = some (.string ⟨#[]⟩) := by rw [hI.res.cell]; rfl
      have c1 : W0.cell? ⟨g2, 1, none⟩ = some (.string ⟨#[]⟩) := by rw [hI.res.cell]; rfl
      have c2 : W0.cell? ⟨g2, 2, none⟩ = some (.string ⟨#[]⟩) := by rw [hI.res.cell]; rfl
      have c3 : W0.cell? ⟨g2, 3, none⟩ = some (.slice none 0 0) := by rw [hI.res.cell]; rfl
      have f0 := hI.res.free 0
      have f1 := hI.res.free 1
      have f2 := hI.res.free 2
      have f3 := hI.res.free 3
      have hl2 := hI.res.lt
      have HI2 := Lib.hid hI
      have HLS := Lib.hid hls
      clear hI hls
      go_wp2
      have hb := (((HI2.out.res.set 0 (.string p.path)).set 1 (.string p.name)).set 2 (.string p.mod)).set 3 (.slice fva L.length fvc)
      refine bodyPost_ret (pack_results g2 _ _ _ _ rfl hb rfl) rfl ?_
      have K : Keep (At g2) W0 ((((W0.setCell ⟨g2, 0, none⟩ (.string p.path)).setCell ⟨g2, 1, none⟩ (.string p.name)).setCell ⟨g2, 2, none⟩ (.string p.mod)).setCell ⟨g2, 3, none⟩ (.slice fva L.length fvc)) := ((((Keep.refl _ _).setAt _ _ _ (atSelf _)).setAt _ _ _ (atSelf _)).setAt _ _ _ (atSelf _)).setAt _ _ _ (atSelf _)
      have hres := HI2.out.res
      refine ⟨_, L, rfl, ⟨HI2.out.row.reads.keep K (fun b hb e => HI2.out.row.neBlk hres (by decide) (by rw [hb]; exact congrArg some e)), fun x hx => (HI2.out.rows x hx).reads.keep K (fun b hb e => (HI2.out.rows x hx).neBlk hres (by decide) (by rw [hb]; exact congrArg some e))⟩, ?_, HI2.out.keep.trans K (fun i hi e => by have := HI2.out.l2; have e : i = g2 := e; omega)⟩
      have := HI2.out.same
      rwa [List.take_of_length_le (Nat.le_refl _)] at this
end Go.Proofs.YtbmidlaakbpnlaaDoor
