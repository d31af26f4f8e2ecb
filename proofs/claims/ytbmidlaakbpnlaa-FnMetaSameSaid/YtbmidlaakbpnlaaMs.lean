/-
  THE LAW FnMetaSame, of a package that reads as descriptions; how it is opened.
-/
import Derived.Test.YtbmidlaakbpnlaaMe11
import Derived.Lib.SmallJoins
namespace Go.Proofs.Ytbmidlaakbpnlaa
open Go.RowKit
open Go.Joins Go.ChangeShapes Go.WideShapes Go.ChangeAt Go.Deep
open Plain (M64)

section
variable {H : Type} {enc : TypeId × Value → H} {P : Program} {w : World} {base : Nat} {spare : Nat → Bool} {held : Bool}
theorem pkg_open {t : TypeId} {f0 f1 f2 f3 : Field} {r : Reach} {b0 : Nat} {v : Value} {d : DataW H} {ps : List MemPlace} (hs : P.underlying t = some (.struct #[f0, f1, f2, f3])) (hone : oneCellFields P #[f0, f1, f2, f3] = true) (hC : P.cellsOf t = 4)
    (h0 : P.underlying f0.type = some .string) (h1 : P.underlying f1.type = some .string) (h2 : P.underlying f2.type = some .string) (T : DTypes P f3.type) (hv : Value.okWide P w r b0 t v) (h : DataW.Trod enc P w base spare held t v d ps) :
    ∃ (p : Pkg) (fv : Value), v = .agg #[.string p.path, .string p.name, .string p.mod, fv] ∧ DescR w fv p.ds ∧ p.wide := by
  obtain ⟨c0, c1, c2, c3, y0, y1, y2, y3, n, rfl, _, _, t0, t1, t2, t3⟩ := open_agg4 hs hone hC hv h
  obtain ⟨s0, e0, _, z0⟩ := DataW.trod_string h0 t0
  obtain ⟨s1, e1, _, z1⟩ := DataW.trod_string h1 t1
  obtain ⟨s2, e2, _, z2⟩ := DataW.trod_string h2 t2
  simp only [List.cons.injEq, and_true] at e0 e1 e2
  subst e0; subst e1; subst e2
  have T' := T
  obtain ⟨e, eu, s, b, tu, _, _, _, _, _, _, _, _, _, ht, _⟩ := T.und
  obtain ⟨a, l, c, rfl, t3'⟩ := slice_cell ht t3
  obtain ⟨L, hL, hd, hw, hm⟩ := descs_open T' t3'
  subst hL
  exact ⟨⟨s0, s1, s2, L⟩, _, rfl, hd, z0, z1, z2, hm, hw⟩
end
theorem descT : DTypes Try.prog 35 := ⟨⟨_, _, _, _, _, _, _, _, _, _, _, _, _, _, Try.underlying35, Try.underlying75, by kernel_rfl, by kernel_rfl, rfl, rfl, rfl, rfl, Try.underlying9, Try.underlying4, Try.underlying73, Try.underlying77, by kernel_rfl, by kernel_rfl, Try.underlying27, Try.underlying27, Try.underlying27, Try.underlying27, Try.underlying27⟩⟩
set_option maxRecDepth 100000 in
theorem pkgOpenT {H : Type} {enc : TypeId × Value → H} {w : World} {base : Nat} {v : Value} {d : DataW H} {ps : List MemPlace} (hv : Value.okWide Try.prog w .any base 37 v) (h : DataW.Trod enc Try.prog w 0 (fun _ => true) true 37 v d ps) :
    ∃ (p : Pkg) (fv : Value), v = .agg #[.string p.path, .string p.name, .string p.mod, fv] ∧ DescR w fv p.ds ∧ p.wide :=
  pkg_open (P := Try.prog) Try.underlying37 (by kernel_rfl) (by kernel_rfl) Try.underlying9 Try.underlying9 Try.underlying9 descT hv h
/-- Behind pack: the same. -/
theorem Pkg.again {p : Pkg} {L : List (Dsc × Value)} (h : L.map (·.1) = p.ds.map (·.1)) (hw : p.wide) : Pkg.wide ⟨p.path, p.name, p.mod, L⟩ ∧ (Pkg.good ⟨p.path, p.name, p.mod, L⟩ → p.good) := by
  have hl : L.length = p.ds.length := by simpa using congrArg List.length h
  obtain ⟨h1, h2, h3, h4, h5⟩ := hw
  refine ⟨⟨h1, h2, h3, by simp only; omega, fun x hx => ?_⟩, fun hg => ?_⟩
  · have : x.1 ∈ p.ds.map (·.1) := by rw [← h]; exact List.mem_map_of_mem hx
    obtain ⟨y, hy, e⟩ := List.mem_map.1 this
    rw [← e]; exact h5 y hy
  · obtain ⟨g1, g2, g3, g4, g5⟩ := hg
    refine ⟨g1, g2, g3, by simp only at g4; omega, fun x hx => ?_⟩
    have : x.1 ∈ L.map (·.1) := by rw [h]; exact List.mem_map_of_mem hx
    obtain ⟨y, hy, e⟩ := List.mem_map.1 this
    rw [← e]; exact g5 y hy
set_option maxRecDepth 100000 in
set_option maxHeartbeats 4000000 in
theorem metasame_law (p : Pkg) (fv : Value) (w : World) (h : DescR w fv p.ds) (hw : p.wide) :
    Calls Try.prog 6 #[.agg #[.string p.path, .string p.name, .string p.mod, fv]] w fun e w' => e = .returned (.bool true) ∧ Below w.heap.size w w' := by
  obtain ⟨fa, fc, rfl⟩ := h.reads.slice
  obtain ⟨W1, hW1⟩ : ∃ W1, W1 = w.alloc (.cells #[.string p.path, .string p.name, .string p.mod, .slice fa p.ds.length fc] 37) := ⟨_, rfl⟩
  have hk1 : Keep Non w W1 := by rw [hW1]; exact (Keep.refl _ _).alloc _
  have hz1 : W1.heap.size = w.heap.size + 1 := by rw [hW1]; simp
  have hb1 : Blk W1 w.heap.size [.string p.path, .string p.name, .string p.mod, .slice fa p.ds.length fc] 37 := by rw [hW1]; exact Blk.new w [.string p.path, .string p.name, .string p.mod, .slice fa p.ds.length fc] _
  have hlt1 : w.heap.size < W1.heap.size := by omega
  have HK1 := Lib.hid hk1
  have HB1 := Lib.hid hb1
  have HZ1 := Lib.hid hz1
  have HH := Lib.hid h
  have HW := Lib.hid hw
  clear h hk1 hz1 hb1 hw
  go_enter Try.func6, Try.ntmps6
  go_wp2_with fail
  rw [← hW1]
  clear hW1
  refine (fits8 p _ W1 (HH.out.far HK1.out) HW.out).mono ?_
  rintro e w2 ⟨ok1, rfl, k2, hok1⟩
  have HK2 := Lib.hid (HK1.out.trans' k2)
  have HB2 := Lib.hid (HB1.out.keep k2 (fun h => h))
  cases ok1 with
  | false =>
    clear hok1 k2
    go_wp2
    go_ret
    exact ⟨rfl, HK2.out.below (Nat.le_refl _) (fun _ _ h => h.elim)⟩
  | true =>
    have HF := Lib.hid (hok1 rfl)
    have x0 : w2.cell? ⟨w.heap.size, 0, none⟩ = some (.string p.path) := by rw [HB2.out.cell]; rfl
    have x1 : w2.cell? ⟨w.heap.size, 1, none⟩ = some (.string p.name) := by rw [HB2.out.cell]; rfl
    have x2 : w2.cell? ⟨w.heap.size, 2, none⟩ = some (.string p.mod) := by rw [HB2.out.cell]; rfl
    have x3 : w2.cell? ⟨w.heap.size, 3, none⟩ = some (.slice fa p.ds.length fc) := by rw [HB2.out.cell]; rfl
    clear hok1 k2
    go_wp2_with fail
    refine (packT p _ w2 (HH.out.far HK2.out) HF.out).mono ?_
    rintro e w3 ⟨fv3, L3, rfl, d3, m3, k3⟩
    have HK3 := Lib.hid (HK2.out.trans' k3)
    have HB3 := Lib.hid (HB2.out.keep k3 (fun h => h))
    have HD3 := Lib.hid d3
    have HM3 := Lib.hid (Pkg.again m3 HW.out)
    clear d3 m3 k3 x0 x1 x2 x3
    go_wp2_with fail
    refine (goodT ⟨p.path, p.name, p.mod, L3⟩ fv3 w3 HD3.out HM3.out.1).mono ?_
    rintro e w4 ⟨ok2, rfl, k4, hok2⟩
    have HK4 := Lib.hid (HK3.out.trans' k4)
    have HB4 := Lib.hid (HB3.out.keep k4 (fun h => h))
    cases ok2 with
    | false =>
      clear hok2 k4
      go_wp2
      go_ret
      exact ⟨rfl, HK4.out.below (Nat.le_refl _) (fun _ _ h => h.elim)⟩
    | true =>
      have HG := Lib.hid (HM3.out.2 (hok2 rfl))
      have x0 : w4.cell? ⟨w.heap.size, 0, none⟩ = some (.string p.path) := by rw [HB4.out.cell]; rfl
      have x1 : w4.cell? ⟨w.heap.size, 1, none⟩ = some (.string p.name) := by rw [HB4.out.cell]; rfl
      have x2 : w4.cell? ⟨w.heap.size, 2, none⟩ = some (.string p.mod) := by rw [HB4.out.cell]; rfl
      have x3 : w4.cell? ⟨w.heap.size, 3, none⟩ = some (.slice fa p.ds.length fc) := by rw [HB4.out.cell]; rfl
      clear hok2 k4
      go_wp2_with fail
      refine (metaT p _ w4 (HH.out.far HK4.out) HG.out HW.out).mono ?_
      rintro e w5 ⟨v5, tv5, rfl, r5, _, k5, _, _⟩
      have hpos : 0 < mtotal (p.ms p.ds.length) := by simp only [mtotal, mbase]; omega
      have HK5 := Lib.hid (HK4.out.trans' k5)
      have HB5 := Lib.hid (HB4.out.keep k5 (fun h => h))
      obtain ⟨ga, gc, rfl⟩ := r5.at hpos
      have R5 := Lib.hid r5.reads
      have HGA : Hid (ga ≠ w.heap.size) := Lib.hid (fun e => r5.neBlk HB5.out (by decide) (congrArg some e))
      have y0 : w5.cell? ⟨w.heap.size, 0, none⟩ = some (.string p.path) := by rw [HB5.out.cell]; rfl
      have y1 : w5.cell? ⟨w.heap.size, 1, none⟩ = some (.string p.name) := by rw [HB5.out.cell]; rfl
      have y2 : w5.cell? ⟨w.heap.size, 2, none⟩ = some (.string p.mod) := by rw [HB5.out.cell]; rfl
      have y3 : w5.cell? ⟨w.heap.size, 3, none⟩ = some (.slice fa p.ds.length fc) := by rw [HB5.out.cell]; rfl
      clear k5 r5 x0 x1 x2 x3
      go_wp2_with fail
      refine (metaT p _ w5 (HH.out.far HK5.out) HG.out HW.out).mono ?_
      rintro e w6 ⟨v6, tv6, rfl, r6, _, k6, _, _⟩
      have HK6 := Lib.hid (HK5.out.trans' k6)
      have HB6 := Lib.hid (HB5.out.keep k6 (fun h => h))
      obtain ⟨gb, gd, rfl⟩ := r6.at hpos
      have R6 := Lib.hid r6.reads
      have R56 := Lib.hid (R5.out.keep k6 (fun _ _ h => h))
      have z0 : w6.cell? ⟨w.heap.size, 0, none⟩ = some (.string p.path) := by rw [HB6.out.cell]; rfl
      have z1 : w6.cell? ⟨w.heap.size, 1, none⟩ = some (.string p.name) := by rw [HB6.out.cell]; rfl
      have z2 : w6.cell? ⟨w.heap.size, 2, none⟩ = some (.string p.mod) := by rw [HB6.out.cell]; rfl
      have z3 : w6.cell? ⟨w.heap.size, 3, none⟩ = some (.slice fa p.ds.length fc) := by rw [HB6.out.cell]; rfl
      have f0 := HB6.out.free 0
      have hl6 := HB6.out.lt
      have HGB : Hid (gb ≠ w.heap.size) := Lib.hid (fun e => r6.neBlk HB6.out (by decide) (congrArg some e))
      clear k6 r6 y0 y1 y2 y3
      go_wp2_with fail
      refine (metaNo p.name p.mod _ fa p.ds.length fc rfl _).mono ?_
      rintro e w7 ⟨rfl, k7⟩
      have ko := Keep.one w6 w.heap.size 0 (.string emp)
      have hA := (R56.out.keep ko (fun b hb e => HGA.out (by
        simp [Value.ownBlock] at hb
        have e : b = w.heap.size := e
        omega))).keep k7 (fun _ _ h => h)
      have hB := (R6.out.keep ko (fun b hb e => HGB.out (by
        simp [Value.ownBlock] at hb
        have e : b = w.heap.size := e
        omega))).keep k7 (fun _ _ h => h)
      have hK7 : Keep (fun i => w.heap.size ≤ i) w w7 := ((HK6.out.mono (fun _ _ h => h.elim)).trans' (Keep.setAt (Keep.refl _ _) w.heap.size 0 (.string emp) (Nat.le_refl _))).trans k7 (fun _ _ h => h.elim)
      have HK7 := Lib.hid hK7
      obtain ⟨l, hl⟩ : ∃ l, l = mbytes (p.ms p.ds.length) (mtotal (p.ms p.ds.length)) p.P p.N p.M := ⟨_, rfl⟩
      rw [← hl] at hA hB
      generalize mtotal (p.ms p.ds.length) = T at *
      have c1 := run_toString (P := Try.prog) Try.underlying28 Try.underlying5 Try.underlying9 hA
      have c2 := run_toString (P := Try.prog) Try.underlying28 Try.underlying5 Try.underlying9 hB
      clear hl hA hB hK7 k7 ko R5 R6 R56 HB6 z0 z1 z2 z3 f0 hl6
      go_wp2
      go_ret
      exact ⟨rfl, HK7.out.below (Nat.le_refl _) (fun _ _ h => h)⟩
end Go.Proofs.Ytbmidlaakbpnlaa
