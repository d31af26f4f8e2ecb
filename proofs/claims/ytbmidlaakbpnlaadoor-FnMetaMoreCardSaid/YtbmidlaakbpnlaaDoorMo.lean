/-
  HOW a package that comes in is opened.
-/
import Derived.Test.YtbmidlaakbpnlaaDoorMe11
import Derived.Lib.SmallJoins
namespace Go.Proofs.YtbmidlaakbpnlaaDoor
open Go.RowKit
open Go.Joins Go.ChangeShapes Go.WideShapes Go.ChangeAt Go.Deep
open Plain (M64)

section
variable {H : Type} {enc : TypeId × Value → H} {P : Program} {w : World} {base : Nat} {spare : Nat → Bool} {held : Bool}
theorem pkg_open {t : TypeId} {f0 f1 f2 f3 : Field} {r : Reach} {b0 : Nat} {v : Value} {d : DataW H} {ps : List MemPlace} (hs : P.underlying t = some (.struct #[f0, f1, f2, f3])) (hone : oneCellFields P #[f0, f1, f2, f3] = true) (hC : P.cellsOf t = 4)
    (h0 : P.underlying f0.type = some .string) (h1 : P.underlying f1.type = some .string) (h2 : P.underlying f2.type = some .string) (T : DTypes P f3.type) (hv : Value.okWide P w r b0 t v) (h : DataW.Trod enc P w base spare held t v d ps) :
    ∃ (p : Pkg) (fv : Value), v = .agg #[.string p.path, .string p.name, .string p.mod, fv] ∧ DescR w fv p.ds ∧ p.wide := by
  obtain ⟨c0, c1, c2, c3, y0, y1, y2, y3, n, rfl, _, _, t0, t1, t2, t3⟩ := open_agg4 hs hone hC hv h
  obtain ⟨s0, e0, _, z0⟩ := DataW.trod_string h0 t0
  obtain ⟨s1, e1, _, z1⟩ := DataW.trod_string h1 t1
  obtain ⟨s2, e2, _, z2⟩ := DataW.trod_string h2 t2
  simp only [List.cons.injEq, and_true] at e0 e1 e2
  subst e0; subst e1; subst e2
  have T' := T
  obtain ⟨e, eu, s, b, tu, _, _, _, _, _, _, _, _, _, ht, _⟩ := T.und
  obtain ⟨a, l, c, rfl, t3'⟩ := slice_cell ht t3
  obtain ⟨L, hL, hd, hw, hm⟩ := descs_open T' t3'
  subst hL
  exact ⟨⟨s0, s1, s2, L⟩, _, rfl, hd, z0, z1, z2, hm, hw⟩
end
theorem descT : DTypes Tryd.prog 22 := ⟨⟨_, _, _, _, _, _, _, _, _, _, _, _, _, _, Tryd.underlying22, Tryd.underlying40, by kernel_rfl, by kernel_rfl, rfl, rfl, rfl, rfl, Tryd.underlying9, Tryd.underlying4, Tryd.underlying38, Tryd.underlying49, by kernel_rfl, by kernel_rfl, Tryd.underlying47, Tryd.underlying47, Tryd.underlying47, Tryd.underlying47, Tryd.underlying47⟩⟩
set_option maxRecDepth 100000 in
theorem pkgOpenT {H : Type} {enc : TypeId × Value → H} {w : World} {base : Nat} {v : Value} {d : DataW H} {ps : List MemPlace} (hv : Value.okWide Tryd.prog w .any base 24 v) (h : DataW.Trod enc Tryd.prog w 0 (fun _ => true) true 24 v d ps) :
    ∃ (p : Pkg) (fv : Value), v = .agg #[.string p.path, .string p.name, .string p.mod, fv] ∧ DescR w fv p.ds ∧ p.wide :=
  pkg_open (P := Tryd.prog) Tryd.underlying24 (by kernel_rfl) (by kernel_rfl) Tryd.underlying9 Tryd.underlying9 Tryd.underlying9 descT hv h
/-- Behind pack: the same. -/
theorem Pkg.again {p : Pkg} {L : List (Dsc × Value)} (h : L.map (·.1) = p.ds.map (·.1)) (hw : p.wide) : Pkg.wide ⟨p.path, p.name, p.mod, L⟩ ∧ (Pkg.good ⟨p.path, p.name, p.mod, L⟩ → p.good) := by
  have hl : L.length = p.ds.length := by simpa using congrArg List.length h
  obtain ⟨h1, h2, h3, h4, h5⟩ := hw
  refine ⟨⟨h1, h2, h3, by simp only; omega, fun x hx => ?_⟩, fun hg => ?_⟩
  · have : x.1 ∈ p.ds.map (·.1) := by rw [← h]; exact List.mem_map_of_mem hx
    obtain ⟨y, hy, e⟩ := List.mem_map.1 this
    rw [← e]; exact h5 y hy
  · obtain ⟨g1, g2, g3, g4, g5⟩ := hg
    refine ⟨g1, g2, g3, by simp only at g4; omega, fun x hx => ?_⟩
    have : x.1 ∈ L.map (·.1) := by rw [h]; exact List.mem_map_of_mem hx
    obtain ⟨y, hy, e⟩ := List.mem_map.1 this
    rw [← e]; exact g5 y hy
end Go.Proofs.YtbmidlaakbpnlaaDoor
