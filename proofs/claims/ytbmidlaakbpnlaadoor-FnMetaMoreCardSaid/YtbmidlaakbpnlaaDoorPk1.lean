/-
  HOW ARGUMENTS ARE OPENED: packages: a struct with a slice of structs, each with a slice of structs of numbers.
-/
import Derived.Test.YtbmidlaakbpnlaaDoorMe2
import Derived.Test.YtbmidlaakbpnlaaDoorOpenS
namespace Go.Proofs.YtbmidlaakbpnlaaDoor
open Go.RowKit
open Go.ChangeShapes Go.WideShapes Go.ChangeAt Go.Deep
open Plain (M64)

/-- A description's cells, its pieces' slice beside it. -/
def dl4 (x : Dsc × Value) : List Value := dcells x.1 x.2
theorem dl4_length (x : Dsc × Value) : (dl4 x).length = 4 := rfl
theorem cells_flat_len (l : List Ut) : (l.flatMap Ut.cells).length = l.length * 5 := flat_length (fun s => s.cells_len) l
/-- A slice of descriptions. -/
structure DescR (w : World) (v : Value) (L : List (Dsc × Value)) : Prop where
  reads : Reads w 4 v L.length (L.flatMap dl4)
  units : ∀ x ∈ L, Reads w 5 x.2 x.1.units.length (x.1.units.flatMap Ut.cells)
/-- What of a description is known as it comes in. -/
def Dsc.wide (d : Dsc) : Prop := (∀ u ∈ d.units, u.fit) ∧ d.name.size ≤ maxLen ∧ d.file.size ≤ maxLen ∧ d.units.length ≤ maxLen
theorem DescR.keep {S : Nat → Prop} {w w' : World} {v : Value} {L : List (Dsc × Value)} (h : DescR w v L) (k : Keep S w w') (hv : ∀ b, v.ownBlock = some b → ¬ S b) (hu : ∀ x ∈ L, ∀ b, x.2.ownBlock = some b → ¬ S b) : DescR w' v L :=
  ⟨h.reads.keep k hv, fun x hx => (h.units x hx).keep k (hu x hx)⟩
theorem DescR.far {w w' : World} {v : Value} {L : List (Dsc × Value)} (h : DescR w v L) (k : Keep Non w w') : DescR w' v L := h.keep k (fun _ _ h => h) (fun _ _ _ _ h => h)
/-- A function's cells. -/
theorem four_at {w : World} {b off : Nat} {L : List (Dsc × Value)} (h : ∀ j u, (L.flatMap dl4)[j]? = some u → w.cell? ⟨b, off + j, none⟩ = some u) {k : Nat} (hk : k < L.length) :
    w.cell? ⟨b, off + k * 4, none⟩ = some (.string L[k].1.name) ∧ w.cell? ⟨b, off + k * 4 + 1, none⟩ = some (.string L[k].1.file) ∧ w.cell? ⟨b, off + k * 4 + 2, none⟩ = some L[k].2 ∧ w.cell? ⟨b, off + k * 4 + 3, none⟩ = some (.bool L[k].1.lit) := by
  simp only [Nat.add_assoc]
  refine ⟨h (k * 4) _ ?_, h (k * 4 + 1) _ ?_, h (k * 4 + 2) _ ?_, h (k * 4 + 3) _ ?_⟩
  · have := flat_get dl4_length L k 0 hk (by decide)
    rw [Nat.add_zero] at this
    rw [this]; rfl
  · rw [flat_get dl4_length L k 1 hk (by decide)]; rfl
  · rw [flat_get dl4_length L k 2 hk (by decide)]; rfl
  · rw [flat_get dl4_length L k 3 hk (by decide)]; rfl
/-- A piece's cells. -/
theorem five_at {w : World} {b off : Nat} {l : List Ut} (h : ∀ j u, (l.flatMap Ut.cells)[j]? = some u → w.cell? ⟨b, off + j, none⟩ = some u) {k : Nat} (hk : k < l.length) :
    w.cell? ⟨b, off + k * 5, none⟩ = some (.int .u32 l[k].sl) ∧ w.cell? ⟨b, off + k * 5 + 1, none⟩ = some (.int .u32 l[k].sc) ∧ w.cell? ⟨b, off + k * 5 + 2, none⟩ = some (.int .u32 l[k].el) ∧ w.cell? ⟨b, off + k * 5 + 3, none⟩ = some (.int .u32 l[k].ec) ∧ w.cell? ⟨b, off + k * 5 + 4, none⟩ = some (.int .u32 l[k].ns) := by
  simp only [Nat.add_assoc]
  refine ⟨h (k * 5) _ ?_, h (k * 5 + 1) _ ?_, h (k * 5 + 2) _ ?_, h (k * 5 + 3) _ ?_, h (k * 5 + 4) _ ?_⟩
  · have := flat_get (f := Ut.cells) (fun s => s.cells_len) l k 0 hk (by decide)
    rw [Nat.add_zero] at this
    rw [this]; rfl
  · rw [flat_get (f := Ut.cells) (fun s => s.cells_len) l k 1 hk (by decide)]; rfl
  · rw [flat_get (f := Ut.cells) (fun s => s.cells_len) l k 2 hk (by decide)]; rfl
  · rw [flat_get (f := Ut.cells) (fun s => s.cells_len) l k 3 hk (by decide)]; rfl
  · rw [flat_get (f := Ut.cells) (fun s => s.cells_len) l k 4 hk (by decide)]; rfl
section
variable {H : Type} {enc : TypeId × Value → H} {P : Program} {w : World} {base : Nat} {spare : Nat → Bool} {held : Bool}
/-- A slice's one cell. -/
theorem slice_cell {t e : TypeId} {n : Nat} {v : Value} {y : DataW H × List MemPlace} (ht : P.underlying t = some (.slice e)) (h : DataW.trod enc P w base spare held n t [v] = some y) : ∃ a l c, v = .slice a l c ∧ DataW.Trod enc P w base spare held t (.slice a l c) y.1 y.2 := by
  have h' := h
  rcases open_slice ht h with ⟨h0, _⟩ | ⟨ad, l, c, m, k, D, Pl, hcs, _⟩
  · simp only [List.cons.injEq, and_true] at h0
    subst h0
    exact ⟨none, 0, 0, rfl, n, h'⟩
  · simp only [List.cons.injEq, and_true] at hcs
    subst hcs
    exact ⟨some ad, l, c, rfl, n, h'⟩
theorem slice_len {t e : TypeId} {a : Option Addr} {len cap : Nat} {d : DataW H} {ps : List MemPlace} (ht : P.underlying t = some (.slice e)) (h : DataW.Trod enc P w base spare held t (.slice a len cap) d ps) : len ≤ maxLen := by
  obtain ⟨fuel, hf⟩ := h
  rcases open_slice ht hf with ⟨h0, _⟩ | ⟨ad, l, c, m, k, D, Pl, hcs, _, hl, hm, _⟩
  · simp [Value.cells] at h0
    omega
  · simp [Value.cells] at hcs
    omega
/-- Numbers of 32 bits that came in. -/
theorem u32_cell {t : TypeId} {n : Nat} {v : Value} {y : DataW H × List MemPlace} (ht : P.underlying t = some (.int .u32)) (h : DataW.trod enc P w base spare held n t [v] = some y) : ∃ x : Nat, v = .int .u32 x ∧ x < 4294967296 := by
  obtain ⟨x, e, _, hw⟩ := DataW.trod_int ht h
  simp only [List.cons.injEq, and_true] at e
  subst e
  have hb := bounds_u32 hw
  exact ⟨x.toNat, by rw [Int.toNat_of_nonneg hb.1], by omega⟩
theorem units_open {t e : TypeId} {f0 f1 f2 f3 f4 : Field} {a : Option Addr} {len cap : Nat} {d : DataW H} {ps : List MemPlace} (ht : P.underlying t = some (.slice e)) (he : P.underlying e = some (.struct #[f0, f1, f2, f3, f4])) (hone : oneCellFields P #[f0, f1, f2, f3, f4] = true) (hC : P.cellsOf e = 5)
    (hf0 : P.underlying f0.type = some (.int .u32)) (hf1 : P.underlying f1.type = some (.int .u32)) (hf2 : P.underlying f2.type = some (.int .u32)) (hf3 : P.underlying f3.type = some (.int .u32)) (hf4 : P.underlying f4.type = some (.int .u32))
    (h : DataW.Trod enc P w base spare held t (.slice a len cap) d ps) : ∃ l : List Ut, l.length = len ∧ Reads w 5 (.slice a len cap) len (l.flatMap Ut.cells) ∧ ∀ u ∈ l, u.fit := by
  refine reads_of (G := Ut.fit) (fun s => s.cells_len) (by decide) ?_
  rcases structs_open ht he hone hC h with h | ⟨ad, rfl, _, _, hc⟩
  · exact .inl h
  · refine .inr ⟨ad, rfl, fun i hil => ?_⟩
    obtain ⟨cs, hl, hcell, hf⟩ := hc i hil
    obtain ⟨v0, y0, n0, c0, r0⟩ := hf 0 f0 rfl
    obtain ⟨v1, y1, n1, c1, r1⟩ := hf 1 f1 rfl
    obtain ⟨v2, y2, n2, c2, r2⟩ := hf 2 f2 rfl
    obtain ⟨v3, y3, n3, c3, r3⟩ := hf 3 f3 rfl
    obtain ⟨v4, y4, n4, c4, r4⟩ := hf 4 f4 rfl
    obtain ⟨x0, rfl, w0⟩ := u32_cell hf0 r0
    obtain ⟨x1, rfl, w1⟩ := u32_cell hf1 r1
    obtain ⟨x2, rfl, w2⟩ := u32_cell hf2 r2
    obtain ⟨x3, rfl, w3⟩ := u32_cell hf3 r3
    obtain ⟨x4, rfl, w4⟩ := u32_cell hf4 r4
    refine ⟨⟨x0, x1, x2, x3, x4⟩, ⟨w0, w1, w2, w3, w4⟩, fun j u hj => hcell j u ?_⟩
    match j, hj with
    | 0, hj => rw [c0]; exact hj
    | 1, hj => rw [c1]; exact hj
    | 2, hj => rw [c2]; exact hj
    | 3, hj => rw [c3]; exact hj
    | 4, hj => rw [c4]; exact hj
/-- What is asked of the types of a package that comes in. -/
structure DTypes (P : Program) (t : TypeId) : Prop where
  und : ∃ e eu s b tu f0 f1 f2 f3 g0 g1 g2 g3 g4, P.underlying t = some (.slice e) ∧ P.underlying e = some (.struct #[f0, f1, f2, f3]) ∧ oneCellFields P #[f0, f1, f2, f3] = true ∧ P.cellsOf e = 4 ∧ f0.type = s ∧ f1.type = s ∧ f2.type = tu ∧ f3.type = b ∧ P.underlying s = some .string ∧ P.underlying b = some .bool ∧
    P.underlying tu = some (.slice eu) ∧ P.underlying eu = some (.struct #[g0, g1, g2, g3, g4]) ∧ oneCellFields P #[g0, g1, g2, g3, g4] = true ∧ P.cellsOf eu = 5 ∧ P.underlying g0.type = some (.int .u32) ∧ P.underlying g1.type = some (.int .u32) ∧ P.underlying g2.type = some (.int .u32) ∧ P.underlying g3.type = some (.int .u32) ∧ P.underlying g4.type = some (.int .u32)
theorem descs_open {t : TypeId} {a : Option Addr} {len cap : Nat} {d : DataW H} {ps : List MemPlace} (T : DTypes P t) (h : DataW.Trod enc P w base spare held t (.slice a len cap) d ps) :
    ∃ L : List (Dsc × Value), L.length = len ∧ DescR w (.slice a len cap) L ∧ (∀ x ∈ L, x.1.wide) ∧ len ≤ maxLen := by
  obtain ⟨e, eu, s, b, tu, f0, f1, f2, f3, g0, g1, g2, g3, g4, ht, he, hone, hC, e0, e1, e2, e3, hs, hb, htu, heu, honeu, hCu, u0, u1, u2, u3, u4⟩ := T.und
  have hlen := slice_len ht h
  obtain ⟨L, hL, hr, hG⟩ := reads_of (f := dl4) (G := fun x : Dsc × Value => Reads w 5 x.2 x.1.units.length (x.1.units.flatMap Ut.cells) ∧ x.1.wide) (size := 4) (cap := cap) (w := w) (a := a) (len := len) dl4_length (by decide) (by
    rcases structs_open ht he hone hC h with h | ⟨ad, rfl, _, _, hc⟩
    · exact .inl h
    · refine .inr ⟨ad, rfl, fun i hil => ?_⟩
      obtain ⟨cs, hl, hcell, hf⟩ := hc i hil
      obtain ⟨v0, y0, n0, c0, r0⟩ := hf 0 f0 rfl
      obtain ⟨v1, y1, n1, c1, r1⟩ := hf 1 f1 rfl
      obtain ⟨v2, y2, n2, c2, r2⟩ := hf 2 f2 rfl
      obtain ⟨v3, y3, n3, c3, r3⟩ := hf 3 f3 rfl
      rw [e0] at r0
      rw [e1] at r1
      rw [e2] at r2
      rw [e3] at r3
      obtain ⟨x0, z0, _, w0⟩ := DataW.trod_string hs r0
      obtain ⟨x1, z1, _, w1⟩ := DataW.trod_string hs r1
      obtain ⟨a2, l2, k2, rfl, t2⟩ := slice_cell htu r2
      obtain ⟨x3, z3, _⟩ := DataW.trod_bool hb r3
      simp only [List.cons.injEq, and_true] at z0 z1 z3
      subst z0; subst z1; subst z3
      obtain ⟨us, hul, hur, huf⟩ := units_open htu heu honeu hCu u0 u1 u2 u3 u4 t2
      have hu2 := slice_len htu t2
      subst hul
      refine ⟨(⟨x0, x1, us, x3⟩, .slice a2 us.length k2), ⟨hur, huf, w0, w1, hu2⟩, fun j u hj => hcell j u ?_⟩
      match j, hj with
      | 0, hj => rw [c0]; exact hj
      | 1, hj => rw [c1]; exact hj
      | 2, hj => rw [c2]; exact hj
      | 3, hj => rw [c3]; exact hj)
  subst hL
  exact ⟨L, rfl, ⟨hr, fun x hx => (hG x hx).1⟩, fun x hx => (hG x hx).2, hlen⟩
end
end Go.Proofs.YtbmidlaakbpnlaaDoor
