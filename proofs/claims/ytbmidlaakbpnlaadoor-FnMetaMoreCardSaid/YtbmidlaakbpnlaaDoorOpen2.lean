/-
  HOW ARGUMENTS ARE OPENED, second part: slices of structs whose fields are of one cell each. Nothing of the program is in sight.
-/
import Derived.Test.YtbmidlaakbpnlaaDoorOpen
import Derived.Deep.Slices
import Derived.Deep.Fields
import Derived.ChangeSame
namespace Go.Proofs.YtbmidlaakbpnlaaDoor
open Go.RowKit
open Go.ChangeShapes Go.WideShapes Go.ChangeAt Go.Deep

/-- One witness for each place: a list of them. -/
theorem list_of {α : Type} {Q : Nat → α → Prop} : ∀ n, (∀ i, i < n → ∃ s, Q i s) → ∃ l : List α, l.length = n ∧ ∀ i (h : i < l.length), Q i l[i]
  | 0, _ => ⟨[], rfl, fun i h => absurd h (by simp)⟩
  | n + 1, h => by
    obtain ⟨l, hl, hq⟩ := list_of n (fun i hi => h i (by omega))
    obtain ⟨s, hs⟩ := h n (by omega)
    refine ⟨l ++ [s], by simp [hl], fun i hi => ?_⟩
    by_cases e : i < l.length
    · rw [List.getElem_append_left e]; exact hq i e
    · have : i = n := by simp [hl] at hi; omega
      subst this
      rw [List.getElem_append_right (by omega)]
      simpa [hl] using hs

/-- The cells of a list of things, each of 'size' cells. -/
theorem flat_get {α : Type} {f : α → List Value} {size : Nat} (hf : ∀ s, (f s).length = size) : ∀ (l : List α) (i j : Nat) (hi : i < l.length), j < size → (l.flatMap f)[i * size + j]? = (f l[i])[j]?
  | [], i, j, hi, _ => absurd hi (by simp)
  | s :: l, 0, j, _, hj => by
    rw [List.flatMap_cons, List.getElem?_append_left (by rw [hf]; omega)]
    simp
  | s :: l, i + 1, j, hi, hj => by
    rw [List.flatMap_cons, List.getElem?_append_right (by rw [hf, Nat.add_mul]; omega)]
    have := flat_get hf l i j (by simpa using hi) hj
    rw [hf, show (i + 1) * size + j - size = i * size + j by rw [Nat.add_mul]; omega, this]
    simp
theorem flat_length {α : Type} {f : α → List Value} {size : Nat} (hf : ∀ s, (f s).length = size) (l : List α) : (l.flatMap f).length = l.length * size := by
  induction l with
  | nil => simp
  | cons s l ih => simp [ih, hf, Nat.add_mul]; omega

/-- Elements of 'size' cells each, one behind the other: what a slice of them reads as. -/
theorem reads_of {α : Type} {f : α → List Value} {size : Nat} {G : α → Prop} (hf : ∀ s, (f s).length = size) (hs : 0 < size) {w : World} {a : Option Addr} {len cap : Nat}
    (h : (a = none ∧ len = 0 ∧ cap = 0) ∨ ∃ ad, a = some ad ∧ ∀ i, i < len → ∃ s, G s ∧ ∀ j u, (f s)[j]? = some u → w.cell? (ad.add (i * size + j)) = some u) :
    ∃ l : List α, l.length = len ∧ Reads w size (.slice a len cap) len (l.flatMap f) ∧ ∀ s ∈ l, G s := by
  rcases h with ⟨rfl, rfl, rfl⟩ | ⟨ad, rfl, h⟩
  · exact ⟨[], rfl, ⟨by simp, .inl ⟨rfl, rfl⟩⟩, by simp⟩
  · obtain ⟨l, hl, hq⟩ := list_of len h
    refine ⟨l, hl, ⟨by rw [flat_length hf, hl], .inr ⟨ad, cap, rfl, fun j u hj => ?_⟩⟩, fun s hm => ?_⟩
    · have hjl : j < l.length * size := by rw [← flat_length hf]; exact (List.getElem?_eq_some_iff.1 hj).1
      have hi : j / size < l.length := by rw [Nat.div_lt_iff_lt_mul hs]; exact hjl
      have hd := Nat.div_add_mod j size
      rw [Nat.mul_comm] at hd
      have hm := Nat.mod_lt j hs
      have h2 := flat_get hf l (j / size) (j % size) hi hm
      rw [hd, hj] at h2
      have := (hq (j / size) hi).2 (j % size) u h2.symm
      rwa [hd] at this
    · obtain ⟨i, hi, rfl⟩ := List.getElem_of_mem hm
      exact (hq i hi).1

section
variable {H : Type} {enc : TypeId × Value → H} {P : Program} {w : World} {base : Nat} {spare : Nat → Bool} {held : Bool}
/-- A slice of structs that came in: for each element its cells, one a field, each with the field's own reading. -/
theorem structs_open {t e : TypeId} {fs : Array Field} {a : Option Addr} {len cap : Nat} {d : DataW H} {ps : List MemPlace} (ht : P.underlying t = some (.slice e)) (he : P.underlying e = some (.struct fs))
    (hone : oneCellFields P fs = true) (hC : P.cellsOf e = fs.size) (h : DataW.Trod enc P w base spare held t (.slice a len cap) d ps) :
    (a = none ∧ len = 0 ∧ cap = 0) ∨ ∃ ad, a = some ad ∧ len ≤ cap ∧ cap ≤ maxLen ∧ ∀ i, i < len → ∃ cs : List Value, cs.length = fs.size ∧ (∀ j u, cs[j]? = some u → w.cell? (ad.add (i * fs.size + j)) = some u) ∧
      ∀ (j : Nat) (f : Field), fs[j]? = some f → ∃ v y n, cs[j]? = some v ∧ DataW.trod enc P w base spare held n f.type [v] = some y := by
  obtain ⟨fuel, hf⟩ := h
  rcases open_slice ht hf with ⟨h0, _⟩ | ⟨ad, l, c, m, n, D, Pl, hcs, _, hl, hm, hmm, _, hi⟩
  · simp [Value.cells] at h0
    exact .inl h0
  · simp [Value.cells] at hcs
    obtain ⟨rfl, rfl, rfl⟩ := hcs
    refine .inr ⟨ad, rfl, hl, hm, fun i hil => ?_⟩
    have him : i < m := by rw [hmm]; split <;> omega
    obtain ⟨cs', hc, ht'⟩ := hi i him
    rw [hC] at hc
    obtain ⟨ys, n', _, _, hlen, hyl, hfd⟩ := DataW.trod_struct he ht'
    obtain ⟨_, hcl, hat⟩ := World.cells?_some hc
    refine ⟨cs', hcl, fun j u hj => ?_, fun j f hj => ?_⟩
    · have hjl : j < fs.size := by rw [← hcl]; exact (List.getElem?_eq_some_iff.1 hj).1
      rw [← Go.Deep.add_add, hat j hjl, hj]
    · obtain ⟨ho, hk⟩ := hone_of hone j f hj
      have hjl : j < fs.size := (Array.getElem?_eq_some_iff.1 hj).1
      have h1 := hfd j f hj
      rw [ho, hk, List.drop_eq_getElem_cons (by omega)] at h1
      exact ⟨cs'[j]'(by omega), ys[j]'(by omega), n', List.getElem?_eq_getElem _, by rw [List.getElem?_eq_getElem (show j < ys.length by omega)] at h1; exact h1⟩
end
end Go.Proofs.YtbmidlaakbpnlaaDoor
