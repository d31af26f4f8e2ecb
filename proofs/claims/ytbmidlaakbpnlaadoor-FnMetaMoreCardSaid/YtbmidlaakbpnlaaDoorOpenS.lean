/-
  HOW ARGUMENTS ARE OPENED, third part: slices of texts. Nothing of the program is in sight.
-/
import Derived.Test.YtbmidlaakbpnlaaDoorKa
namespace Go.Proofs.YtbmidlaakbpnlaaDoor
open Go.RowKit
open Go.ChangeShapes Go.WideShapes Go.ChangeAt Go.Deep

theorem flat_Ts (l : List ByteArray) : l.flatMap (fun s => [Value.string s]) = Ts l := by
  induction l with
  | nil => rfl
  | cons s l ih =>
    simp [Ts] at ih ⊢
    exact ih
theorem strs_open {H : Type} {enc : TypeId × Value → H} {P : Program} {w : World} {base : Nat} {spare : Nat → Bool} {held : Bool} {t e : TypeId} {a : Option Addr} {len cap : Nat} {d : DataW H} {ps : List MemPlace} (ht : P.underlying t = some (.slice e)) (he : P.underlying e = some .string)
    (hC : P.cellsOf e = 1) (h : DataW.Trod enc P w base spare held t (.slice a len cap) d ps) :
    ∃ l : List ByteArray, l.length = len ∧ Reads w 1 (.slice a len cap) len (Ts l) ∧ (∀ s ∈ l, s.size ≤ maxLen) ∧ len ≤ maxLen := by
  obtain ⟨fuel, hf⟩ := h
  have key : (a = none ∧ len = 0 ∧ cap = 0) ∨ ∃ ad, a = some ad ∧ len ≤ maxLen ∧ ∀ i, i < len → ∃ s : ByteArray, s.size ≤ maxLen ∧ ∀ j u, ([Value.string s] : List Value)[j]? = some u → w.cell? (ad.add (i * 1 + j)) = some u := by
    rcases open_slice ht hf with ⟨h0, _⟩ | ⟨ad, l, c, m, n, D, Pl, hcs, _, hl, hm, hmm, _, hi⟩
    · simp [Value.cells] at h0
      exact .inl h0
    · simp [Value.cells] at hcs
      obtain ⟨rfl, rfl, rfl⟩ := hcs
      refine .inr ⟨ad, rfl, by omega, fun i hil => ?_⟩
      have him : i < m := by rw [hmm]; split <;> omega
      obtain ⟨cs', hc, ht'⟩ := hi i him
      rw [hC] at hc
      obtain ⟨s, e', _, hs⟩ := DataW.trod_string he ht'
      obtain ⟨_, hcl, hat⟩ := World.cells?_some hc
      refine ⟨s, hs, fun j u hj => ?_⟩
      rw [e'] at hat hcl
      have hj0 : j = 0 := by
        have := (List.getElem?_eq_some_iff.1 hj).1
        simpa using this
      subst hj0
      have := hat 0 (by omega)
      rw [hj] at this
      simpa [Go.Deep.add_add] using this
  have hlen : len ≤ maxLen := by
    rcases key with ⟨_, h, _⟩ | ⟨_, _, h, _⟩
    · omega
    · exact h
  obtain ⟨l, h1, h2, h3⟩ := reads_of (f := fun s : ByteArray => [Value.string s]) (G := fun s => s.size ≤ maxLen) (size := 1) (cap := cap) (w := w) (a := a) (len := len) (fun _ => rfl) (by decide) (by
    rcases key with h | ⟨ad, h1, _, h3⟩
    · exact .inl h
    · exact .inr ⟨ad, h1, h3⟩)
  rw [flat_Ts] at h2
  exact ⟨l, h1, h2, h3, hlen⟩
end Go.Proofs.YtbmidlaakbpnlaaDoor
