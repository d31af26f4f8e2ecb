/-
  WHAT THE LISTED VARIABLES TELL: the four bytes with which each file begins; a listed variable that the call leaves as it was.
-/
import Derived.Test.YtcpegoofbenoiaaGreatDoorZCz
import Derived.Test.YtcpegoofbenoiaaGreatDoorZGMem
import Derived.MakeChecks
import Derived.ChangeVars
import Derived.Carry
import Derived.Below
import Derived.ChangeOld
import Derived.FnData
namespace Go.Proofs.YtcpegoofbenoiaaGreatDoor
open Go.RowKit
open Go.ChangeShapes Go.WideShapes Go.ChangeAt Go.Deep

theorem laidVars_mem {P : Program} {w : World} : ∀ (l : List (String × DataW Unit)) (ps : List MemPlace), DataW.LaidVars P w l ps → ∀ x ∈ l, ∃ g t cs fuel p, P.globalNamed x.1 = some g ∧ (P.globals[g]?).map (·.type) = some t ∧ w.var? P x.1 = some cs ∧ DataW.trod (fun _ => ()) P w 0 (fun _ => true) false fuel t cs.toList = some (x.2, p)
  | [], _, _, x, hx => by cases hx
  | y :: l, _, h, x, hx => by
    obtain ⟨g, t, cs, fuel, p, q, h1, h2, h3, h4, h5, _⟩ := h
    rcases List.mem_cons.1 hx with rfl | hx
    · exact ⟨g, t, cs, fuel, p, h1, h2, h3, h4⟩
    · exact laidVars_mem l q h5 x hx
theorem mag_of {l : List (String × DataW Unit)} {w : World} (hp : (l.all fun x => x.2.handleName?.isNone) = true) (hm : (("loop.example/pub-coveragepieces/pub/covdefs.CovCounterMagic", .agg [.lit (.int .u8 0), .lit (.int .u8 99), .lit (.int .u8 119), .lit (.int .u8 109)]) : String × DataW Unit) ∈ l) (h : laidMetH Tryz.prog l w) : Mag w := by
  rw [MakeChecks.laidMetH_plain _ _ _ hp] at h
  obtain ⟨ps, hv, _, _⟩ := h
  obtain ⟨g, t, cs, fuel, p, h1, h2, h3, h4⟩ := laidVars_mem l ps hv _ hm
  obtain rfl : g = 1 := Option.some.inj (h1.symm.trans (show Tryz.prog.globalNamed "loop.example/pub-coveragepieces/pub/covdefs.CovCounterMagic" = some 1 by kernel_rfl))
  obtain rfl : t = 115 := Option.some.inj (h2.symm.trans (show (Tryz.prog.globals[1]?).map (·.type) = some 115 by kernel_rfl))
  obtain ⟨xs, m, _, hx, hlen, hn, hel⟩ := DataW.trod_array (show Tryz.prog.underlying 115 = some (.array 4 5) by kernel_rfl) h4
  have hc : Tryz.prog.cellsOf 5 = 1 := by kernel_rfl
  simp only [Prod.mk.injEq, DataW.agg.injEq] at hx
  have key : ∀ (i : Nat) (k : Int), i < 4 → (xs.map (·.1))[i]? = some (.lit (.int .u8 k)) → w.cell? ⟨1, i, none⟩ = some (.int .u8 k) := fun i k hi hk => by
    have e := hel i hi
    rw [hc, Nat.mul_one] at e
    have hi' : i < xs.length := by omega
    rw [List.getElem?_eq_getElem hi'] at e
    obtain ⟨n, e1, e2, _⟩ := DataW.trod_int Tryz.underlying5 e
    rw [List.getElem?_map, List.getElem?_eq_getElem hi', e2] at hk
    simp at hk
    subst hk
    have hil : i < cs.toList.length := by
      apply Decidable.byContradiction
      intro hh
      rw [List.drop_eq_nil_of_le (by omega)] at e1
      simp at e1
    rw [List.drop_eq_getElem_cons hil] at e1
    simp at e1
    have := World.var?_cell h1 h3 i
    rw [this]
    simp at hil
    rw [Array.getElem?_eq_getElem hil, e1]
  rw [← hx.1] at key
  exact ⟨key 0 0 (by decide) rfl, key 1 99 (by decide) rfl, key 2 119 (by decide) rfl, key 3 109 (by decide) rfl⟩
/-- A listed variable behind a call that leaves what was there. -/
theorem vars_below {H : Type} {enc : TypeId × Value → H} {P : Program} {W W' : World} {n : String} {g : Nat} {t : TypeId} {cs : Array Value} {fuel : Nat} {d : DataW H} {p : List MemPlace} (hl : laidOutB P = true) (hr : P.readableRec t = true) (hrow : t < P.types.size)
    (h1 : P.globalNamed n = some g) (h2 : (P.globals[g]?).map (·.type) = some t) (h3 : W.var? P n = some cs) (h4 : DataW.trod enc P W 0 (fun _ => true) true fuel t cs.toList = some (d, p)) (bel : Below W.heap.size W W') :
    ∃ q, DataW.TrodVars enc P W' (fun b => decide (b < W.heap.size)) [n] [d] q := by
  have hg : g < W.heap.size := by
    simp only [World.var?, h1, Option.bind_some] at h3
    apply Decidable.byContradiction
    intro hh
    rw [Array.getElem?_eq_none (by omega)] at h3
    simp at h3
  have h3' : W'.var? P n = some cs := by
    simp only [World.var?, h1, Option.bind_some] at h3 ⊢
    rw [bel.block g hg]
    exact h3
  have hT : DataW.Trod enc P W 0 (fun _ => true) true t (.agg cs) d p := ⟨fuel, h4⟩
  obtain ⟨f', h'⟩ := Below.trod hl hr hrow hT bel (by intro x hx; exact DataW.trod_lt fuel _ _ (d, p) h4 x hx)
  exact ⟨_, trodVars_mk1 h1 h2 h3' h'⟩
theorem vars_mag {H : Type} {enc : TypeId × Value → H} {W : World} {gs : List (DataW H)} {q : List MemPlace} (hV : DataW.TrodVars enc Tryz.prog W (fun _ => true) ["loop.example/pub-coveragepieces/pub/covdefs.CovCounterMagic"] gs q) :
    ∃ d, gs = [d] ∧ ∀ W', Below W.heap.size W W' → ∃ q', DataW.TrodVars enc Tryz.prog W' (fun b => decide (b < W.heap.size)) ["loop.example/pub-coveragepieces/pub/covdefs.CovCounterMagic"] [d] q' := by
  obtain ⟨g, t, cs, fuel, d, p, rfl, h1, h2, h3, h4, _⟩ := trodVars_one hV
  obtain rfl : g = 1 := Option.some.inj (h1.symm.trans (show Tryz.prog.globalNamed "loop.example/pub-coveragepieces/pub/covdefs.CovCounterMagic" = some 1 by kernel_rfl))
  obtain rfl : t = 115 := Option.some.inj (h2.symm.trans (show (Tryz.prog.globals[1]?).map (·.type) = some 115 by kernel_rfl))
  exact ⟨d, rfl, fun W' bel => vars_below (by kernel_rfl) (by kernel_rfl) (of_decide_eq_true (by kernel_rfl)) h1 h2 h3 h4 bel⟩
end Go.Proofs.YtcpegoofbenoiaaGreatDoor
