/-
  'FnReadSaid' is proved: for every input the call of laws.FnRead returns true, and each argument reads as before. No condition.
-/
import Derived.Test.YtfcdedcffmpjjaaRows
import Derived.Test.YtfcdedcffmpjjaaReadLaw
import Derived.WalkKit
import Derived.ProofKit
import Derived.OpenShut
import Derived.ShutString
import Derived.ChangeOld
import Derived.Below
namespace Go.Proofs.Ytfcdedcffmpjjaa.fnRead
open Go.ChangeShapes Go.WideShapes Go.ChangeAt Go.RowKit
open Go.ChangeMaps (open_string shut_string)
set_option linter.unusedVariables false

theorem own : ownKnob Try.prog.godebug = none := by kernel_rfl
theorem laidOut : laidOutB Try.prog = true := by kernel_rfl

theorem walk {H : Type} {enc : TypeId × Value → H} (a0 : Option Addr) (len0 cap0 : Nat) (z0 : List Int) (a1 : Option Addr) (len1 cap1 : Nat) (d1 : DataW H) (p1 : List MemPlace) (w : World) (w0 : IsRow .u8 w a0 len0 cap0 z0) (w1 : DataW.Trod enc Try.prog w 0 (fun _ => true) true 65 (.slice a1 len1 cap1) d1 p1) :
    Calls Try.prog 13 #[.slice a0 len0 cap0, .slice a1 len1 cap1] w fun e w' => e = .returned (.bool true) ∧ Below w.heap.size w w' := by
  obtain ⟨l8, hl8, hr8⟩ := w0.bytes
  have hB : By (l8.map UInt8.toNat) = B l8 := by simp [By, B]
  have m0 : len0 ≤ cap0 ∧ len0 ≤ 9223372036854775807 := by
    rcases w0 with ⟨_, h, h', _⟩ | ⟨_, _, h1, h2, _⟩
    · omega
    · unfold maxLen at h2; omega
  obtain ⟨l, hl, hr, hv⟩ := two_open (Try.underlying65) (Try.underlying76) rfl rfl (Try.underlying3) (by kernel_rfl) (by kernel_rfl) w1
  have hm : len1 ≤ 9223372036854775807 := by
    rcases structs_open (Try.underlying65) (Try.underlying76) (by kernel_rfl) (by kernel_rfl) w1 with ⟨_, h, _⟩ | ⟨ad, _, h1, h2, _⟩
    · omega
    · unfold maxLen at h2; omega
  subst hl
  have hlb : (l8.map UInt8.toNat).length = len0 := by simpa using hl8
  rw [← hB] at hr8
  clear hl8 hB w0
  have h8 : ∀ x ∈ l8.map UInt8.toNat, x < 256 := by
    intro x hx
    simp at hx
    obtain ⟨b, _, rfl⟩ := hx
    exact b.toNat_lt
  generalize l8.map UInt8.toNat = bs at *
  subst hlb
  exact read_law _ _ _ bs l w hr8 m0.1 hr h8 m0.2 hm

set_option maxRecDepth 100000 in
theorem lifted (os : Os) (started : os.Started) (H : Type) (enc : TypeId × Value → H) :
    ReturnsInHanded {} Try.checked os 13 .any (Rows.fnReadSpec.pre6 enc Try.prog Try.f13 Rows.fnReadRow.domain false) (Rows.fnReadSpec.post enc Try.prog Try.f13 false true false false) := by
  refine returnsInHanded_of_change (C := Try.checked) own started (by kernel_rfl) Try.func13
    (ChangeSpec.witness6 (enc := enc) (C := Try.checked) false ⟨#[], #[.slice none 0 0, .slice none 0 0], []⟩ 8 (by kernel_rfl) (by kernel_rfl) (by kernel_rfl) (by kernel_rfl)) ?_
  intro W base args ds gs before hval0 hW hcnd _
  have hval : ∀ (j : Nat) t v, Try.f13.params[j]? = some t → args[j]? = some v → Value.okWide Try.prog W .any base t v := hval0
  have hW' := hW
  obtain ⟨p, q, hA0, hV, rfl, hfz, hnd⟩ := hW
  have hA : DataW.TrodAll enc Try.prog W 0 (fun _ => true) true Try.f13.params.toList args.toList ds p := hA0
  rw [Try.params13] at hA hval
  obtain ⟨v0, vs0, d0, ds0, p0, q0, hargs, rfl, rfl, h0, r0⟩ := trodAll_cons hA
  obtain ⟨v1, vs1, d1, ds1, p1, q1, rfl, rfl, rfl, h1, r1⟩ := trodAll_cons r0
  obtain ⟨rfl, rfl, rfl⟩ := trodAll_nil r1
  obtain rfl : args = #[v0, v1] := by cases args; simp_all
  obtain ⟨rfl, rfl⟩ := trodVars_none hV
  have k0 := h0
  have lt0 : ∀ x ∈ p0, x.block < W.heap.size := by obtain ⟨m, hm⟩ := k0; exact DataW.trod_lt m _ _ _ hm
  obtain ⟨a0, len0, cap0, rfl⟩ := okWide_slice Try.underlying28 (hval 0 28 v0 rfl rfl)
  obtain ⟨z0, w0⟩ := isRow_open Try.underlying28 Try.underlying5 (by kernel_rfl) h0
  have k1 := h1
  have lt1 : ∀ x ∈ p1, x.block < W.heap.size := by obtain ⟨m, hm⟩ := k1; exact DataW.trod_lt m _ _ _ hm
  obtain ⟨a1, len1, cap1, rfl⟩ := okWide_slice Try.underlying65 (hval 1 65 v1 rfl rfl)
  clear hA0 hval0
  refine (walk a0 len0 cap0 z0 a1 len1 cap1 d1 p1 W w0 k1).mono fun e W' ⟨he, bel⟩ => ?_
  subst he
  exact ⟨_, rfl, _, _, _, [], _, [], hW', trodAll_mk1 (shut_bool Try.underlying4 _), (trodAll_cons_mk (Below.trod laidOut (by kernel_rfl) (of_decide_eq_true (by kernel_rfl)) k0 bel lt0) (trodAll_cons_mk (Below.trod laidOut (by kernel_rfl) (of_decide_eq_true (by kernel_rfl)) k1 bel lt1) trodAll_mk0)), rfl, bel.frame _, fun h => by cases h⟩

theorem over : Rows.fnReadRow.holds Try.pinned (OpenSpec.ofChange Rows.fnReadSpec) :=
  OpenClaim.holds_of_wide 13 Try.f13 rfl rfl rfl rfl rfl rfl rfl ⟨rfl, rfl, rfl, rfl, rfl⟩ rfl rfl rfl rfl rfl (by kernel_rfl) Try.func13 (by kernel_rfl)
    (of_decide_eq_true (by kernel_rfl)) (by unfold Func.isWrapper; first | (rw [if_pos (by decide +kernel)]; kernel_rfl) | (rw [if_neg (by decide +kernel)]; exact ⟨rfl, rfl⟩))
    (fun os started H enc _ => lifted os started H enc)

/-- THE STATEMENT. -/
theorem proved : Rows.FnReadSaid := over
#print axioms proved
end Go.Proofs.Ytfcdedcffmpjjaa.fnRead
