/-
  'FnAppendedSaid' is proved: for every input the call of laws.FnAppended returns true, and each argument reads as before. No condition.
-/
import Derived.Test.YtcpegoofbenoiaaGreatDoorRows
import Derived.Test.YtcpegoofbenoiaaGreatDoorCards
import Derived.Test.YtcpegoofbenoiaaGreatDoorTie
import Derived.Handy
import Derived.Lay
import Derived.SevenTiedAt
import Derived.Test.YtcpegoofbenoiaaGreatDoorZJi
import Derived.Test.YtcpegoofbenoiaaGreatDoorZJm
import Derived.Test.YtcpegoofbenoiaaGreatDoorZGJa
import Derived.WalkKit
import Derived.ProofKit
import Derived.OpenShut
import Derived.ShutString
import Derived.ChangeOld
import Derived.Below
namespace Go.Proofs.YtcpegoofbenoiaaGreatDoor.fnAppended
open Go.ChangeShapes Go.WideShapes Go.ChangeAt Go.RowKit
open Go.ChangeMaps (open_string shut_string)
set_option linter.unusedVariables false

theorem own : ownKnob Tryz.prog.godebug = none := by kernel_rfl
theorem laidOut : laidOutB Tryz.prog = true := by kernel_rfl

set_option maxRecDepth 100000 in
theorem walk {H : Type} {enc : TypeId × Value → H} (a0 : Bool) (v1 : Value) (d1 : DataW H) (p1 : List MemPlace) (a2 : Option Addr) (len2 cap2 : Nat) (d2 : DataW H) (p2 : List MemPlace) (v3 : Value) (d3 : DataW H) (p3 : List MemPlace) (base : Nat) (w : World) (w1 : DataW.Trod enc Tryz.prog w 0 (fun _ => true) true 22 v1 d1 p1) (o1 : Value.okWide Tryz.prog w .any base 22 v1) (w2 : DataW.Trod enc Tryz.prog w 0 (fun _ => true) true 23 (.slice a2 len2 cap2) d2 p2) (w3 : DataW.Trod enc Tryz.prog w 0 (fun _ => true) true 27 v3 d3 p3) (o3 : Value.okWide Tryz.prog w .any base 27 v3) (hM : Mag w) :
    Calls Tryz.prog 3 #[.bool a0, v1, .slice a2 len2 cap2, v3] w fun e w' => e = .returned (.bool true) ∧ Below w.heap.size w w' := by
  obtain ⟨hash, hh, rfl⟩ := hashOpenT o1 w1
  obtain ⟨L, hL, hs, hw, hl⟩ := segsOpenT w2
  obtain ⟨X, rfl, hxa, hxf, hxw⟩ := segOpenT o3 w3
  subst hL
  exact appended_law a0 hash L _ X w hh hs hw hl hxa hxf hxw hM

def laidL : List (String × DataW Unit) := [("math/bits.deBruijn32tab", Rows.laid_math_bits_deBruijn32tab), ("math/bits.deBruijn64tab", Rows.laid_math_bits_deBruijn64tab), ("internal/strconv.uint64pow10", Rows.laid_internal_strconv_uint64pow10), ("strconv.ErrRange", Rows.laid_strconv_ErrRange), ("strconv.ErrSyntax", Rows.laid_strconv_ErrSyntax), ("io.ErrShortWrite", Rows.laid_io_ErrShortWrite), ("io.ErrShortBuffer", Rows.laid_io_ErrShortBuffer), ("io.EOF", Rows.laid_io_EOF), ("io.ErrUnexpectedEOF", Rows.laid_io_ErrUnexpectedEOF), ("loop.example/pub-coveragepieces/pub/covdefs.CovCounterMagic", Rows.laid_loop_example_pub_coveragepieces_pub_covdefs_CovCounterMagic)]

set_option maxRecDepth 100000 in
theorem lifted (os : Os) (started : os.Started) (H : Type) (enc : TypeId × Value → H) :
    ReturnsInHanded {} Tryz.checked os 3 .any (fun w args => (Rows.fnAppendedSpec.pre enc Tryz.prog Tryz.f3 [] false w args ∧ laidMetH Tryz.prog laidL w) ∧ sizedMet enc Tryz.prog Tryz.f3 (OpenSpec.ofChange Rows.fnAppendedSpec) false w args)
      (Rows.fnAppendedSpec.post enc Tryz.prog Tryz.f3 false true false false) := by
  refine returnsInHanded_of_change_and (C := Tryz.checked) (X := fun w _ => laidMetH Tryz.prog laidL w) (fun _ _ _ hh h => h.of_heap hh) own started (by kernel_rfl) Tryz.func3
    (ChangeSpec.witness_shaped (enc := enc) (C := Tryz.checked) (os := os) (X := fun w _ => laidMetH Tryz.prog laidL w) false (World.laidAll Tryz.prog os laidL) #[.bool false, .agg #[.int .u8 0, .int .u8 0, .int .u8 0, .int .u8 0, .int .u8 0, .int .u8 0, .int .u8 0, .int .u8 0, .int .u8 0, .int .u8 0, .int .u8 0, .int .u8 0, .int .u8 0, .int .u8 0, .int .u8 0, .int .u8 0], .slice none 0 0, .agg #[.slice none 0 0, .string ⟨#[]⟩, .string ⟨#[]⟩, .slice none 0 0]] 8 (World.laidAll_os _ _ _)
      (World.shaped_of_ZipB (by kernel_rfl) (by kernel_rfl)) (by kernel_rfl) (by kernel_rfl) (by kernel_rfl)
      (by rw [MakeChecks.laidMetH_plain _ _ _ (by kernel_rfl)]; exact laidMet_laidAll _ (by kernel_rfl) (by kernel_rfl))) ?_
  intro W base args ds gs before hval0 hW _ _ hLaid _
  have hval : ∀ (j : Nat) t v, Tryz.f3.params[j]? = some t → args[j]? = some v → Value.okWide Tryz.prog W .any base t v := hval0
  have hW' := hW
  obtain ⟨p, q, hA0, hV, rfl, hfz, hnd⟩ := hW
  have hA : DataW.TrodAll enc Tryz.prog W 0 (fun _ => true) true Tryz.f3.params.toList args.toList ds p := hA0
  rw [Tryz.params3] at hA hval
  obtain ⟨v0, vs0, d0, ds0, p0, q0, hargs, rfl, rfl, h0, r0⟩ := trodAll_cons hA
  obtain ⟨v1, vs1, d1, ds1, p1, q1, rfl, rfl, rfl, h1, r1⟩ := trodAll_cons r0
  obtain ⟨v2, vs2, d2, ds2, p2, q2, rfl, rfl, rfl, h2, r2⟩ := trodAll_cons r1
  obtain ⟨v3, vs3, d3, ds3, p3, q3, rfl, rfl, rfl, h3, r3⟩ := trodAll_cons r2
  obtain ⟨rfl, rfl, rfl⟩ := trodAll_nil r3
  obtain rfl : args = #[v0, v1, v2, v3] := by cases args; simp_all
  obtain ⟨dv, rfl, hvv⟩ := vars_mag hV
  have k0 := h0
  have lt0 : ∀ x ∈ p0, x.block < W.heap.size := by obtain ⟨m, hm⟩ := k0; exact DataW.trod_lt m _ _ _ hm
  obtain ⟨a0, rfl, rfl, rfl⟩ := open_bool Tryz.underlying4 (hval 0 4 v0 rfl rfl) h0
  have k1 := h1
  have lt1 : ∀ x ∈ p1, x.block < W.heap.size := by obtain ⟨m, hm⟩ := k1; exact DataW.trod_lt m _ _ _ hm
  have k2 := h2
  have lt2 : ∀ x ∈ p2, x.block < W.heap.size := by obtain ⟨m, hm⟩ := k2; exact DataW.trod_lt m _ _ _ hm
  obtain ⟨a2, len2, cap2, rfl⟩ := okWide_slice Tryz.underlying23 (hval 2 23 v2 rfl rfl)
  have k3 := h3
  have lt3 : ∀ x ∈ p3, x.block < W.heap.size := by obtain ⟨m, hm⟩ := k3; exact DataW.trod_lt m _ _ _ hm
  clear hA0 hval0
  refine (walk a0 v1 d1 p1 a2 len2 cap2 d2 p2 v3 d3 p3 base W k1 (hval 1 22 v1 rfl rfl) k2 k3 (hval 3 27 v3 rfl rfl) (mag_of (l := laidL) (by kernel_rfl) (List.mem_of_getElem? (i := 9) rfl) hLaid)).mono fun e W' ⟨he, bel⟩ => ?_
  subst he
  obtain ⟨qv, hqv⟩ := hvv W' bel
  exact ⟨_, rfl, _, _, _, [], _, qv, hW', trodAll_mk1 (shut_bool Tryz.underlying4 _), (trodAll_cons_mk (Below.trod laidOut (by kernel_rfl) (of_decide_eq_true (by kernel_rfl)) k0 bel lt0) (trodAll_cons_mk (Below.trod laidOut (by kernel_rfl) (of_decide_eq_true (by kernel_rfl)) k1 bel lt1) (trodAll_cons_mk (Below.trod laidOut (by kernel_rfl) (of_decide_eq_true (by kernel_rfl)) k2 bel lt2) (trodAll_cons_mk (Below.trod laidOut (by kernel_rfl) (of_decide_eq_true (by kernel_rfl)) k3 bel lt3) trodAll_mk0)))), hqv, bel.frame _, fun h => by cases h⟩

theorem over : Rows.fnAppendedRow.holds Tryz.pinned (OpenSpec.ofChange Rows.fnAppendedSpec) :=
  OpenClaim.holds_of_wide 3 Tryz.f3 rfl rfl rfl rfl rfl rfl rfl ⟨rfl, rfl, rfl, rfl, rfl⟩ rfl rfl rfl rfl rfl (by kernel_rfl) Tryz.func3 (by kernel_rfl)
    (of_decide_eq_true (by kernel_rfl)) (by unfold Func.isWrapper; first | (rw [if_pos (by decide +kernel)]; kernel_rfl) | (rw [if_neg (by decide +kernel)]; exact ⟨rfl, rfl⟩))
    (fun os started H enc _ => lifted os started H enc)

/-- THE TIED CARD. -/
theorem proved : Rows.FnAppendedCardSaid :=
  Claim7.holds_tied_plain_at .later [] [.data, .data, .data, .sentinel, .sentinel, .sentinel, .sentinel, .sentinel, .sentinel, .data] true (true, "28c38e7bda304407e955e1380574378ee3e40bb55c47e0e17baef4b9a7902e13") true over (fun _ h => by cases h) (by kernel_rfl) (fun _ h => by cases h) fnAppended_row_tie rfl ⟨rfl, rfl⟩ (by kernel_rfl) rfl
    (fun f fn hf hfn => by
      obtain rfl : f = 3 := Option.some.inj ((show Tryz.prog.funcNamed "loop.example/pub-coveragepieces/laws.FnAppended" = some 3 by kernel_rfl).symm.trans hf) |>.symm
      obtain rfl : fn = Tryz.f3 := (Option.some.inj (Tryz.func3.symm.trans hfn)).symm
      exact ⟨by kernel_rfl, fun j t ht => by
        rw [Tryz.params3] at ht
        have hm : t ∈ [4, 22, 23, 27] := by simpa using Array.mem_of_getElem? ht
        have hall : ([4, 22, 23, 27].all fun u => !Tryz.prog.wantsStandIn u) = true := by kernel_rfl
        exact (show Tryz.prog.wantsStandIn t = false by simpa using List.all_eq_true.1 hall t hm)⟩)
    (by kernel_rfl)
#print axioms proved
end Go.Proofs.YtcpegoofbenoiaaGreatDoor.fnAppended
