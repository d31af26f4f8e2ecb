/-
  CONTRACTS of the tests of a package that comes in.
-/
import Derived.Test.YtbmidlaakbpnlaaDoorPk1
import Derived.Test.YtbmidlaakbpnlaaDoorMe4
namespace Go.Proofs.YtbmidlaakbpnlaaDoor
open Go.RowKit
open Go.ChangeShapes Go.WideShapes Go.ChangeAt Go.Deep
open Plain (M64)

/-- A test that leaves what there is as it is. -/
def OkP (w : World) (Q : Prop) (e : Ending) (w' : World) : Prop := ∃ ok, e = .returned (.bool ok) ∧ Keep Non w w' ∧ (ok = true → Q)
def OkS (w : World) (Q : Prop) (e : Ending) (w' : World) : Prop := ∃ ok, e = .returned (.bool ok) ∧ w' = w ∧ (ok = true → Q)
def Dsc.fits (d : Dsc) : Prop := d.name.size ≤ 2147483647 ∧ d.file.size ≤ 2147483647 ∧ d.units.length ≤ 2147483647
set_option maxRecDepth 100000 in
set_option maxHeartbeats 1000000 in
theorem fits10 (d : Dsc) (uv : Value) (w : World) (hu : Reads w 5 uv d.units.length (d.units.flatMap Ut.cells)) (hw : d.wide) : Calls Tryd.prog 11 #[.agg #[.string d.name, .string d.file, uv, .bool d.lit]] w (OkP w d.fits) := by
  obtain ⟨ua, uc, rfl⟩ := hu.slice
  obtain ⟨_, h1, h2, h3⟩ := hw
  unfold maxLen at h1 h2 h3
  clear hu
  by_cases c1 : d.name.size ≤ 2147483647
  · by_cases c2 : d.file.size ≤ 2147483647
    · by_cases c3 : d.units.length ≤ 2147483647
      · go_enter Tryd.func11, Tryd.ntmps11
        go_wp2
        go_ret
        exact ⟨true, rfl, (Keep.refl _ _).alloc _, fun _ => ⟨c1, c2, c3⟩⟩
      · go_enter Tryd.func11, Tryd.ntmps11
        go_wp2
        go_ret
        exact ⟨false, rfl, (Keep.refl _ _).alloc _, fun h => by cases h⟩
    · go_enter Tryd.func11, Tryd.ntmps11
      go_wp2
      go_ret
      exact ⟨false, rfl, (Keep.refl _ _).alloc _, fun h => by cases h⟩
  · go_enter Tryd.func11, Tryd.ntmps11
    go_wp2
    go_ret
    exact ⟨false, rfl, (Keep.refl _ _).alloc _, fun h => by cases h⟩
set_option maxRecDepth 100000 in
set_option maxHeartbeats 1000000 in
theorem fits9 (v : Value) (L : List (Dsc × Value)) (w : World) (h : DescR w v L) (hw : ∀ x ∈ L, x.1.wide) (hl : L.length ≤ maxLen) : Calls Tryd.prog 12 #[v] w (OkP w (L.length ≤ 2147483647 ∧ ∀ x ∈ L, x.1.fits)) := by
  obtain ⟨fa, fc, rfl⟩ := h.reads.slice
  unfold maxLen at hl
  have HH := Lib.hid h
  have HW := Lib.hid hw
  clear h hw
  by_cases hbig : 2147483647 < L.length
  · go_enter Tryd.func12, Tryd.ntmps12
    go_wp2
    go_ret
    exact ⟨false, rfl, Keep.refl _ _, fun h => by cases h⟩
  go_enter Tryd.func12, Tryd.ntmps12
  go_wp2
  go_loopw [10] (fun i wr => ∃ k : Nat, k ≤ L.length ∧ i = .int .i64 k ∧ Keep Non w wr ∧ (∀ x ∈ L.take k, x.1.fits)) (fun i _ => L.length - (intOf i).toNat)
  case atStart => exact ⟨0, by omega, rfl, Keep.refl _ _, by simp⟩
  case round =>
    obtain ⟨k, hk, rfl, hkp, hv⟩ := hrel
    by_cases hlt : k < L.length
    · have hR := (HH.out.far hkp)
      obtain ⟨ba, off, ca', hva, hca⟩ := hR.reads.at (by omega) (by omega)
      cases hva
      obtain ⟨q0, q1, q2, q3⟩ := four_at hca hlt
      have HV : Hid (L[k].1.fits → ∀ m ∈ L.take (k + 1), m.1.fits) := Lib.hid (fun h => take_snoc_mem hlt hv h)
      have HU := Lib.hid (hR.units _ (List.getElem_mem hlt))
      have HWD := Lib.hid (HW.out _ (List.getElem_mem hlt))
      have HKP := Lib.hid hkp
      clear hv hca hR hkp
      generalize L[k] = x at *
      obtain ⟨d, uv⟩ := x
      dsimp only at *
      obtain ⟨ua, uc, rfl⟩ := HU.out.slice
      go_wp2_with fail
      refine (fits10 d _ _ (HU.out.alloc _) HWD.out).mono ?_
      rintro e w2 ⟨ok, rfl, k2, hok⟩
      cases ok with
      | true =>
        have HOK := Lib.hid (hok rfl)
        clear hok
        go_wp2
        go_roundw
        case measure => simp [intOf]; omega
        case rel => exact ⟨k + 1, by omega, by go_num, (HKP.out.alloc _).trans' k2, HV.out HOK.out⟩
      | false =>
        clear hok
        go_wp2
        go_ret
        exact ⟨false, rfl, (HKP.out.alloc _).trans' k2, fun h => by cases h⟩
    · have hkl : k = L.length := by omega
      subst hkl
      rw [List.take_of_length_le (Nat.le_refl _)] at hv
      have HV := Lib.hid hv
      have HKP := Lib.hid hkp
      clear hv hkp
      go_wp2
      go_ret
      exact ⟨true, rfl, HKP.out, fun _ => ⟨by omega, HV.out⟩⟩
/-- What a package that comes in is. -/
structure Pkg where
  path : ByteArray
  name : ByteArray
  mod : ByteArray
  ds : List (Dsc × Value)
def Pkg.val (p : Pkg) (fv : Value) : Value := .agg #[.string p.path, .string p.name, .string p.mod, fv]
def Pkg.wide (p : Pkg) : Prop := p.path.size ≤ maxLen ∧ p.name.size ≤ maxLen ∧ p.mod.size ≤ maxLen ∧ p.ds.length ≤ maxLen ∧ ∀ x ∈ p.ds, x.1.wide
def Pkg.fits (p : Pkg) : Prop := p.ds.length ≤ 2147483647 ∧ ∀ x ∈ p.ds, x.1.fits
set_option maxRecDepth 100000 in
set_option maxHeartbeats 1000000 in
theorem fits8 (p : Pkg) (fv : Value) (w : World) (h : DescR w fv p.ds) (hw : p.wide) : Calls Tryd.prog 5 #[.agg #[.string p.path, .string p.name, .string p.mod, fv]] w (OkP w p.fits) := by
  obtain ⟨h1, h2, h3, h4, h5⟩ := hw
  unfold maxLen at h1 h2 h3
  have HH := Lib.hid h
  have HW := Lib.hid h5
  clear h h5
  by_cases c1 : p.path.size ≤ 2147483647
  · by_cases c2 : p.name.size ≤ 2147483647
    · by_cases c3 : p.mod.size ≤ 2147483647
      · go_enter Tryd.func5, Tryd.ntmps5
        go_wp2_with fail
        refine (fits9 fv p.ds _ (HH.out.far ((Keep.refl _ _).alloc _)) HW.out h4).mono ?_
        rintro e w2 ⟨ok, rfl, k2, hok⟩
        cases ok with
        | true =>
          have HOK := Lib.hid (hok rfl)
          clear hok
          go_wp2
          go_ret
          exact ⟨true, rfl, ((Keep.refl _ _).alloc _).trans' k2, fun _ => HOK.out⟩
        | false =>
          clear hok
          go_wp2
          go_ret
          exact ⟨false, rfl, ((Keep.refl _ _).alloc _).trans' k2, fun h => by cases h⟩
      · go_enter Tryd.func5, Tryd.ntmps5
        go_wp2
        go_ret
        exact ⟨false, rfl, (Keep.refl _ _).alloc _, fun h => by cases h⟩
    · go_enter Tryd.func5, Tryd.ntmps5
      go_wp2
      go_ret
      exact ⟨false, rfl, (Keep.refl _ _).alloc _, fun h => by cases h⟩
  · go_enter Tryd.func5, Tryd.ntmps5
    go_wp2
    go_ret
    exact ⟨false, rfl, (Keep.refl _ _).alloc _, fun h => by cases h⟩
def Pln (s : ByteArray) (b : Bool) : Prop := s.size ≤ 60 ∧ (b = true → s ≠ emp)
set_option maxRecDepth 100000 in
set_option maxHeartbeats 1000000 in
theorem plainT (s : ByteArray) (b : Bool) (w : World) (hs : s.size ≤ maxLen) : Calls Tryd.prog 13 #[.string s, .bool b] w (OkS w (Pln s b)) := by
  unfold maxLen at hs
  go_enter Tryd.func13, Tryd.ntmps13
  go_wp2
  go_loop [8] (fun i => ∃ k : Nat, k ≤ s.size ∧ i = .int .i64 k) (fun i => s.size - (intOf i).toNat)
  case atStart => exact ⟨0, by omega, rfl⟩
  case round =>
    obtain ⟨k, hk, rfl⟩ := hrel
    by_cases hlt : k < s.size
    · go_wp2
      all_goals
        first
        | (go_round
           case measure => simp [intOf]; omega
           case rel => exact ⟨k + 1, by omega, by go_num⟩)
        | (go_ret
           exact ⟨false, rfl, rfl, fun h => by cases h⟩)
    · have hkl : k = s.size := by omega
      subst hkl
      by_cases h60 : s.size ≤ 60
      · cases b with
        | false =>
          go_wp2
          all_goals
            go_ret
            exact ⟨true, rfl, rfl, fun _ => ⟨h60, fun h => by cases h⟩⟩
        | true =>
          by_cases he : s = emp
          · have he2 : s.toList.isEmpty = true := by rw [he, Go.ByteArray.toList_eq]; rfl
            have HE := Lib.hid he
            clear he
            go_wp2
            go_ret
            exact ⟨false, rfl, rfl, fun h => by cases h⟩
          · have he2 : s.toList.isEmpty = false := by
              rw [List.isEmpty_eq_false_iff]
              intro e
              apply he
              apply Go.WideShapes.bytes_inj
              rw [Go.ByteArray.toList_eq] at e
              rw [e]; rfl
            have HE := Lib.hid he
            clear he
            go_wp2
            go_ret
            exact ⟨true, rfl, rfl, fun _ => ⟨h60, fun _ => HE.out⟩⟩
      · go_wp2
        go_ret
        exact ⟨false, rfl, rfl, fun h => by cases h⟩
end Go.Proofs.YtbmidlaakbpnlaaDoor
