/-
  CONTRACTS: the reference's tests whether segments are the same, of segments that are.
-/
import Derived.Test.YtcpegoofbenoiaaGreatDoorZGJa
namespace Go.Proofs.YtcpegoofbenoiaaGreatDoor
open Go.RowKit
open Go.ChangeShapes Go.WideShapes Go.ChangeAt Go.Deep
open Plain (M64)

/-- A callee's contract in a world of draws: the draws add up. -/
theorem quiet_at {P : Program} {f : FuncId} {args : Array Value} {w : World} {m n : Nat} {v : Value} (h : Calls P f args (w.drewN (m + n)) fun e w' => e = .returned v ∧ ∃ k, w' = (w.drewN (m + n)).drewN k) :
    Calls P f args (w.drewN (m + n)) fun e w' => e = .returned v ∧ ∃ k, w' = w.drewN (m + k) :=
  h.mono fun _ _ ⟨he, k, hk⟩ => ⟨he, n + k, by rw [hk, World.drewN_drewN, Nat.add_assoc]⟩
theorem sameNums1 (a b : Value) (z : List Nat) (w : World) (ha : Reads w 1 a z.length (U32 z)) (hb : Reads w 1 b z.length (U32 z)) (hl : z.length ≤ 1000) :
    Calls Tryz.prog 55 #[a, b] w fun e w' => e = .returned (.bool true) ∧ ∃ n, w' = w.drewN n :=
  (sameNums a b z z w ha hb hl hl).mono fun e w' ⟨he, hn⟩ => ⟨by rw [he]; simp, hn⟩
set_option maxRecDepth 100000 in
set_option maxHeartbeats 2000000 in
theorem sameFuncsT (v1 v2 : Value) (L1 L2 : List (Fc × Value)) (w : World) (h1 : FR w v1 L1) (h2 : FR w v2 L2) (hm : L1.map (·.1) = L2.map (·.1)) (hl : L1.length ≤ 1000) (hc : ∀ x ∈ L1, x.1.cs.length ≤ 1000) :
    Calls Tryz.prog 32 #[v1, v2] w fun e w' => e = .returned (.bool true) ∧ ∃ n, w' = w.drewN n := by
  have hn : L2.length = L1.length := by have := congrArg List.length hm; simpa using this.symm
  have h2r := h2.reads
  rw [hn] at h2r
  have hgt : ∀ k (hk : k < L1.length) (hk2 : k < L2.length), L2[k].1 = L1[k].1 := fun k hk hk2 => by
    have e := congrArg (fun l => l[k]?) hm
    simp [List.getElem?_eq_getElem hk, List.getElem?_eq_getElem hk2] at e
    exact e.symm
  obtain ⟨fa, fc, rfl⟩ := h1.reads.slice
  obtain ⟨fb, fd, rfl⟩ := h2r.slice
  have H1 := Lib.hid h1
  have H2 := Lib.hid h2
  have HR2 := Lib.hid h2r
  have HGT := Lib.hid hgt
  have HC := Lib.hid hc
  have HN := Lib.hid hn
  clear h1 h2 h2r hgt hc hn hm
  go_enter Tryz.func32, Tryz.ntmps32
  go_wp2
  go_loopw [13] (fun i wr => ∃ k m : Nat, k ≤ L1.length ∧ i = .int .i64 k ∧ wr = w.drewN m) (fun i _ => L1.length - (intOf i).toNat)
  case atStart => exact ⟨0, 0, by omega, rfl, rfl⟩
  case round =>
    obtain ⟨k, m, hk, rfl, rfl⟩ := hrel
    by_cases hlt : k < L1.length
    · have hlt2 : k < L2.length := by rw [HN.out]; exact hlt
      obtain ⟨ba, offa, ca', hva, hca⟩ := H1.out.reads.at (by omega) (by omega)
      cases hva
      obtain ⟨bb, offb, cb', hvb, hcb⟩ := HR2.out.at (by omega) (by omega)
      cases hvb
      obtain ⟨p0, p1, p2⟩ := three_at hca hlt
      obtain ⟨q0, q1, q2⟩ := three_at hcb hlt2
      have heq := HGT.out k hlt hlt2
      have hcl := HC.out _ (List.getElem_mem hlt)
      have hU1 := H1.out.cs _ (List.getElem_mem hlt)
      have hU2 := H2.out.cs _ (List.getElem_mem hlt2)
      rw [heq] at q0 q1 hU2
      have HU1 := Lib.hid hU1
      have HU2 := Lib.hid hU2
      clear hca hcb hU1 hU2 heq
      generalize L2[k].2 = uv2 at *
      generalize L1[k] = x at *
      obtain ⟨f, uv1⟩ := x
      dsimp only at *
      go_wp2
      go_quiet (first
        | (go_at_call 55; refine quiet_at (sameNums1 _ _ f.cs _ (HU1.out.keep ((Keep.refl Non _).drewN _) (fun _ _ h => h)) (HU2.out.keep ((Keep.refl Non _).drewN _) (fun _ _ h => h)) hcl)))
      go_wp2
      go_roundw
      case measure => simp [intOf]; omega
      case rel => exact ⟨k + 1, m + nq, by omega, by go_num, rfl⟩
    · go_wp2
      go_ret
      exact ⟨rfl, m, rfl⟩
set_option maxRecDepth 100000 in
set_option maxHeartbeats 4000000 in
theorem sameSegsT (v1 v2 : Value) (L1 L2 : List SgV) (w : World) (h1 : SegR w v1 L1) (h2 : SegR w v2 L2) (hm : L1.map SgV.sg = L2.map SgV.sg) (hl : L1.length ≤ 1000) (ho : ∀ x ∈ L1, x.sg.ok) :
    Calls Tryz.prog 12 #[v1, v2] w fun e w' => e = .returned (.bool true) ∧ ∃ n, w' = w.drewN n := by
  have hn : L2.length = L1.length := by have := congrArg List.length hm; simpa using this.symm
  have h2r := h2.reads
  rw [hn] at h2r
  have hgt : ∀ k (hk : k < L1.length) (hk2 : k < L2.length), L2[k].sg = L1[k].sg := fun k hk hk2 => by
    have e := congrArg (fun l => l[k]?) hm
    simp [List.getElem?_eq_getElem hk, List.getElem?_eq_getElem hk2] at e
    exact e.symm
  obtain ⟨fa, fc, rfl⟩ := h1.reads.slice
  obtain ⟨fb, fd, rfl⟩ := h2r.slice
  have H1 := Lib.hid h1
  have H2 := Lib.hid h2
  have HR2 := Lib.hid h2r
  have HGT := Lib.hid hgt
  have HO := Lib.hid ho
  have HN := Lib.hid hn
  clear h1 h2 h2r hgt ho hn hm
  go_enter Tryz.func12, Tryz.ntmps12
  go_wp2
  go_loopw [13] (fun i wr => ∃ k m : Nat, k ≤ L1.length ∧ i = .int .i64 k ∧ wr = w.drewN m) (fun i _ => L1.length - (intOf i).toNat)
  case atStart => exact ⟨0, 0, by omega, rfl, rfl⟩
  case round =>
    obtain ⟨k, m, hk, rfl, rfl⟩ := hrel
    by_cases hlt : k < L1.length
    · have hlt2 : k < L2.length := by rw [HN.out]; exact hlt
      obtain ⟨ba, offa, ca', hva, hca⟩ := H1.out.reads.at (by omega) (by omega)
      cases hva
      obtain ⟨bb, offb, cb', hvb, hcb⟩ := HR2.out.at (by omega) (by omega)
      cases hvb
      obtain ⟨p0, p1, p2, p3⟩ := seg_at hca hlt
      obtain ⟨q0, q1, q2, q3⟩ := seg_at hcb hlt2
      have heq := HGT.out k hlt hlt2
      have hok := HO.out _ (List.getElem_mem hlt)
      have hA1 := H1.out.args _ (List.getElem_mem hlt)
      have hA2 := H2.out.args _ (List.getElem_mem hlt2)
      have hF1 := H1.out.funs _ (List.getElem_mem hlt)
      have hF2 := H2.out.funs _ (List.getElem_mem hlt2)
      have e1 : L2[k].args = L1[k].args := congrArg Sg.args heq
      have e2 : L2[k].os = L1[k].os := congrArg Sg.os heq
      have e3 : L2[k].arch = L1[k].arch := congrArg Sg.arch heq
      have e4 : L2[k].funs.map (·.1) = L1[k].funs.map (·.1) := congrArg Sg.funs heq
      rw [e1] at hA2
      rw [e2] at q1
      rw [e3] at q2
      have HA1 := Lib.hid hA1
      have HA2 := Lib.hid hA2
      have HF1 := Lib.hid hF1
      have HF2 := Lib.hid hF2
      have HE4 := Lib.hid e4
      have hal : L1[k].args.length ≤ 1000000 := by have := hok.nargs; simp only [SgV.sg] at this; omega
      have hfl : L1[k].funs.length ≤ 1000 := by have := hok.nfun; simp only [SgV.sg, List.length_map] at this; omega
      have HCL : Hid (∀ x ∈ L1[k].funs, x.1.cs.length ≤ 1000) := Lib.hid (fun x hx => by have := (hok.fun1 x.1 (List.mem_map_of_mem hx)).2; omega)
      clear hca hcb hA1 hA2 hF1 hF2 heq e1 e2 e3 e4 hok
      generalize L2[k].av = av2 at *
      generalize L2[k].fv = fv2 at *
      generalize L2[k].funs = funs2 at *
      generalize L1[k] = x at *
      obtain ⟨args, os, arch, funs, av, fv⟩ := x
      dsimp only at *
      go_wp2
      go_quiet (first
        | (go_at_call 31; refine quiet_at (sameTexts _ _ args _ (HA1.out.keep ((Keep.refl Non _).drewN _) (fun _ _ h => h)) (HA2.out.keep ((Keep.refl Non _).drewN _) (fun _ _ h => h)) hal))
        | (go_at_call 32; refine quiet_at (sameFuncsT _ _ funs funs2 _ (HF1.out.far ((Keep.refl Non _).drewN _)) (HF2.out.far ((Keep.refl Non _).drewN _)) HE4.out.symm hfl HCL.out)))
      go_wp2
      go_roundw
      case measure => simp [intOf]; omega
      case rel => exact ⟨k + 1, m + nq, by omega, by go_num, rfl⟩
    · go_wp2
      go_ret
      exact ⟨rfl, m, rfl⟩
end Go.Proofs.YtcpegoofbenoiaaGreatDoor
