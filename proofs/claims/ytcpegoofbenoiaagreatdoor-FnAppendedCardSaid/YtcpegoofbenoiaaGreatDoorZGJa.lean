/-
  HOW ARGUMENTS ARE OPENED: segments: a struct with a slice of texts, two texts and a slice of functions, each with a slice of numbers; an array of bytes.
-/
import Derived.Test.YtcpegoofbenoiaaGreatDoorZGCs
import Derived.Test.YtcpegoofbenoiaaGreatDoorZGMem
import Derived.Lib.SmallJoins
namespace Go.Proofs.YtcpegoofbenoiaaGreatDoor
open Go.RowKit
open Go.Joins Go.ChangeShapes Go.WideShapes Go.ChangeAt Go.Deep
open Plain (M64)

/-- What of a function is known as it comes in. -/
structure Fc.wide (f : Fc) : Prop where
  wp : f.pkg < 4294967296
  wf : f.fn < 4294967296
  wv : ∀ x ∈ f.cs, x < 4294967296
  wn : f.cs.length ≤ maxLen
structure Sg.wide (x : Sg) : Prop where
  wa : ∀ s ∈ x.args, s.size ≤ maxLen
  wn : x.args.length ≤ maxLen
  wo : x.os.size ≤ maxLen
  wr : x.arch.size ≤ maxLen
  wf : ∀ y ∈ x.funs, y.wide
  wm : x.funs.length ≤ maxLen
section
variable {H : Type} {enc : TypeId × Value → H} {P : Program} {w : World}
theorem sliceCell {t e : TypeId} {n : Nat} {v : Value} {y : DataW H × List MemPlace} (ht : P.underlying t = some (.slice e)) (h : DataW.trod enc P w 0 (fun _ => true) true n t [v] = some y) : ∃ a l c, v = .slice a l c ∧ DataW.Trod enc P w 0 (fun _ => true) true t (.slice a l c) y.1 y.2 ∧ l ≤ maxLen := by
  have h' := h
  rcases open_slice ht h with ⟨h0, _⟩ | ⟨ad, l, c, m, k, D, Pl, hcs, _, hl, hm, _⟩
  · simp only [List.cons.injEq, and_true] at h0
    subst h0
    exact ⟨none, 0, 0, rfl, ⟨n, h'⟩, by decide⟩
  · simp only [List.cons.injEq, and_true] at hcs
    subst hcs
    exact ⟨some ad, l, c, rfl, ⟨n, h'⟩, by omega⟩
theorem u32Cell {t : TypeId} {n : Nat} {v : Value} {y : DataW H × List MemPlace} (ht : P.underlying t = some (.int .u32)) (h : DataW.trod enc P w 0 (fun _ => true) true n t [v] = some y) : ∃ x : Nat, v = .int .u32 x ∧ x < 4294967296 := by
  obtain ⟨x, e, _, hw⟩ := DataW.trod_int ht h
  simp only [List.cons.injEq, and_true] at e
  subst e
  have hb := bounds_u32 hw
  exact ⟨x.toNat, by rw [Int.toNat_of_nonneg hb.1], by omega⟩
/-- Numbers of 32 bits that came in. -/
theorem IsRow.u32 {a : Option Addr} {len cap : Nat} {zs : List Int} (h : IsRow .u32 w a len cap zs) : ∃ l : List Nat, l.length = len ∧ Reads w 1 (.slice a len cap) len (U32 l) ∧ ∀ x ∈ l, x < 4294967296 := by
  rcases h with ⟨rfl, rfl, rfl, rfl⟩ | ⟨x, rfl, hl, hm, hz, hc, hw⟩
  · exact ⟨[], rfl, ⟨by simp [U32], .inl ⟨rfl, rfl⟩⟩, by simp⟩
  · refine ⟨(zs.take len).map Int.toNat, by simp; omega, ⟨by simp [U32]; omega, .inr ⟨x, cap, rfl, fun j u hj => ?_⟩⟩, fun y hy => ?_⟩
    · have hjl : j < len := by
        have := (List.getElem?_eq_some_iff.1 hj).1
        simp [U32] at this; omega
      have hjz : j < zs.length := by omega
      rw [hc j hjz]
      have hb := range_u32 hw j
      rw [U32_get, List.getElem?_map, List.getElem?_take, if_pos hjl, List.getElem?_eq_getElem hjz] at hj
      rw [List.getElem?_eq_getElem hjz] at hb
      simp at hj hb
      subst hj
      rw [List.getD_eq_getElem?_getD, List.getElem?_eq_getElem hjz]
      simp
      omega
    · obtain ⟨z, hz', rfl⟩ := List.mem_map.1 hy
      have := bounds_u32 (hw z (List.mem_of_mem_take hz'))
      omega
/-- What is asked of the types of segments that come in. -/
structure FTypes (P : Program) (t : TypeId) : Prop where
  und : ∃ e tu eu f0 f1 f2, P.underlying t = some (.slice e) ∧ P.underlying e = some (.struct #[f0, f1, f2]) ∧ oneCellFields P #[f0, f1, f2] = true ∧ P.cellsOf e = 3 ∧ P.underlying f0.type = some (.int .u32) ∧ P.underlying f1.type = some (.int .u32) ∧ f2.type = tu ∧ P.underlying tu = some (.slice eu) ∧ P.underlying eu = some (.int .u32) ∧ P.cellsOf eu = 1
theorem funs_open {t : TypeId} {a : Option Addr} {len cap : Nat} {d : DataW H} {ps : List MemPlace} (T : FTypes P t) (h : DataW.Trod enc P w 0 (fun _ => true) true t (.slice a len cap) d ps) :
    ∃ L : List (Fc × Value), L.length = len ∧ FR w (.slice a len cap) L ∧ ∀ x ∈ L, x.1.wide := by
  obtain ⟨e, tu, eu, f0, f1, f2, ht, he, hone, hC, h0, h1, e2, htu, heu, hcu⟩ := T.und
  obtain ⟨L, hL, hr, hG⟩ := reads_of (f := fl3) (G := fun x : Fc × Value => Reads w 1 x.2 x.1.cs.length (U32 x.1.cs) ∧ x.1.wide) (size := 3) (cap := cap) (w := w) (a := a) (len := len) fl3_length (by decide) (by
    rcases structs_open ht he hone hC h with h | ⟨ad, rfl, _, _, hc⟩
    · exact .inl h
    · refine .inr ⟨ad, rfl, fun i hil => ?_⟩
      obtain ⟨cs, hl, hcell, hf⟩ := hc i hil
      obtain ⟨v0, y0, n0, c0, r0⟩ := hf 0 f0 rfl
      obtain ⟨v1, y1, n1, c1, r1⟩ := hf 1 f1 rfl
      obtain ⟨v2, y2, n2, c2, r2⟩ := hf 2 f2 rfl
      rw [e2] at r2
      obtain ⟨x0, rfl, w0⟩ := u32Cell h0 r0
      obtain ⟨x1, rfl, w1⟩ := u32Cell h1 r1
      obtain ⟨a2, l2, k2, rfl, t2, m2⟩ := sliceCell htu r2
      obtain ⟨zs, hz⟩ := isRow_open htu heu hcu t2
      obtain ⟨l, hll, hlr, hlv⟩ := hz.u32
      subst hll
      refine ⟨(⟨x0, x1, l⟩, .slice a2 l.length k2), ⟨hlr, ⟨w0, w1, hlv, m2⟩⟩, fun j u hj => hcell j u ?_⟩
      match j, hj with
      | 0, hj => rw [c0]; exact hj
      | 1, hj => rw [c1]; exact hj
      | 2, hj => rw [c2]; exact hj)
  subst hL
  exact ⟨L, rfl, ⟨hr, fun x hx => (hG x hx).1⟩, fun x hx => (hG x hx).2⟩
structure GTypes (P : Program) (e : TypeId) : Prop where
  und : ∃ ts s tf f0 f1 f2 f3, P.underlying e = some (.struct #[f0, f1, f2, f3]) ∧ oneCellFields P #[f0, f1, f2, f3] = true ∧ P.cellsOf e = 4 ∧ f0.type = ts ∧ P.underlying ts = some (.slice s) ∧ P.underlying s = some .string ∧ P.cellsOf s = 1 ∧ P.underlying f1.type = some .string ∧ P.underlying f2.type = some .string ∧ f3.type = tf ∧ FTypes P tf
/-- A segment's four cells. -/
theorem seg_cells {ts s tf t1 t2 : TypeId} {n0 n1 n2 n3 : Nat} {v0 v1 v2 v3 : Value} {y0 y1 y2 y3 : DataW H × List MemPlace} (hts : P.underlying ts = some (.slice s)) (hs : P.underlying s = some .string) (hcs : P.cellsOf s = 1) (h1 : P.underlying t1 = some .string) (h2 : P.underlying t2 = some .string) (hF : FTypes P tf)
    (r0 : DataW.trod enc P w 0 (fun _ => true) true n0 ts [v0] = some y0) (r1 : DataW.trod enc P w 0 (fun _ => true) true n1 t1 [v1] = some y1) (r2 : DataW.trod enc P w 0 (fun _ => true) true n2 t2 [v2] = some y2) (r3 : DataW.trod enc P w 0 (fun _ => true) true n3 tf [v3] = some y3) :
    ∃ x : SgV, [v0, v1, v2, v3] = sl4 x ∧ (Reads w 1 x.av x.args.length (Ts x.args) ∧ FR w x.fv x.funs) ∧ x.sg.wide := by
  obtain ⟨a0, l0, k0, rfl, q0, m0⟩ := sliceCell hts r0
  obtain ⟨args, ha1, ha2, ha3, ha4⟩ := strs_open hts hs hcs q0
  obtain ⟨s1, e1, _, z1⟩ := DataW.trod_string h1 r1
  obtain ⟨s2, e2, _, z2⟩ := DataW.trod_string h2 r2
  simp only [List.cons.injEq, and_true] at e1 e2
  subst e1; subst e2
  have hF' := hF
  obtain ⟨e, tu, eu, f0, f1, f2, ht, _⟩ := hF.und
  obtain ⟨a3, l3, k3, rfl, q3, m3⟩ := sliceCell ht r3
  obtain ⟨L, hL, hfr, hfw⟩ := funs_open hF' q3
  subst hL; subst ha1
  exact ⟨⟨args, s1, s2, L, _, _⟩, rfl, ⟨ha2, hfr⟩, ⟨ha3, ha4, z1, z2, fun f hf => by obtain ⟨y, hy, rfl⟩ := List.mem_map.1 hf; exact hfw y hy, by simpa [SgV.sg] using m3⟩⟩
theorem segs_open {t e : TypeId} {a : Option Addr} {len cap : Nat} {d : DataW H} {ps : List MemPlace} (ht : P.underlying t = some (.slice e)) (T : GTypes P e) (h : DataW.Trod enc P w 0 (fun _ => true) true t (.slice a len cap) d ps) :
    ∃ L : List SgV, L.length = len ∧ SegR w (.slice a len cap) L ∧ (∀ x ∈ L, x.sg.wide) ∧ len ≤ maxLen := by
  obtain ⟨ts, s, tf, f0, f1, f2, f3, he, hone, hC, e0, hts, hs, hcs, h1, h2, e3, hF⟩ := T.und
  have hlen : len ≤ maxLen := by
    obtain ⟨fuel, hf⟩ := h
    rcases open_slice ht hf with ⟨h0, _⟩ | ⟨ad, l, c, m, k, D, Pl, hcs, _, hl, hm, _⟩
    · simp [Value.cells] at h0
      omega
    · simp [Value.cells] at hcs
      omega
  obtain ⟨L, hL, hr, hG⟩ := reads_of (f := sl4) (G := fun x : SgV => (Reads w 1 x.av x.args.length (Ts x.args) ∧ FR w x.fv x.funs) ∧ x.sg.wide) (size := 4) (cap := cap) (w := w) (a := a) (len := len) sl4_length (by decide) (by
    rcases structs_open ht he hone hC h with h | ⟨ad, rfl, _, _, hc⟩
    · exact .inl h
    · refine .inr ⟨ad, rfl, fun i hil => ?_⟩
      obtain ⟨cs, hl, hcell, hf⟩ := hc i hil
      obtain ⟨v0, y0, n0, c0, r0⟩ := hf 0 f0 rfl
      obtain ⟨v1, y1, n1, c1, r1⟩ := hf 1 f1 rfl
      obtain ⟨v2, y2, n2, c2, r2⟩ := hf 2 f2 rfl
      obtain ⟨v3, y3, n3, c3, r3⟩ := hf 3 f3 rfl
      rw [e0] at r0
      rw [e3] at r3
      obtain ⟨x, hx, hG⟩ := seg_cells hts hs hcs h1 h2 hF r0 r1 r2 r3
      refine ⟨x, hG, fun j u hj => hcell j u ?_⟩
      rw [← hx] at hj
      match j, hj with
      | 0, hj => rw [c0]; exact hj
      | 1, hj => rw [c1]; exact hj
      | 2, hj => rw [c2]; exact hj
      | 3, hj => rw [c3]; exact hj)
  subst hL
  exact ⟨L, rfl, ⟨hr, fun x hx => (hG x hx).1.1, fun x hx => (hG x hx).1.2⟩, fun x hx => (hG x hx).2, hlen⟩
theorem seg_open {e : TypeId} {v : Value} {r : Reach} {b0 : Nat} {d : DataW H} {ps : List MemPlace} (T : GTypes P e) (hv : Value.okWide P w r b0 e v) (h : DataW.Trod enc P w 0 (fun _ => true) true e v d ps) :
    ∃ x : SgV, v = .agg #[x.av, .string x.os, .string x.arch, x.fv] ∧ Reads w 1 x.av x.args.length (Ts x.args) ∧ FR w x.fv x.funs ∧ x.sg.wide := by
  obtain ⟨ts, s, tf, f0, f1, f2, f3, he, hone, hC, e0, hts, hs, hcs, h1, h2, e3, hF⟩ := T.und
  obtain ⟨c0, c1, c2, c3, y0, y1, y2, y3, n, rfl, _, _, t0, t1, t2, t3⟩ := open_agg4 he hone hC hv h
  rw [e0] at t0
  rw [e3] at t3
  obtain ⟨x, hx, ⟨ha, hf⟩, hw⟩ := seg_cells hts hs hcs h1 h2 hF t0 t1 t2 t3
  simp only [sl4, List.cons.injEq, and_true] at hx
  obtain ⟨rfl, rfl, rfl, rfl⟩ := hx
  exact ⟨x, rfl, ha, hf, hw⟩
theorem okWide_array {n : Nat} {e t : TypeId} {v : Value} {r : Reach} {b0 : Nat} (ht : P.underlying t = some (.array n e)) (h : Value.okWide P w r b0 t v) : ∃ cs, v = .agg cs ∧ cs.size = P.cellsOf t := by
  simp only [Value.okWide, ht] at h
  obtain ⟨cs, h1, h2, _⟩ := h
  exact ⟨cs, h1, h2⟩
/-- An array of bytes. -/
theorem bytes_open {n : Nat} {e t : TypeId} {v : Value} {r : Reach} {b0 : Nat} {d : DataW H} {ps : List MemPlace} (ht : P.underlying t = some (.array n e)) (he : P.underlying e = some (.int .u8)) (hce : P.cellsOf e = 1) (hct : P.cellsOf t = n) (hv : Value.okWide P w r b0 t v) (h : DataW.Trod enc P w 0 (fun _ => true) true t v d ps) :
    ∃ l : List UInt8, l.length = n ∧ v = .agg (B l).toArray := by
  obtain ⟨cs, rfl, hsz⟩ := okWide_array ht hv
  obtain ⟨fuel, hf⟩ := h
  obtain ⟨xs, m, _, _, hlen, hxn, hel⟩ := DataW.trod_array ht hf
  have hcl : (Value.agg cs).cells.toList = cs.toList := rfl
  rw [hct] at hsz
  obtain ⟨l, hl, hq⟩ := list_of (α := UInt8) (Q := fun i b => cs.toList[i]? = some (.int .u8 (b.toNat : Int))) n (fun i hi => by
    have h1 := hel i hi
    rw [hce, List.getElem?_eq_getElem (by omega)] at h1
    obtain ⟨z, e1, _, hw⟩ := DataW.trod_int he h1
    have hb := bounds_u8 hw
    refine ⟨UInt8.ofNat z.toNat, ?_⟩
    rw [Nat.mul_one] at e1
    have hi' : i < cs.toList.length := by simp; omega
    have e2 : (cs.toList.drop i).take 1 = [.int .u8 z] := e1
    rw [List.drop_eq_getElem_cons hi'] at e2
    simp at e2
    rw [List.getElem?_eq_getElem hi']
    simp [e2]
    omega)
  refine ⟨l, hl, ?_⟩
  have : cs.toList = B l := by
    apply List.ext_getElem?
    intro i
    by_cases hi : i < l.length
    · rw [hq i hi, B_get, List.getElem?_eq_getElem hi]; rfl
    · rw [List.getElem?_eq_none (by simp; omega), List.getElem?_eq_none (by rw [B_length]; omega)]
  rw [← this]
end
theorem funT : FTypes Tryz.prog 25 := ⟨⟨_, _, _, _, _, _, Tryz.underlying25, Tryz.underlying82, by kernel_rfl, by kernel_rfl, Tryz.underlying36, Tryz.underlying36, rfl, Tryz.underlying49, Tryz.underlying36, by kernel_rfl⟩⟩
theorem segT : GTypes Tryz.prog 27 := ⟨⟨_, _, _, _, _, _, _, Tryz.underlying27, by kernel_rfl, by kernel_rfl, rfl, Tryz.underlying24, Tryz.underlying9, by kernel_rfl, Tryz.underlying9, Tryz.underlying9, rfl, funT⟩⟩
set_option maxRecDepth 100000 in
theorem segsOpenT {H : Type} {enc : TypeId × Value → H} {w : World} {a : Option Addr} {len cap : Nat} {d : DataW H} {ps : List MemPlace} (h : DataW.Trod enc Tryz.prog w 0 (fun _ => true) true 23 (.slice a len cap) d ps) :
    ∃ L : List SgV, L.length = len ∧ SegR w (.slice a len cap) L ∧ (∀ x ∈ L, x.sg.wide) ∧ len ≤ maxLen := segs_open (P := Tryz.prog) Tryz.underlying23 segT h
set_option maxRecDepth 100000 in
theorem segOpenT {H : Type} {enc : TypeId × Value → H} {w : World} {base : Nat} {v : Value} {d : DataW H} {ps : List MemPlace} (hv : Value.okWide Tryz.prog w .any base 27 v) (h : DataW.Trod enc Tryz.prog w 0 (fun _ => true) true 27 v d ps) :
    ∃ x : SgV, v = .agg #[x.av, .string x.os, .string x.arch, x.fv] ∧ Reads w 1 x.av x.args.length (Ts x.args) ∧ FR w x.fv x.funs ∧ x.sg.wide := seg_open (P := Tryz.prog) segT hv h
set_option maxRecDepth 100000 in
theorem hashOpenT {H : Type} {enc : TypeId × Value → H} {w : World} {base : Nat} {v : Value} {d : DataW H} {ps : List MemPlace} (hv : Value.okWide Tryz.prog w .any base 22 v) (h : DataW.Trod enc Tryz.prog w 0 (fun _ => true) true 22 v d ps) :
    ∃ l : List UInt8, l.length = 16 ∧ v = .agg (B l).toArray := bytes_open (P := Tryz.prog) (by kernel_rfl) Tryz.underlying5 (by kernel_rfl) (by kernel_rfl) hv h
end Go.Proofs.YtcpegoofbenoiaaGreatDoor
/-
  CONTRACT of zzFits3. (taken by a program out of the texts of seat A.)
-/
namespace Go.Proofs.YtcpegoofbenoiaaGreatDoor
open Go.RowKit
open Go.ChangeShapes Go.WideShapes Go.ChangeAt Go.Deep
open Plain (M64)

/-- A test that leaves the world alone. -/
def OkPost (w : World) (Q : Prop) (e : Ending) (w' : World) : Prop := ∃ ok, e = .returned (.bool ok) ∧ w' = w ∧ (ok = true → Q)
set_option maxRecDepth 100000 in
set_option maxHeartbeats 1000000 in
theorem fits3 (sv : Value) (l : List ByteArray) (w : World) (hs : Reads w 1 sv l.length (Ts l)) (hll : l.length ≤ 9223372036854775807) (hsz : ∀ s ∈ l, s.size ≤ maxLen) :
    Calls Tryz.prog 13 #[sv] w (OkPost w (l.length ≤ 2147483647 ∧ ∀ s ∈ l, s.size ≤ 2147483647)) := by
  obtain ⟨aa, ca, rfl⟩ := hs.slice
  have HSZ := Lib.hid hsz
  clear hsz
  by_cases hbig : 2147483647 < l.length
  · go_enter Tryz.func13, Tryz.ntmps13
    go_wp2
    go_ret
    exact ⟨false, rfl, rfl, fun h => by cases h⟩
  go_enter Tryz.func13, Tryz.ntmps13
  go_wp2
  go_loop [10] (fun i => ∃ k : Nat, k ≤ l.length ∧ i = .int .i64 k ∧ (∀ s ∈ l.take k, s.size ≤ 2147483647)) (fun i => l.length - (intOf i).toNat)
  case atStart => exact ⟨0, by omega, rfl, by simp⟩
  case round =>
    obtain ⟨k, hk, rfl, hv⟩ := hrel
    by_cases hlt : k < l.length
    · obtain ⟨ba, offa, ca', hva, hca⟩ := hs.at (by omega) (by omega)
      cases hva
      have d0 := hca k _ (Ts_at hlt)
      have HV : Hid (l[k].size ≤ 2147483647 → ∀ m ∈ l.take (k + 1), m.size ≤ 2147483647) := Lib.hid (fun h => take_snoc_mem hlt hv h)
      have hxz := HSZ.out _ (List.getElem_mem hlt)
      unfold maxLen at hxz
      clear hv hca
      generalize l[k] = s at *
      by_cases hx : s.size ≤ 2147483647
      · go_wp2
        go_round
        case measure => simp [intOf]; omega
        case rel => exact ⟨k + 1, by omega, by go_num, HV.out hx⟩
      · go_wp2
        go_ret
        exact ⟨false, rfl, rfl, fun h => by cases h⟩
    · have hkl : k = l.length := by omega
      subst hkl
      rw [List.take_of_length_le (Nat.le_refl _)] at hv
      have HV := Lib.hid hv
      clear hv
      go_wp2
      go_ret
      exact ⟨true, rfl, rfl, fun _ => ⟨by omega, HV.out⟩⟩
/-- A test that leaves what there is as it is. -/
def OkP (w : World) (Q : Prop) (e : Ending) (w' : World) : Prop := ∃ ok, e = .returned (.bool ok) ∧ Keep Non w w' ∧ (ok = true → Q)
end Go.Proofs.YtcpegoofbenoiaaGreatDoor
/-
  CONTRACTS of the tests of segments that come in: none is too great.
-/
namespace Go.Proofs.YtcpegoofbenoiaaGreatDoor
open Go.RowKit
open Go.ChangeShapes Go.WideShapes Go.ChangeAt Go.Deep
open Plain (M64)

set_option maxRecDepth 100000 in
set_option maxHeartbeats 1000000 in
theorem fits7 (f : Fc) (cv : Value) (w : World) (hc : Reads w 1 cv f.cs.length (U32 f.cs)) (hw : f.wide) : Calls Tryz.prog 33 #[.agg #[.int .u32 f.pkg, .int .u32 f.fn, cv]] w (OkP w True) := by
  obtain ⟨ca, cc, rfl⟩ := hc.slice
  have h1 := hw.wn
  unfold maxLen at h1
  clear hc hw
  by_cases c1 : f.cs.length ≤ 2147483647
  · go_enter Tryz.func33, Tryz.ntmps33
    go_wp2
    go_ret
    exact ⟨true, rfl, (Keep.refl _ _).alloc _, fun _ => trivial⟩
  · go_enter Tryz.func33, Tryz.ntmps33
    go_wp2
    go_ret
    exact ⟨false, rfl, (Keep.refl _ _).alloc _, fun h => by cases h⟩
set_option maxRecDepth 100000 in
set_option maxHeartbeats 1000000 in
theorem fits6 (v : Value) (L : List (Fc × Value)) (w : World) (h : FR w v L) (hw : ∀ x ∈ L, x.1.wide) (hl : L.length ≤ maxLen) : Calls Tryz.prog 14 #[v] w (OkP w (L.length ≤ 2147483647)) := by
  obtain ⟨fa, fc, rfl⟩ := h.reads.slice
  unfold maxLen at hl
  have HH := Lib.hid h
  have HW := Lib.hid hw
  clear h hw
  by_cases hbig : 2147483647 < L.length
  · go_enter Tryz.func14, Tryz.ntmps14
    go_wp2
    go_ret
    exact ⟨false, rfl, Keep.refl _ _, fun h => by cases h⟩
  go_enter Tryz.func14, Tryz.ntmps14
  go_wp2
  go_loopw [10] (fun i wr => ∃ k : Nat, k ≤ L.length ∧ i = .int .i64 k ∧ Keep Non w wr) (fun i _ => L.length - (intOf i).toNat)
  case atStart => exact ⟨0, by omega, rfl, Keep.refl _ _⟩
  case round =>
    obtain ⟨k, hk, rfl, hkp⟩ := hrel
    by_cases hlt : k < L.length
    · have hR := (HH.out.far hkp)
      obtain ⟨ba, off, ca', hva, hca⟩ := hR.reads.at (by omega) (by omega)
      cases hva
      obtain ⟨q0, q1, q2⟩ := three_at hca hlt
      have HU := Lib.hid (hR.cs _ (List.getElem_mem hlt))
      have HWD := Lib.hid (HW.out _ (List.getElem_mem hlt))
      have HKP := Lib.hid hkp
      clear hca hR hkp
      generalize L[k] = x at *
      obtain ⟨f, uv⟩ := x
      dsimp only at *
      obtain ⟨ua, uc, rfl⟩ := HU.out.slice
      go_wp2_with fail
      refine (fits7 f _ _ (HU.out.alloc _) HWD.out).mono ?_
      rintro e w2 ⟨ok, rfl, k2, _⟩
      cases ok with
      | true =>
        go_wp2
        go_roundw
        case measure => simp [intOf]; omega
        case rel => exact ⟨k + 1, by omega, by go_num, (HKP.out.alloc _).trans' k2⟩
      | false =>
        go_wp2
        go_ret
        exact ⟨false, rfl, (HKP.out.alloc _).trans' k2, fun h => by cases h⟩
    · have hkl : k = L.length := by omega
      subst hkl
      have HKP := Lib.hid hkp
      clear hkp
      go_wp2
      go_ret
      exact ⟨true, rfl, HKP.out, fun _ => by omega⟩
/-- What the test of a segment tells. -/
def Sg.fits (s : Sg) : Prop := s.funs.length ≤ 2147483647
set_option maxRecDepth 100000 in
set_option maxHeartbeats 1000000 in
theorem fits5 (x : SgV) (w : World) (ha : Reads w 1 x.av x.args.length (Ts x.args)) (hf : FR w x.fv x.funs) (hw : x.sg.wide) : Calls Tryz.prog 7 #[.agg #[x.av, .string x.os, .string x.arch, x.fv]] w (OkP w x.sg.fits) := by
  obtain ⟨args, os, arch, funs, av, fv⟩ := x
  dsimp only at *
  obtain ⟨aa, ac, rfl⟩ := ha.slice
  obtain ⟨fa, fc, rfl⟩ := hf.reads.slice
  obtain ⟨w1, w2, w3, w4, w5, w6⟩ := hw
  simp only [SgV.sg] at w1 w2 w3 w4 w5 w6
  have hwf : ∀ x ∈ funs, x.1.wide := fun x hx => w5 _ (List.mem_map_of_mem hx)
  have hfl : funs.length ≤ maxLen := by simpa using w6
  have ho : os.size ≤ 9223372036854775807 := by unfold maxLen at w3; omega
  have hr : arch.size ≤ 9223372036854775807 := by unfold maxLen at w4; omega
  have hal : args.length ≤ 9223372036854775807 := by unfold maxLen at w2; omega
  have HA := Lib.hid (ha.alloc (.cells #[.slice aa args.length ac, .string os, .string arch, .slice fa funs.length fc] 27))
  have HF := Lib.hid (hf.far ((Keep.refl Non w).alloc (.cells #[.slice aa args.length ac, .string os, .string arch, .slice fa funs.length fc] 27)))
  have HW1 := Lib.hid w1
  have HWF := Lib.hid hwf
  clear ha hf w1 w5 w6 hwf w2 w3 w4
  go_enter Tryz.func7, Tryz.ntmps7
  go_wp2_with fail
  refine (fits3 _ args _ HA.out hal HW1.out).mono ?_
  rintro e w2 ⟨ok1, rfl, rfl, _⟩
  cases ok1 with
  | false =>
    go_wp2
    go_ret
    exact ⟨false, rfl, (Keep.refl _ _).alloc _, fun h => by cases h⟩
  | true =>
    by_cases c2 : os.size ≤ 2147483647
    · by_cases c3 : arch.size ≤ 2147483647
      · go_wp2_with fail
        refine (fits6 _ funs _ HF.out HWF.out hfl).mono ?_
        rintro e w3 ⟨ok3, rfl, k3, hok3⟩
        cases ok3 with
        | false =>
          clear hok3
          go_wp2
          go_ret
          exact ⟨false, rfl, ((Keep.refl _ _).alloc _).trans' k3, fun h => by cases h⟩
        | true =>
          have HO := Lib.hid (hok3 rfl)
          clear hok3
          go_wp2
          go_ret
          exact ⟨true, rfl, ((Keep.refl _ _).alloc _).trans' k3, fun _ => by simpa [Sg.fits, SgV.sg] using HO.out⟩
      · go_wp2
        go_ret
        exact ⟨false, rfl, (Keep.refl _ _).alloc _, fun h => by cases h⟩
    · go_wp2
      go_ret
      exact ⟨false, rfl, (Keep.refl _ _).alloc _, fun h => by cases h⟩
set_option maxRecDepth 100000 in
set_option maxHeartbeats 1000000 in
theorem fits4 (v : Value) (L : List SgV) (w : World) (h : SegR w v L) (hw : ∀ x ∈ L, x.sg.wide) (hl : L.length ≤ maxLen) : Calls Tryz.prog 6 #[v] w (OkP w (L.length ≤ 2147483647 ∧ ∀ x ∈ L, x.sg.fits)) := by
  obtain ⟨fa, fc, rfl⟩ := h.reads.slice
  unfold maxLen at hl
  have HH := Lib.hid h
  have HW := Lib.hid hw
  clear h hw
  by_cases hbig : 2147483647 < L.length
  · go_enter Tryz.func6, Tryz.ntmps6
    go_wp2
    go_ret
    exact ⟨false, rfl, Keep.refl _ _, fun h => by cases h⟩
  go_enter Tryz.func6, Tryz.ntmps6
  go_wp2
  go_loopw [10] (fun i wr => ∃ k : Nat, k ≤ L.length ∧ i = .int .i64 k ∧ Keep Non w wr ∧ (∀ x ∈ L.take k, x.sg.fits)) (fun i _ => L.length - (intOf i).toNat)
  case atStart => exact ⟨0, by omega, rfl, Keep.refl _ _, by simp⟩
  case round =>
    obtain ⟨k, hk, rfl, hkp, hv⟩ := hrel
    by_cases hlt : k < L.length
    · have hR := (HH.out.far hkp)
      obtain ⟨ba, off, ca', hva, hca⟩ := hR.reads.at (by omega) (by omega)
      cases hva
      obtain ⟨q0, q1, q2, q3⟩ := seg_at hca hlt
      have HV : Hid (L[k].sg.fits → ∀ m ∈ L.take (k + 1), m.sg.fits) := Lib.hid (fun h => take_snoc_mem hlt hv h)
      have HA := Lib.hid (hR.args _ (List.getElem_mem hlt))
      have HF := Lib.hid (hR.funs _ (List.getElem_mem hlt))
      have HWD := Lib.hid (HW.out _ (List.getElem_mem hlt))
      have HKP := Lib.hid hkp
      clear hv hca hR hkp
      generalize L[k] = x at *
      obtain ⟨args, os, arch, funs, av, fv⟩ := x
      dsimp only at *
      obtain ⟨aa, ac, rfl⟩ := HA.out.slice
      obtain ⟨ua, uc, rfl⟩ := HF.out.reads.slice
      go_wp2_with fail
      refine (fits5 ⟨args, os, arch, funs, _, _⟩ _ (HA.out.alloc _) (HF.out.far ((Keep.refl _ _).alloc _)) HWD.out).mono ?_
      rintro e w2 ⟨ok, rfl, k2, hok⟩
      cases ok with
      | true =>
        have HOK := Lib.hid (hok rfl)
        clear hok
        go_wp2
        go_roundw
        case measure => simp [intOf]; omega
        case rel => exact ⟨k + 1, by omega, by go_num, (HKP.out.alloc _).trans' k2, HV.out HOK.out⟩
      | false =>
        clear hok
        go_wp2
        go_ret
        exact ⟨false, rfl, (HKP.out.alloc _).trans' k2, fun h => by cases h⟩
    · have hkl : k = L.length := by omega
      subst hkl
      rw [List.take_of_length_le (Nat.le_refl _)] at hv
      have HV := Lib.hid hv
      have HKP := Lib.hid hkp
      clear hv hkp
      go_wp2
      go_ret
      exact ⟨true, rfl, HKP.out, fun _ => ⟨by omega, HV.out⟩⟩
end Go.Proofs.YtcpegoofbenoiaaGreatDoor
