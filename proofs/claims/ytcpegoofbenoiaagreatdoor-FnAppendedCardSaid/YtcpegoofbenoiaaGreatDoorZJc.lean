/-
  CONTRACTS: the reference's segments of some.
-/
import Derived.Test.YtcpegoofbenoiaaGreatDoorZGJa
namespace Go.Proofs.YtcpegoofbenoiaaGreatDoor
open Go.RowKit
open Go.ChangeShapes Go.WideShapes Go.ChangeAt Go.Deep
open Plain (M64)

theorem sliceSF : SliceT Tryz.prog 45 51 (.agg #[.int .u32 0, .int .u32 0, .slice none 0 0]) 3 32 := ⟨Tryz.underlying45, by kernel_rfl, rfl, by decide⟩
theorem sliceSS : SliceT Tryz.prog 31 47 (.agg #[.slice none 0 0, .string ⟨#[]⟩, .string ⟨#[]⟩, .slice none 0 0]) 4 80 := ⟨Tryz.underlying31, by kernel_rfl, rfl, by decide⟩
theorem fl3_one (f : Fc) (a : Option Addr) (n c : Nat) : ∀ v ∈ fl3 (f, .slice a n c), v.oneCell' = true := by
  intro v hv
  simp [fl3] at hv
  rcases hv with rfl | rfl | rfl <;> rfl
theorem sl4_one (x : SgV) {a : Option Addr} {n c : Nat} {a' : Option Addr} {n' c' : Nat} (h1 : x.av = .slice a n c) (h2 : x.fv = .slice a' n' c') : ∀ v ∈ sl4 x, v.oneCell' = true := by
  intro v hv
  simp [sl4, h1, h2] at hv
  rcases hv with rfl | rfl | rfl | rfl <;> rfl
theorem Reads.thr {w : World} {x y z : Value} {T : TypeId} {g : Nat} (hg : g = w.heap.size) : Reads (w.alloc (.cells #[x, y, z] T)) 3 (.slice (some ⟨g, 0, none⟩) 1 1) 1 [x, y, z] := by
  subst hg
  refine ⟨rfl, .inr ⟨_, 1, rfl, fun j v hj => ?_⟩⟩
  rw [addr_add, Nat.zero_add, (Blk.new w [x, y, z] T).cell]
  exact hj
theorem Reads.fou {w : World} {x y z u : Value} {T : TypeId} {g : Nat} (hg : g = w.heap.size) : Reads (w.alloc (.cells #[x, y, z, u] T)) 4 (.slice (some ⟨g, 0, none⟩) 1 1) 1 [x, y, z, u] := by
  subst hg
  refine ⟨rfl, .inr ⟨_, 1, rfl, fun j v hj => ?_⟩⟩
  rw [addr_add, Nat.zero_add, (Blk.new w [x, y, z, u] T).cell]
  exact hj
theorem fl3_snoc {L : List (Fc × Value)} {k : Nat} (h : k < L.length) : (L.take (k + 1)).flatMap fl3 = (L.take k).flatMap fl3 ++ fl3 L[k] := by
  rw [List.take_succ_eq_append_getElem h, List.flatMap_append]; simp
/-- Behind funcs. -/
def FuncsPost (w : World) (L : List (Fc × Value)) (e : Ending) (w' : World) : Prop :=
  ∃ v, e = .returned v ∧ Row w' 51 3 v L.length (L.flatMap fl3) ∧ Keep Non w w' ∧ ∀ b, v.ownBlock = some b → w.heap.size ≤ b
set_option maxRecDepth 100000 in
set_option maxHeartbeats 2000000 in
theorem funcsT (v : Value) (L : List (Fc × Value)) (w : World) (h : FR w v L) (hl : L.length ≤ 2147483647) : Calls Tryz.prog 16 #[v] w (FuncsPost w L) := by
  obtain ⟨fa, fc, rfl⟩ := h.reads.slice
  have HH := Lib.hid h
  clear h
  have R0 : Row (w.alloc (.cells #[] 51)) 51 3 (.slice (some ⟨w.heap.size, 0, none⟩) 0 0) 0 [] := Row.lit w 51 3 [] 0 (by decide) rfl
  have HR0 := Lib.hid R0
  clear R0
  go_enter Tryz.func16, Tryz.ntmps16
  go_wp2
  go_loopw [3, 9] (fun ov i wr => ∃ k : Nat, k ≤ L.length ∧ i = .int .i64 k ∧ Row wr 51 3 ov k ((L.take k).flatMap fl3) ∧ Keep Non w wr ∧ ∀ b, ov.ownBlock = some b → w.heap.size ≤ b) (fun _ i _ => L.length - (intOf i).toNat)
  case atStart => exact ⟨0, by omega, rfl, HR0.out, (Keep.refl _ _).alloc _, fun b hb => by simp only [Value.ownBlock, Option.some.injEq] at hb; omega⟩
  case round =>
    obtain ⟨k, hk, rfl, hr, hkp, hn⟩ := hrel
    by_cases hlt : k < L.length
    · have hR := (HH.out.far hkp)
      obtain ⟨ba, off, ca', hva, hca⟩ := hR.reads.at (by omega) (by omega)
      cases hva
      obtain ⟨q0, q1, q2⟩ := three_at hca hlt
      have hsn := fl3_snoc hlt
      have HU := Lib.hid (hR.cs _ (List.getElem_mem hlt))
      have HSN := Lib.hid hsn
      have HKP := Lib.hid hkp
      have HROW := Lib.hid hr
      have HN := Lib.hid hn
      clear hca hR hkp hr hn hsn
      generalize L[k] = x at *
      obtain ⟨f, uv⟩ := x
      dsimp only at *
      obtain ⟨ua, uc, rfl⟩ := HU.out.slice
      have HONE := Lib.hid (fl3_one f ua f.cs.length uc)
      go_wp2_with (at_builtin; go_must (refine wpList_app (n := k) (m := 1) (news := fl3 (f, .slice ua f.cs.length uc)) sliceSF rfl _ _ rfl rfl ((HROW.out.alloc _).alloc _) rfl (Reads.thr (by simp)) HONE.out (by unfold maxLen; omega) (by omega) ?_); intro v1 w1 r1 g1 n1)
      go_roundw
      case measure => simp [intOf]; omega
      case rel =>
        refine ⟨k + 1, by omega, by go_num, by rw [HSN.out]; exact r1, ((HKP.out.alloc _).alloc _).trans g1.keep (fun i hi e => by have := HN.out i e; omega), fun b hb => ?_⟩
        have hz := HKP.out.size
        rcases g1.lies hb with e | e
        · exact HN.out b e
        · simp at e; omega
    · have hkl : k = L.length := by omega
      subst hkl
      rw [List.take_of_length_le (Nat.le_refl _)] at hr
      have HKP := Lib.hid hkp
      have HROW := Lib.hid hr
      have HN := Lib.hid hn
      clear hkp hr hn
      go_wp2
      go_ret
      exact ⟨_, rfl, HROW.out, HKP.out, HN.out⟩
/-- On the way: how much has been copied. -/
structure SegI (w wr : World) (L : List SgV) (k : Nat) (ov : Value) (L' : List SgV) : Prop where
  row : Row wr 47 4 ov L'.length (L'.flatMap sl4)
  same : L'.map SgV.sg = (L.take k).map SgV.sg
  funs : ∀ x ∈ L', Row wr 51 3 x.fv x.funs.length (x.funs.flatMap fl3)
  ins : ∀ x ∈ L', Reads w 1 x.av x.args.length (Ts x.args) ∧ ∀ y ∈ x.funs, Reads w 1 y.2 y.1.cs.length (U32 y.1.cs)
  keep : Keep Non w wr
  own : ∀ b, ov.ownBlock = some b → w.heap.size ≤ b
section
variable {w wr w' : World} {L L' : List SgV} {k : Nat} {ov : Value}
theorem SegI.size (h : SegI w wr L k ov L') (hk : k ≤ L.length) : L'.length = k := by
  have := congrArg List.length h.same
  simp at this
  omega
theorem SegI.out (h : SegI w wr L L.length ov L') : SegR wr ov L' ∧ L'.map SgV.sg = L.map SgV.sg := by
  refine ⟨⟨h.row.reads, fun x hx => (h.ins x hx).1.keep h.keep (fun _ _ e => e), fun x hx => ⟨(h.funs x hx).reads, fun y hy => ((h.ins x hx).2 y hy).keep h.keep (fun _ _ e => e)⟩⟩, ?_⟩
  have := h.same
  rwa [List.take_of_length_le (Nat.le_refl _)] at this
theorem SegI.far (h : SegI w wr L k ov L') (kk : Keep Non wr w') : SegI w w' L k ov L' :=
  ⟨h.row.keep kk (fun _ _ e => e), h.same, fun x hx => (h.funs x hx).keep kk (fun _ _ e => e), h.ins, h.keep.trans' kk, h.own⟩
/-- One more. -/
theorem SegI.more {ov' : Value} {x : SgV} (h : SegI w wr L k ov L') (g : Grew wr w' ov ov') (r : Row w' 47 4 ov' (L'.length + 1) (L'.flatMap sl4 ++ sl4 x)) (hs : (L.take (k + 1)).map SgV.sg = (L.take k).map SgV.sg ++ [x.sg])
    (hf : Row wr 51 3 x.fv x.funs.length (x.funs.flatMap fl3)) (hi : Reads w 1 x.av x.args.length (Ts x.args) ∧ ∀ y ∈ x.funs, Reads w 1 y.2 y.1.cs.length (U32 y.1.cs)) : SegI w w' L (k + 1) ov' (L' ++ [x]) := by
  refine ⟨by simpa [List.flatMap_append] using r, by rw [List.map_append, h.same, hs]; rfl, fun y hy => ?_, fun y hy => ?_, h.keep.trans g.keep (fun i hi e => by have := h.own i e; omega), fun b hb => ?_⟩
  · have key : Row wr 51 3 y.fv y.funs.length (y.funs.flatMap fl3) := by
      rcases List.mem_append.1 hy with hy | hy
      · exact h.funs y hy
      · rw [List.mem_singleton.1 hy]; exact hf
    exact key.keep g.keep (fun b hb e => key.ne h.row (by decide) hb e)
  · rcases List.mem_append.1 hy with hy | hy
    · exact h.ins y hy
    · rw [List.mem_singleton.1 hy]; exact hi
  · have hz := h.keep.size
    rcases g.lies hb with e | e
    · exact h.own b e
    · omega
end
/-- Behind segments. -/
def SegsPost (w : World) (L : List SgV) (e : Ending) (w' : World) : Prop :=
  ∃ v L', e = .returned v ∧ SegR w' v L' ∧ L'.map SgV.sg = L.map SgV.sg ∧ Keep Non w w'
set_option maxRecDepth 100000 in
set_option maxHeartbeats 4000000 in
theorem segmentsT (v : Value) (L : List SgV) (w : World) (h : SegR w v L) (hl : L.length ≤ 2147483648) (hw : ∀ x ∈ L, x.sg.fits) : Calls Tryz.prog 9 #[v] w (SegsPost w L) := by
  obtain ⟨fa, fc, rfl⟩ := h.reads.slice
  have HH := Lib.hid h
  have HW := Lib.hid hw
  clear h hw
  have R0 : Row (w.alloc (.cells #[] 47)) 47 4 (.slice (some ⟨w.heap.size, 0, none⟩) 0 0) 0 [] := Row.lit w 47 4 [] 0 (by decide) rfl
  have HR0 := Lib.hid R0
  clear R0
  go_enter Tryz.func9, Tryz.ntmps9
  go_wp2
  go_loopw [3, 9] (fun ov i wr => ∃ (k : Nat) (L' : List SgV), k ≤ L.length ∧ i = .int .i64 k ∧ SegI w wr L k ov L') (fun _ i _ => L.length - (intOf i).toNat)
  case atStart => exact ⟨0, [], by omega, rfl, HR0.out, rfl, by simp, by simp, (Keep.refl _ _).alloc _, fun b hb => by simp only [Value.ownBlock, Option.some.injEq] at hb; omega⟩
  case round =>
    obtain ⟨k, L', hk, rfl, hI⟩ := hrel
    obtain ⟨W0, rfl⟩ : ∃ W0, W0 = wr := ⟨_, rfl⟩
    by_cases hlt : k < L.length
    · have hR := (HH.out.far hI.keep)
      obtain ⟨ba, off, ca', hva, hca⟩ := hR.reads.at (by omega) (by omega)
      cases hva
      obtain ⟨q0, q1, q2, q3⟩ := seg_at hca hlt
      have hsn : (L.take (k + 1)).map SgV.sg = (L.take k).map SgV.sg ++ [L[k].sg] := by rw [List.take_succ_eq_append_getElem hlt, List.map_append]; rfl
      have HIN : Hid (Reads w 1 L[k].av L[k].args.length (Ts L[k].args) ∧ ∀ y ∈ L[k].funs, Reads w 1 y.2 y.1.cs.length (U32 y.1.cs)) := Lib.hid ⟨HH.out.args _ (List.getElem_mem hlt), (HH.out.funs _ (List.getElem_mem hlt)).cs⟩
      have hfr := HH.out.funs _ (List.getElem_mem hlt)
      have hft := HW.out _ (List.getElem_mem hlt)
      have hls := hI.size hk
      have hov := hI.row.reads.slice
      have HLS := Lib.hid hls
      have HSN := Lib.hid hsn
      have HFR := Lib.hid hfr
      have HI := Lib.hid hI
      clear hca hR hsn hfr hls hI
      generalize L[k] = x at *
      obtain ⟨args, os, arch, funs, av, fv⟩ := x
      dsimp only at *
      obtain ⟨aa, ac, rfl⟩ := HIN.out.1.slice
      obtain ⟨ua, uc, rfl⟩ := HFR.out.reads.slice
      obtain ⟨oa, oc, rfl⟩ := hov
      have hfl : funs.length ≤ 2147483647 := by simpa [Sg.fits, SgV.sg] using hft
      clear hft
      go_upto_region 5 with (fail)
      obtain ⟨W1, hW1⟩ : ∃ W, W = W0.alloc (.cells #[.slice aa args.length ac, .string os, .string arch, .slice ua funs.length uc] 27) := ⟨_, rfl⟩
      have hk1 : Keep Non W0 W1 := by rw [hW1]; exact (Keep.refl _ _).alloc _
      have hb1 : Blk W1 W0.heap.size [.slice aa args.length ac, .string os, .string arch, .slice ua funs.length uc] 27 := by rw [hW1]; exact Blk.new W0 [.slice aa args.length ac, .string os, .string arch, .slice ua funs.length uc] _
      rw [← hW1]
      clear hW1 q0 q1 q2 q3
      obtain ⟨gx, hgx⟩ : ∃ g, g = W0.heap.size := ⟨_, rfl⟩
      rw [← hgx] at hb1 ⊢
      clear hgx
      have HI1 := Lib.hid (HI.out.far hk1)
      have HFR1 := Lib.hid (HFR.out.far (HI1.out.keep))
      have HB1 := Lib.hid hb1
      have x0 : W1.cell? ⟨gx, 0, none⟩ = some (.slice aa args.length ac) := by rw [hb1.cell]; rfl
      have x1 : W1.cell? ⟨gx, 1, none⟩ = some (.string os) := by rw [hb1.cell]; rfl
      have x2 : W1.cell? ⟨gx, 2, none⟩ = some (.string arch) := by rw [hb1.cell]; rfl
      have x3 : W1.cell? ⟨gx, 3, none⟩ = some (.slice ua funs.length uc) := by rw [hb1.cell]; rfl
      have h63 : L'.length + 1 ≤ maxLen := by have := HLS.out; unfold maxLen; omega
      have h64 : (L'.length + 1) * 80 ≤ 140737488355328 := by have := HLS.out; omega
      clear hk1 hb1 HI
      go_region_held3 (fun w' => w'.cell? ⟨gx, 0, none⟩ = some (.slice aa args.length ac) ∧ w'.cell? ⟨gx, 1, none⟩ = some (.string os) ∧ w'.cell? ⟨gx, 2, none⟩ = some (.string arch) ∧ w'.cell? ⟨gx, 3, none⟩ = some (.slice ua funs.length uc))
        (first
          | exact ⟨x0, x1, x2, x3⟩
          | exact ⟨k3.out.cell (k2.out.cell x0 (fun h => h)) n3.out, k3.out.cell (k2.out.cell x1 (fun h => h)) n3.out, k3.out.cell (k2.out.cell x2 (fun h => h)) n3.out, k3.out.cell (k2.out.cell x3 (fun h => h)) n3.out⟩
          | exact ⟨((k2.out.alloc _).cell x0 (fun h => h)), ((k2.out.alloc _).cell x1 (fun h => h)), ((k2.out.alloc _).cell x2 (fun h => h)), ((k2.out.alloc _).cell x3 (fun h => h))⟩
          | exact ⟨k2.out.cell x0 (fun h => h), k2.out.cell x1 (fun h => h), k2.out.cell x2 (fun h => h), k2.out.cell x3 (fun h => h)⟩
          | go_keep)
        (first
          | (go_at_call 16; refine (funcsT _ funs _ (HFR1.out.far (Keep.refl Non W1).drew) hfl).mono ?_; rintro e w2 ⟨fv2, rfl, r2, k2', l2⟩; obtain ⟨f2, c2, rfl⟩ := r2.reads.slice; have R2 := Lib.hid r2; have k2 := Lib.hid k2'.undrew; have ONE := Lib.hid (sl4_one ⟨args, os, arch, funs, .slice aa args.length ac, .slice f2 funs.length c2⟩ rfl rfl); clear r2 k2' l2)
          | (refine step_app (n := L'.length) (xs := L'.flatMap sl4) (m := 1) (news := sl4 ⟨args, os, arch, funs, .slice aa args.length ac, .slice f2 funs.length c2⟩) sliceSS rfl _ _ rfl (by rw [← HLS.out]; rfl) ((HI1.out.row.keep k2.out (fun _ _ e => e)).alloc _) rfl (Reads.fou (by simp)) (by decide) ONE.out h63 h64 ?_; intro v3 w3 r3 g3; have G3 := Lib.hid g3; have R3 := Lib.hid r3; have k3 : Hid (Keep (Own (.slice oa L'.length oc)) w2 w3) := Lib.hid (((Keep.refl _ _).alloc _).trans' g3.keep); have n3 : Hid (¬ Own (.slice oa L'.length oc) gx) := Lib.hid (fun e => HI1.out.row.neBlk HB1.out (by decide) e); clear r3 g3))
      all_goals
        go_wp2_with fail
        go_roundw
        case measure => simp [intOf]; omega
        case rel =>
          exact ⟨k + 1, L' ++ [⟨args, os, arch, funs, .slice aa args.length ac, .slice f2 funs.length c2⟩], by omega, by go_num, (HI1.out.far (k2.out.alloc _)).more G3.out R3.out HSN.out (R2.out.alloc _) HIN.out⟩
    · have hkl : k = L.length := by omega
      subst hkl
      have HI := Lib.hid hI
      clear hI
      go_wp2
      go_ret
      exact ⟨_, L', rfl, HI.out.out.1, HI.out.out.2, HI.out.keep⟩
end Go.Proofs.YtcpegoofbenoiaaGreatDoor
