/-
  THE CONTRACT of the reference's Write.
-/
import Derived.Test.YtfcdedcffmpjjaaSw3
import Derived.BigRegion
namespace Go.Proofs.Ytfcdedcffmpjjaa
open Go.RowKit
open Go.ChangeShapes Go.WideShapes Go.ChangeAt Go.Deep

/-- Between two steps of the reference's writer. -/
structure SWI (w wr : World) (vt vo : Value) (told : List Int) (out : List UInt8) : Prop where
  nums : Row wr 3 1 vt told.length (I64s told)
  pay : Row wr 5 1 vo out.length (B out)
  keep : Keep Non w wr
  lt : ∀ b, vt.ownBlock = some b → w.heap.size ≤ b
  lo : ∀ b, vo.ownBlock = some b → w.heap.size ≤ b
theorem SWI.far {w W W' : World} {vt vo : Value} {told : List Int} {out : List UInt8} (h : SWI w W vt vo told out) (k : Keep Non W W') : SWI w W' vt vo told out :=
  ⟨h.nums.keep k (fun _ _ h => h), h.pay.keep k (fun _ _ h => h), h.keep.trans k (fun _ _ h => h), h.lt, h.lo⟩
theorem SWI.alloc {w W : World} {vt vo : Value} {told : List Int} {out : List UInt8} (h : SWI w W vt vo told out) (X : Obj) : SWI w (W.alloc X) vt vo told out := h.far ((Keep.refl _ _).alloc X)
theorem SWI.pays {w W W' : World} {vt vo vo' : Value} {told : List Int} {out out' : List UInt8} (h : SWI w W vt vo told out) (r : Row W' 5 1 vo' out'.length (B out')) (k : Keep (Own vo) W W')
    (hl : ∀ b, vo'.ownBlock = some b → vo.ownBlock = some b ∨ W.heap.size ≤ b) : SWI w W' vt vo' told out' where
  nums := h.nums.keep k (fun b hb e => h.nums.ne h.pay (by decide) hb e)
  pay := r
  keep := h.keep.trans k (fun i hi e => by have := h.lo i e; omega)
  lt := h.lt
  lo := fun b hb => by
    rcases hl b hb with e | e
    · exact h.lo b e
    · have := h.keep.size; omega
theorem SWI.tell {w W : World} {vt vo : Value} {told : List Int} {out : List UInt8} (h : SWI w W vt vo told out) {u : Obj} {w1 : World} {v' : Value} {n : Int}
    (r : Row w1 3 1 v' (told.length + 1) (I64s told ++ [.int .i64 n])) (gr : Grew (W.alloc u) w1 vt v') : SWI w w1 v' vo (told ++ [n]) out where
  nums := by simpa [I64s_append, I64s] using r
  pay := (h.pay.alloc u).keep gr.keep (fun b hb e => h.nums.ne h.pay (by decide) e hb)
  keep := (h.keep.alloc u).trans gr.keep (fun i hi e => by have := h.lt i e; omega)
  lt := fun b hb => by
    rcases gr.lies hb with e | e
    · exact h.lt b e
    · have := h.keep.size; simp at e; omega
  lo := h.lo
/-- Writing one more byte. -/
theorem wrote_snoc {out ds : List UInt8} {p j : Nat} (hp : p ≤ out.length) (hj : j < ds.length) :
    wrote out p (ds.take (j + 1)) = if p + j < (wrote out p (ds.take j)).length then (wrote out p (ds.take j)).set (p + j) ds[j] else wrote out p (ds.take j) ++ [ds[j]] := by
  have hl : (ds.take j).length = j := by simp; omega
  have hl1 : (ds.take (j + 1)).length = j + 1 := by simp; omega
  have hw := wrote_length (ds := ds.take j) hp
  rw [hl] at hw
  have hpl : (out.take p ++ ds.take j).length = p + j := by rw [List.length_append, hl]; simp; omega
  split
  · next h =>
    rw [hw] at h
    have hlt : p + j < out.length := by omega
    have e1 : wrote out p (ds.take j) = (out.take p ++ ds.take j) ++ (out[p + j] :: out.drop (p + j + 1)) := by
      rw [wrote, hl, List.drop_eq_getElem_cons hlt]
    rw [e1, List.set_append_right _ _ (by omega), hpl, Nat.sub_self, List.set_cons_zero, wrote, hl1, List.take_succ_eq_append_getElem hj]
    simp only [List.append_assoc, List.cons_append, List.nil_append, Nat.add_assoc]
  · next h =>
    rw [hw] at h
    rw [wrote, wrote, hl, hl1, List.drop_of_length_le (by omega), List.drop_of_length_le (by omega), List.take_succ_eq_append_getElem hj]
    simp
theorem B_set (out : List UInt8) (i : Nat) (x : UInt8) : (B out).set i (.int .u8 (x.toNat : Int)) = B (out.set i x) := by simp [B, List.map_set]
theorem B_one1 (x : UInt8) : [Value.int .u8 (x.toNat : Int)] = B [x] := rfl
theorem SWI.store {w W : World} {vt : Value} {told : List Int} {out : List UInt8} {b c : Nat} (h : SWI w W vt (.slice (some ⟨b, 0, none⟩) out.length c) told out) (i : Nat) (x : UInt8) : SWI w (W.setCell ⟨b, i, none⟩ (.int .u8 (x.toNat : Int))) vt (.slice (some ⟨b, 0, none⟩) out.length c) told (out.set i x) := by
  have hr := h.pay.store i (.int .u8 (x.toNat : Int))
  rw [B_set] at hr
  exact h.pays (by rw [List.length_set]; exact hr) (Keep.setAt (Keep.refl _ _) _ _ _ (by simp [Own, Value.ownBlock])) (fun b hb => .inl hb)
theorem Grew.undrew {w w' : World} {v v' : Value} (g : Grew w.drew w' v v') : Grew w w' v v' :=
  ⟨⟨g.grown.os, g.grown.tape, g.grown.output, g.grown.size, g.grown.block⟩, g.loc⟩
/-- What the reference's Write has told. -/
def SWritePost (l : List (Int × ByteArray × Int)) (w : World) (e : Ending) (w' : World) : Prop :=
  ∃ v1 v2 ok, e = .returned (.tuple #[v1, v2, .bool ok]) ∧ Keep Non w w' ∧ (ok = true → l.length ≤ 40 ∧ (∀ m ∈ l, vstep m) ∧ Row w' 3 1 v1 (wrun l).1.length (I64s (wrun l).1) ∧ Row w' 5 1 v2 (wrun l).2.1.length (B (wrun l).2.1))
set_option maxRecDepth 100000 in
set_option maxHeartbeats 8000000 in
theorem write_spec (sv : Value) (l : List (Int × ByteArray × Int)) (w : World) (hs : Reads w 3 sv l.length (l.flatMap three)) (hll : l.length ≤ 2147483647) (hsz : ∀ m ∈ l, m.2.1.size ≤ 2147483647) :
    Calls Try.prog 26 #[sv] w (SWritePost l w) := by
  obtain ⟨aa, ca, rfl⟩ := hs.slice
  have HSZ := Lib.hid hsz
  clear hsz
  have e1 : (w.alloc (.cells #[] 3)).heap.size = w.heap.size + 1 := by simp
  have I0 : SWI w ((w.alloc (.cells #[] 3)).alloc (.cells #[] 5)) (.slice (some ⟨w.heap.size, 0, none⟩) 0 0) (.slice (some ⟨w.heap.size + 1, 0, none⟩) 0 0) [] [] :=
    { nums := (Row.lit w 3 1 [] 0 (by decide) rfl).alloc _
      pay := by
        have := Row.lit (w.alloc (.cells #[] 3)) 5 1 [] 0 (by decide) rfl
        rw [e1] at this
        exact this
      keep := ((Keep.refl _ _).alloc _).alloc _
      lt := fun b hb => by simp [Value.ownBlock] at hb; omega
      lo := fun b hb => by simp [Value.ownBlock] at hb; omega }
  have HI0 := Lib.hid I0
  clear I0 e1
  go_enter Try.func26, Try.ntmps26
  go_wp2
  go_loopw [5, 6, 7, 16] (fun vt vo pv i wr => ∃ (k : Nat) (st : List Int × List UInt8 × Nat), k ≤ l.length ∧ i = .int .i64 k ∧ (∀ m ∈ l.take k, vstep m) ∧ wrun (l.take k) = st ∧ pv = .int .i64 (st.2.2 : Nat) ∧ st.2.2 ≤ st.2.1.length ∧ st.2.1.length ≤ 40 * k ∧ st.1.length = k ∧ SWI w wr vt vo st.1 st.2.1) (fun _ _ _ i _ => l.length - (intOf i).toNat)
  case atStart => exact ⟨0, _, by omega, rfl, by simp, rfl, rfl, by simp [wrun], by simp [wrun], rfl, HI0.out⟩
  case round =>
    obtain ⟨k, st, hk, rfl, hv, hst, rfl, hp, hln, hkl, hI⟩ := hrel
    by_cases hlt : k < l.length
    · obtain ⟨ba, offa, ca', hva, hca⟩ := hs.at (by omega) (by omega)
      cases hva
      obtain ⟨c0, c1, c2⟩ := three_at hca hlt
      have d0 := hI.keep.cell c0 (fun h => h)
      have d1 := hI.keep.cell c1 (fun h => h)
      have d2 := hI.keep.cell c2 (fun h => h)
      have hstep := wrun_snoc hlt
      rw [hst] at hstep
      have hvs : vstep l[k] → ∀ m ∈ l.take (k + 1), vstep m := fun h => take_snoc_mem hlt hv h
      have hbd := wstep_bd (st := st) (m := l[k]) hp
      rw [← hstep] at hbd
      have hxz := HSZ.out _ (List.getElem_mem hlt)
      have HVS := Lib.hid hvs
      have HS' := Lib.hid hstep
      have HBD := Lib.hid hbd
      have HKL := Lib.hid hkl
      have hkl1 : st.1.length ≤ 2147483647 := by omega
      have HK := Lib.hid hI.keep
      have HI := Lib.hid hI
      clear hst hstep hbd hca c0 c1 c2 hI hkl hv hvs
      obtain ⟨told, out, p⟩ := st
      generalize l[k] = x at *
      obtain ⟨x1, xd, x2⟩ := x
      simp only [] at d0 d1 d2 hp hln hkl1 hxz ⊢
      by_cases b1 : x1 < 0
      · go_wp2
        go_ret3
        exact ⟨_, _, false, rfl, HK.out.alloc _, fun h => by cases h⟩
      by_cases b2 : 3 < x1
      · go_wp2
        go_ret3
        exact ⟨_, _, false, rfl, HK.out.alloc _, fun h => by cases h⟩
      by_cases b3 : x2 < -600
      · go_wp2
        go_ret3
        exact ⟨_, _, false, rfl, HK.out.alloc _, fun h => by cases h⟩
      by_cases b4 : 600 < x2
      · go_wp2
        go_ret3
        exact ⟨_, _, false, rfl, HK.out.alloc _, fun h => by cases h⟩
      by_cases b5 : 40 < xd.size
      · go_wp2
        go_ret3
        exact ⟨_, _, false, rfl, HK.out.alloc _, fun h => by cases h⟩
      have HV1 := Lib.hid (HVS.out ⟨by simp only []; omega, by simp only []; omega, by simp only []; omega, by simp only []; omega, by simp only []; omega⟩)
      have x2lo : -600 ≤ x2 := by omega
      have x2hi : x2 ≤ 600 := by omega
      have hxd : xd.size ≤ 40 := by omega
      have HBD' := Lib.hid (HBD.out (by simp only []; omega))
      clear HVS HBD b3 b4 b5 hxz
      by_cases h0 : x1 = 0
      · subst h0
        go_wp2_with fail
        have hx0 : xd.data.toList.length = xd.size := Array.length_toList
        have hw : wstep (told, out, p) ((0 : Int), xd, x2) = (told ++ [(xd.data.toList.length : Int)], wrote out p xd.data.toList, p + xd.data.toList.length) := by
          unfold wstep
          rw [if_pos rfl]
          rfl
        have hs' := HS'.out.trans hw
        have hbd := HBD'.out
        rw [hs'] at hbd
        have HS2 := Lib.hid hs'
        have HBD2 := Lib.hid hbd
        have HX0 := Lib.hid hx0
        have HSP : Hid (wr.heap.size < (wr.alloc (.cells #[.int .i64 0, .string xd, .int .i64 x2] 97)).heap.size) := Lib.hid (by simp)
        have HST : Hid (Blk (wr.alloc (.cells #[.int .i64 0, .string xd, .int .i64 x2] 97)) wr.heap.size [.int .i64 0, .string xd, .int .i64 x2] 97) := Lib.hid (Blk.new wr [.int .i64 0, .string xd, .int .i64 x2] 97)
        have HIA := Lib.hid (HI.out.alloc (.cells #[.int .i64 0, .string xd, .int .i64 x2] 97))
        clear hw hs' hbd hx0 HS' HBD'
        go_wp2_with fail
        obtain ⟨wo, rfl⟩ : ∃ wo : World, wo = wr := ⟨_, rfl⟩
        go_loopw [6, 50] (fun vo' jv wr' => ∃ (j : Nat) (o : List UInt8), j ≤ xd.size ∧ jv = .int .i64 j ∧ o = wrote out p (xd.data.toList.take j) ∧ o.length ≤ 40 * k + 40 ∧ p + j ≤ o.length ∧ SWI w wr' u5 vo' told o ∧ Blk wr' wo.heap.size [.int .i64 0, .string xd, .int .i64 x2] 97) (fun _ jv _ => xd.size - (intOf jv).toNat)
        case atStart =>
          exact ⟨0, _, by omega, rfl, by simp [wrote], by omega, by omega, HIA.out, HST.out⟩
        case round =>
          obtain ⟨j, o, hj, rfl, ho, hol, hpj, hJ, hB⟩ := hrel
          have e0 : wr.cell? ⟨wo.heap.size, 0, none⟩ = some (.int .i64 0) := by rw [hB.cell]; rfl
          have e1 : wr.cell? ⟨wo.heap.size, 1, none⟩ = some (.string xd) := by rw [hB.cell]; rfl
          have hJK := Lib.hid hJ.keep
          have hJ2 := Lib.hid hJ
          have hB2 := Lib.hid hB
          have HO := Lib.hid ho
          clear hJ hB ho
          by_cases hjl : j < xd.size
          · have hsn : wrote out p (xd.data.toList.take (j + 1)) = if p + j < o.length then o.set (p + j) xd[j] else o ++ [xd[j]] := by
              rw [HO.out]
              exact wrote_snoc hp (by rw [HX0.out]; exact hjl)
            have HSN := Lib.hid hsn
            clear hsn
            by_cases hin : p + j < o.length
            · obtain ⟨b, c, hbe⟩ := hJ2.out.pay.at (by omega)
              subst hbe
              have x0 := hJ2.out.pay.cell (p + j) (by omega)
              rw [B_get, List.getElem?_eq_getElem hin] at x0
              have x1 := hJ2.out.pay.free (p + j)
              have hbs : b < wr.heap.size := hJ2.out.pay.lt (g := b) rfl
              have hbne : b ≠ wo.heap.size := fun e => hJ2.out.pay.neBlk hB2.out (by decide) (show _ = some wo.heap.size by rw [← e]; rfl)
              simp only [Option.map_some] at x0
              go_wp2
              go_roundw
              case measure => simp [intOf]; omega
              case rel =>
                refine ⟨j + 1, o.set (p + j) xd[j], by omega, by go_num, by rw [HSN.out, if_pos hin], by simpa using hol, by rw [List.length_set]; omega, ?_, hB2.out.setOther (fun e => hbne (Eq.symm e)) _⟩
                exact hJ2.out.store (p + j) xd[j]
            · obtain ⟨b, c, hbe⟩ := hJ2.out.pay.reads.slice
              subst hbe
              have holn : o.length = p + j := by omega
              have HOL := Lib.hid holn
              clear holn
              go_wp2_with (at_builtin; go_must (refine wpList_app (n := o.length) (xs := B o) (m := 1) sliceBytes rfl _ _ rfl rfl (Row.alloc hJ2.out.pay _) rfl (Reads.oneAt (by simp)) (int_one _ _) (by unfold maxLen; omega) (by omega) ?_); intro v' w3 r3 g3 n3)
              go_roundw
              case measure => simp [intOf]; omega
              case rel =>
                refine ⟨j + 1, o ++ [xd[j]], by omega, by go_num, by rw [HSN.out, if_neg hin], by simp; omega, by simp; omega, ?_, ?_⟩
                · refine (hJ2.out.alloc _).pays (out' := o ++ [xd[j]]) (by simpa [B_append, B_one1] using r3) g3.keep (fun b' hb => by
                    rcases g3.lies hb with e | e
                    · exact .inl e
                    · exact .inr (Nat.le_of_eq e.symm))
                · exact (hB2.out.alloc _).keep g3.keep (fun e => hJ2.out.pay.neBlk hB2.out (by decide) e)
          · have hjx : j = xd.size := by omega
            subst hjx
            have ho := HO.out
            rw [List.take_of_length_le (by have := HX0.out; omega)] at ho
            subst ho
            have I2 := hJ2.out
            have HPX : Hid (((p : Int) + (xd.size : Int)) = ((p + xd.data.toList.length : Nat) : Int)) := Lib.hid (by rw [HX0.out]; simp)
            go_wp2_with (at_builtin; go_must (refine wpList_app (n := told.length) (xs := I64s told) (m := 1) sliceInt rfl _ _ rfl rfl (Row.alloc I2.nums _) rfl (Reads.oneAt (by simp)) (int_one _ _) (by unfold maxLen; omega) (by omega) ?_); intro v' w3 r3 g3 n3)
            have hs' := HS2.out
            have hbd := HBD2.out
            have hkl := HKL.out
            go_roundw
            case measure => simp [intOf]; omega
            case rel => exact ⟨k + 1, _, by omega, by go_num, HV1.out, hs', congrArg (Value.int .i64) HPX.out, hbd.1, by have := hbd.2.1; simp only [] at this ⊢; omega, by have := hbd.2.2; simp only [] at this hkl ⊢; omega, I2.tell r3 g3⟩
      · have hx : ∃ wh : Nat, x1 = wh + 1 ∧ wh ≤ 2 := ⟨(x1 - 1).toNat, by omega, by omega⟩
        obtain ⟨wh, rfl, hwh⟩ := hx
        have hw : wstep (told, out, p) ((wh : Int) + 1, xd, x2) = if 0 ≤ seekTo wh p out.length x2 ∧ seekTo wh p out.length x2 ≤ out.length then (told ++ [seekTo wh p out.length x2], out, (seekTo wh p out.length x2).toNat) else (told ++ [-1], out, p) := by
          simp only [wstep]
          rw [if_neg (by omega), show ((wh : Int) + 1 - 1).toNat = wh by omega]
        have hs' := HS'.out.trans hw
        have hbd := HBD'.out
        rw [hs'] at hbd
        have HS2 := Lib.hid hs'
        have HBD2 := Lib.hid hbd
        clear hs' hbd HS' HBD' hw h0
        obtain ⟨va, vc, hvo⟩ := HI.out.pay.reads.slice
        subst hvo
        have hcase : wh = 0 ∨ wh = 1 ∨ wh = 2 := by omega
        clear hwh b1 b2
        rcases hcase with rfl | rfl | rfl
        · by_cases t1 : x2 < 0
          · skip
            have hs' := HS2.out
            have hbd := HBD2.out
            rw [show seekTo 0 p out.length x2 = x2 from by simp [seekTo]] at hs' hbd
            rw [if_neg (by omega)] at hs' hbd
            have HS3 := Lib.hid hs'
            have HBD3 := Lib.hid hbd
            clear hs' hbd
            go_wp2_with fail
            go_region
            have I2 := (HI.out.alloc (.cells #[.int .i64 1, .string xd, .int .i64 x2] 97)).alloc (.cells #[.int .i64 0, .int .i64 p, .int .i64 out.length] 3)
            go_wp2_with (at_builtin; go_must (refine wpList_app (n := told.length) (xs := I64s told) (m := 1) sliceInt rfl _ _ rfl rfl (Row.alloc I2.nums _).drew rfl (Reads.oneAt (by simp)).drew (int_one _ _) (by unfold maxLen; omega) (by omega) ?_); intro v' w3 r3 g3 n3)
            have hkl := HKL.out
            have hbd := HBD3.out
            go_roundw
            case measure => simp [intOf]; omega
            case rel => exact ⟨k + 1, _, by omega, by go_num, HV1.out, HS3.out, rfl, hbd.1, by have := hbd.2.1; simp only [] at this ⊢; omega, by have := hbd.2.2; simp only [] at this hkl ⊢; omega, I2.tell r3 g3.undrew⟩
          by_cases t2 : (out.length : Int) < x2
          · skip
            have hs' := HS2.out
            have hbd := HBD2.out
            rw [show seekTo 0 p out.length x2 = x2 from by simp [seekTo]] at hs' hbd
            rw [if_neg (by omega)] at hs' hbd
            have HS3 := Lib.hid hs'
            have HBD3 := Lib.hid hbd
            clear hs' hbd
            go_wp2_with fail
            go_region
            have I2 := (HI.out.alloc (.cells #[.int .i64 1, .string xd, .int .i64 x2] 97)).alloc (.cells #[.int .i64 0, .int .i64 p, .int .i64 out.length] 3)
            go_wp2_with (at_builtin; go_must (refine wpList_app (n := told.length) (xs := I64s told) (m := 1) sliceInt rfl _ _ rfl rfl (Row.alloc I2.nums _).drew rfl (Reads.oneAt (by simp)).drew (int_one _ _) (by unfold maxLen; omega) (by omega) ?_); intro v' w3 r3 g3 n3)
            have hkl := HKL.out
            have hbd := HBD3.out
            go_roundw
            case measure => simp [intOf]; omega
            case rel => exact ⟨k + 1, _, by omega, by go_num, HV1.out, HS3.out, rfl, hbd.1, by have := hbd.2.1; simp only [] at this ⊢; omega, by have := hbd.2.2; simp only [] at this hkl ⊢; omega, I2.tell r3 g3.undrew⟩
          · skip
            have hs' := HS2.out
            have hbd := HBD2.out
            rw [show seekTo 0 p out.length x2 = x2 from by simp [seekTo]] at hs' hbd
            rw [if_pos ⟨by omega, by omega⟩] at hs' hbd
            have HS3 := Lib.hid hs'
            have HBD3 := Lib.hid hbd
            clear hs' hbd
            go_wp2_with fail
            go_region
            have I2 := (HI.out.alloc (.cells #[.int .i64 1, .string xd, .int .i64 x2] 97)).alloc (.cells #[.int .i64 0, .int .i64 p, .int .i64 out.length] 3)
            go_wp2_with (at_builtin; go_must (refine wpList_app (n := told.length) (xs := I64s told) (m := 1) sliceInt rfl _ _ rfl rfl (Row.alloc I2.nums _).drew rfl (Reads.oneAt (by simp)).drew (int_one _ _) (by unfold maxLen; omega) (by omega) ?_); intro v' w3 r3 g3 n3)
            have hkl := HKL.out
            have hbd := HBD3.out
            go_roundw
            case measure => simp [intOf]; omega
            case rel => exact ⟨k + 1, _, by omega, by go_num, HV1.out, HS3.out, congrArg (Value.int .i64) (by simp only []; omega), hbd.1, by have := hbd.2.1; simp only [] at this ⊢; omega, by have := hbd.2.2; simp only [] at this hkl ⊢; omega, I2.tell r3 g3.undrew⟩
        · by_cases t1 : (p : Int) + x2 < 0
          · skip
            have hs' := HS2.out
            have hbd := HBD2.out
            rw [show seekTo 1 p out.length x2 = (p : Int) + x2 from by simp [seekTo]] at hs' hbd
            rw [if_neg (by omega)] at hs' hbd
            have HS3 := Lib.hid hs'
            have HBD3 := Lib.hid hbd
            clear hs' hbd
            go_wp2_with fail
            go_region
            have I2 := (HI.out.alloc (.cells #[.int .i64 2, .string xd, .int .i64 x2] 97)).alloc (.cells #[.int .i64 0, .int .i64 p, .int .i64 out.length] 3)
            go_wp2_with (at_builtin; go_must (refine wpList_app (n := told.length) (xs := I64s told) (m := 1) sliceInt rfl _ _ rfl rfl (Row.alloc I2.nums _).drew rfl (Reads.oneAt (by simp)).drew (int_one _ _) (by unfold maxLen; omega) (by omega) ?_); intro v' w3 r3 g3 n3)
            have hkl := HKL.out
            have hbd := HBD3.out
            go_roundw
            case measure => simp [intOf]; omega
            case rel => exact ⟨k + 1, _, by omega, by go_num, HV1.out, HS3.out, rfl, hbd.1, by have := hbd.2.1; simp only [] at this ⊢; omega, by have := hbd.2.2; simp only [] at this hkl ⊢; omega, I2.tell r3 g3.undrew⟩
          by_cases t2 : (out.length : Int) < (p : Int) + x2
          · skip
            have hs' := HS2.out
            have hbd := HBD2.out
            rw [show seekTo 1 p out.length x2 = (p : Int) + x2 from by simp [seekTo]] at hs' hbd
            rw [if_neg (by omega)] at hs' hbd
            have HS3 := Lib.hid hs'
            have HBD3 := Lib.hid hbd
            clear hs' hbd
            go_wp2_with fail
            go_region
            have I2 := (HI.out.alloc (.cells #[.int .i64 2, .string xd, .int .i64 x2] 97)).alloc (.cells #[.int .i64 0, .int .i64 p, .int .i64 out.length] 3)
            go_wp2_with (at_builtin; go_must (refine wpList_app (n := told.length) (xs := I64s told) (m := 1) sliceInt rfl _ _ rfl rfl (Row.alloc I2.nums _).drew rfl (Reads.oneAt (by simp)).drew (int_one _ _) (by unfold maxLen; omega) (by omega) ?_); intro v' w3 r3 g3 n3)
            have hkl := HKL.out
            have hbd := HBD3.out
            go_roundw
            case measure => simp [intOf]; omega
            case rel => exact ⟨k + 1, _, by omega, by go_num, HV1.out, HS3.out, rfl, hbd.1, by have := hbd.2.1; simp only [] at this ⊢; omega, by have := hbd.2.2; simp only [] at this hkl ⊢; omega, I2.tell r3 g3.undrew⟩
          · skip
            have hs' := HS2.out
            have hbd := HBD2.out
            rw [show seekTo 1 p out.length x2 = (p : Int) + x2 from by simp [seekTo]] at hs' hbd
            rw [if_pos ⟨by omega, by omega⟩] at hs' hbd
            have HS3 := Lib.hid hs'
            have HBD3 := Lib.hid hbd
            clear hs' hbd
            go_wp2_with fail
            go_region
            have I2 := (HI.out.alloc (.cells #[.int .i64 2, .string xd, .int .i64 x2] 97)).alloc (.cells #[.int .i64 0, .int .i64 p, .int .i64 out.length] 3)
            go_wp2_with (at_builtin; go_must (refine wpList_app (n := told.length) (xs := I64s told) (m := 1) sliceInt rfl _ _ rfl rfl (Row.alloc I2.nums _).drew rfl (Reads.oneAt (by simp)).drew (int_one _ _) (by unfold maxLen; omega) (by omega) ?_); intro v' w3 r3 g3 n3)
            have hkl := HKL.out
            have hbd := HBD3.out
            go_roundw
            case measure => simp [intOf]; omega
            case rel => exact ⟨k + 1, _, by omega, by go_num, HV1.out, HS3.out, congrArg (Value.int .i64) (by simp only []; omega), hbd.1, by have := hbd.2.1; simp only [] at this ⊢; omega, by have := hbd.2.2; simp only [] at this hkl ⊢; omega, I2.tell r3 g3.undrew⟩
        · by_cases t1 : (out.length : Int) + x2 < 0
          · skip
            have hs' := HS2.out
            have hbd := HBD2.out
            rw [show seekTo 2 p out.length x2 = (out.length : Int) + x2 from by simp [seekTo]] at hs' hbd
            rw [if_neg (by omega)] at hs' hbd
            have HS3 := Lib.hid hs'
            have HBD3 := Lib.hid hbd
            clear hs' hbd
            go_wp2_with fail
            go_region
            have I2 := (HI.out.alloc (.cells #[.int .i64 3, .string xd, .int .i64 x2] 97)).alloc (.cells #[.int .i64 0, .int .i64 p, .int .i64 out.length] 3)
            go_wp2_with (at_builtin; go_must (refine wpList_app (n := told.length) (xs := I64s told) (m := 1) sliceInt rfl _ _ rfl rfl (Row.alloc I2.nums _).drew rfl (Reads.oneAt (by simp)).drew (int_one _ _) (by unfold maxLen; omega) (by omega) ?_); intro v' w3 r3 g3 n3)
            have hkl := HKL.out
            have hbd := HBD3.out
            go_roundw
            case measure => simp [intOf]; omega
            case rel => exact ⟨k + 1, _, by omega, by go_num, HV1.out, HS3.out, rfl, hbd.1, by have := hbd.2.1; simp only [] at this ⊢; omega, by have := hbd.2.2; simp only [] at this hkl ⊢; omega, I2.tell r3 g3.undrew⟩
          by_cases t2 : (out.length : Int) < (out.length : Int) + x2
          · skip
            have hs' := HS2.out
            have hbd := HBD2.out
            rw [show seekTo 2 p out.length x2 = (out.length : Int) + x2 from by simp [seekTo]] at hs' hbd
            rw [if_neg (by omega)] at hs' hbd
            have HS3 := Lib.hid hs'
            have HBD3 := Lib.hid hbd
            clear hs' hbd
            go_wp2_with fail
            go_region
            have I2 := (HI.out.alloc (.cells #[.int .i64 3, .string xd, .int .i64 x2] 97)).alloc (.cells #[.int .i64 0, .int .i64 p, .int .i64 out.length] 3)
            go_wp2_with (at_builtin; go_must (refine wpList_app (n := told.length) (xs := I64s told) (m := 1) sliceInt rfl _ _ rfl rfl (Row.alloc I2.nums _).drew rfl (Reads.oneAt (by simp)).drew (int_one _ _) (by unfold maxLen; omega) (by omega) ?_); intro v' w3 r3 g3 n3)
            have hkl := HKL.out
            have hbd := HBD3.out
            go_roundw
            case measure => simp [intOf]; omega
            case rel => exact ⟨k + 1, _, by omega, by go_num, HV1.out, HS3.out, rfl, hbd.1, by have := hbd.2.1; simp only [] at this ⊢; omega, by have := hbd.2.2; simp only [] at this hkl ⊢; omega, I2.tell r3 g3.undrew⟩
          · skip
            have hs' := HS2.out
            have hbd := HBD2.out
            rw [show seekTo 2 p out.length x2 = (out.length : Int) + x2 from by simp [seekTo]] at hs' hbd
            rw [if_pos ⟨by omega, by omega⟩] at hs' hbd
            have HS3 := Lib.hid hs'
            have HBD3 := Lib.hid hbd
            clear hs' hbd
            go_wp2_with fail
            go_region
            have I2 := (HI.out.alloc (.cells #[.int .i64 3, .string xd, .int .i64 x2] 97)).alloc (.cells #[.int .i64 0, .int .i64 p, .int .i64 out.length] 3)
            go_wp2_with (at_builtin; go_must (refine wpList_app (n := told.length) (xs := I64s told) (m := 1) sliceInt rfl _ _ rfl rfl (Row.alloc I2.nums _).drew rfl (Reads.oneAt (by simp)).drew (int_one _ _) (by unfold maxLen; omega) (by omega) ?_); intro v' w3 r3 g3 n3)
            have hkl := HKL.out
            have hbd := HBD3.out
            go_roundw
            case measure => simp [intOf]; omega
            case rel => exact ⟨k + 1, _, by omega, by go_num, HV1.out, HS3.out, congrArg (Value.int .i64) (by simp only []; omega), hbd.1, by have := hbd.2.1; simp only [] at this ⊢; omega, by have := hbd.2.2; simp only [] at this hkl ⊢; omega, I2.tell r3 g3.undrew⟩
    · have hkl' : k = l.length := by omega
      subst hkl'
      rw [List.take_of_length_le (Nat.le_refl _)] at hst hv
      have HST := Lib.hid hst
      have HV := Lib.hid hv
      have HI := Lib.hid hI
      clear hst hv hI
      obtain ⟨told, out, p⟩ := st
      go_wp2
      go_ret3
      refine ⟨_, _, _, rfl, HI.out.keep, fun h => ⟨by simp at h; omega, HV.out, ?_, ?_⟩⟩
      · rw [HST.out]; exact HI.out.nums
      · rw [HST.out]; exact HI.out.pay
end Go.Proofs.Ytfcdedcffmpjjaa
