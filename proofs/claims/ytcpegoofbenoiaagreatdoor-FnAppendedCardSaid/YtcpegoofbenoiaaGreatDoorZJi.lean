/-
  THE LAW FnAppended, of segments that read as such.
-/
import Derived.Test.YtcpegoofbenoiaaGreatDoorZJf
import Derived.Test.YtcpegoofbenoiaaGreatDoorZJo
namespace Go.Proofs.YtcpegoofbenoiaaGreatDoor
open Go.RowKit
open Go.ChangeShapes Go.WideShapes Go.ChangeAt Go.Deep
open Plain (M64)

/-- Some of a slice of segments. -/
theorem SegR.sub {w : World} {b c : Nat} {L : List SgV} (h : SegR w (.slice (some ⟨b, 0, none⟩) L.length c) L) (lo m c' : Nat) (hm : lo + m = L.length ∨ (lo = 0 ∧ m ≤ L.length)) : SegR w (.slice (some ⟨b, lo * 4, none⟩) m c') ((L.drop lo).take m) := by
  have hlm : lo + m ≤ L.length := by omega
  refine ⟨?_, fun x hx => h.args x (List.mem_of_mem_drop (List.mem_of_mem_take hx)), fun x hx => h.funs x (List.mem_of_mem_drop (List.mem_of_mem_take hx))⟩
  obtain ⟨hl, ⟨h1, _⟩ | ⟨ad', c2, h1, hc⟩⟩ := h.reads
  · simp at h1
  · simp only [Value.slice.injEq, Option.some.injEq, true_and] at h1
    obtain ⟨rfl, rfl⟩ := h1
    have hln : ((L.drop lo).take m).length = m := by simp; omega
    rw [hln]
    have hfl : (((L.drop lo).take m).flatMap sl4).length = m * 4 := by
      have := flat_length sl4_length ((L.drop lo).take m)
      rw [hln] at this; exact this
    refine ⟨hfl, .inr ⟨_, _, rfl, fun j u hj => ?_⟩⟩
    have hjl := (List.getElem?_eq_some_iff.1 hj).1
    have e : L = L.take lo ++ ((L.drop lo).take m ++ (L.drop lo).drop m) := by rw [List.take_append_drop, List.take_append_drop]
    have hlo : ((L.take lo).flatMap sl4).length = lo * 4 := by
      have := flat_length sl4_length (L.take lo)
      rw [List.length_take, Nat.min_eq_left (by omega)] at this; exact this
    have := hc (lo * 4 + j) u (by
      rw [e, List.flatMap_append, List.flatMap_append, List.getElem?_append_right (by omega), hlo, Nat.add_sub_cancel_left, List.getElem?_append_left hjl]
      exact hj)
    rw [addr_add] at this ⊢
    simpa using this
theorem SegR.more {w : World} {v : Value} {L : List SgV} {X : SgV} {v0 : Value} (h : SegR w v0 L) (hx : Reads w 1 X.av X.args.length (Ts X.args) ∧ FR w X.fv X.funs) (hr : Reads w 4 v (L.length + 1) (L.flatMap sl4 ++ sl4 X)) : SegR w v (L ++ [X]) := by
  refine ⟨by simpa [List.flatMap_append] using hr, fun y hy => ?_, fun y hy => ?_⟩
  · rcases List.mem_append.1 hy with hy | hy
    · exact h.args y hy
    · rw [List.mem_singleton.1 hy]; exact hx.1
  · rcases List.mem_append.1 hy with hy | hy
    · exact h.funs y hy
    · rw [List.mem_singleton.1 hy]; exact hx.2
set_option maxRecDepth 100000 in
set_option maxHeartbeats 8000000 in
theorem appended_law (packed : Bool) (hash : List UInt8) (L : List SgV) (lv : Value) (X : SgV) (w : World) (hh : hash.length = 16) (h : SegR w lv L) (hw : ∀ x ∈ L, x.sg.wide) (hl : L.length ≤ maxLen) (hxa : Reads w 1 X.av X.args.length (Ts X.args)) (hxf : FR w X.fv X.funs) (hxw : X.sg.wide) (hM : Mag w) :
    Calls Tryz.prog 3 #[.bool packed, .agg (B hash).toArray, lv, .agg #[X.av, .string X.os, .string X.arch, X.fv]] w fun e w' => e = .returned (.bool true) ∧ Below w.heap.size w w' := by
  obtain ⟨la, lc, rfl⟩ := h.reads.slice
  obtain ⟨xargs, xos, xarch, xfuns, xav, xfv⟩ := X
  dsimp only at *
  obtain ⟨xa, xc, rfl⟩ := hxa.slice
  obtain ⟨ya, yc, rfl⟩ := hxf.reads.slice
  obtain ⟨W1, hW1⟩ : ∃ W, W = (w.alloc (.cells (B hash).toArray 22)).alloc (.cells #[.slice xa xargs.length xc, .string xos, .string xarch, .slice ya xfuns.length yc] 27) := ⟨_, rfl⟩
  have k1 : Keep Non w W1 := by rw [hW1]; exact ((Keep.refl _ _).alloc _).alloc _
  have b1 : Blk W1 w.heap.size (B hash) 22 := by rw [hW1]; exact (Blk.new w (B hash) _).alloc _
  have b2 : Blk W1 (w.heap.size + 1) [.slice xa xargs.length xc, .string xos, .string xarch, .slice ya xfuns.length yc] 27 := by
    have := Blk.new (w.alloc (.cells (B hash).toArray 22)) [.slice xa xargs.length xc, .string xos, .string xarch, .slice ya xfuns.length yc] 27
    rw [hW1]
    simpa using this
  have hu16 : Tryz.prog.underlying 22 = some (.array 16 5) := by kernel_rfl
  have hi16 : (Tryz.prog.info? 22).map (·.size) = some 16 := by kernel_rfl
  have hsz16 : (Tryz.prog.info? 22).map (·.size) = some (B hash).length := by rw [B_length, hh]; exact hi16
  have H0 := Lib.hid h
  have HXA0 := Lib.hid hxa
  have HXF0 := Lib.hid hxf
  have HXW := Lib.hid hxw
  have HM := Lib.hid (hM.far k1)
  have HW := Lib.hid hw
  have HH := Lib.hid hh
  have HK1 := Lib.hid k1
  have HB1 := Lib.hid b1
  have HE1 := Lib.hid b2
  have HSZ := Lib.hid hsz16
  have HU := Lib.hid hu16
  clear h hM hw hh k1 b1 b2 hsz16 hu16 hi16 hxa hxf hxw
  go_enter Tryz.func3, Tryz.ntmps3
  go_upto_region 1 with (fail)
  rw [← hW1]
  clear hW1
  obtain ⟨bh, hbh⟩ : ∃ b, b = w.heap.size := ⟨_, rfl⟩
  obtain ⟨be, hbe⟩ : ∃ b, b = w.heap.size + 1 := ⟨_, rfl⟩
  rw [← hbe] at HE1 ⊢
  rw [← hbh] at HB1 ⊢
  clear hbh hbe
  go_wp2_with fail
  refine (fits4 _ L W1 (H0.out.far HK1.out) HW.out hl).mono ?_
  rintro e w2 ⟨ok1, rfl, k2, hok1⟩
  have HK2 := Lib.hid (HK1.out.trans' k2)
  cases ok1 with
  | false =>
    clear hok1 k2
    go_wp2
    go_ret
    exact ⟨rfl, HK2.out.below (Nat.le_refl _) (fun _ _ h => h.elim)⟩
  | true =>
    have HFI := Lib.hid (hok1 rfl)
    have HB2 := Lib.hid (HB1.out.keep k2 (fun h => h))
    have HE2 := Lib.hid (HE1.out.keep k2 (fun h => h))
    have HM2 := Lib.hid (HM.out.far k2)
    have y0 : w2.cell? ⟨be, 0, none⟩ = some (.slice xa xargs.length xc) := by rw [HE2.out.cell]; rfl
    have y1 : w2.cell? ⟨be, 1, none⟩ = some (.string xos) := by rw [HE2.out.cell]; rfl
    have y2 : w2.cell? ⟨be, 2, none⟩ = some (.string xarch) := by rw [HE2.out.cell]; rfl
    have y3 : w2.cell? ⟨be, 3, none⟩ = some (.slice ya xfuns.length yc) := by rw [HE2.out.cell]; rfl
    clear hok1 k2 HB1 HE1 HM HK1
    go_wp2_with fail
    refine (fits5 ⟨xargs, xos, xarch, xfuns, .slice xa xargs.length xc, .slice ya xfuns.length yc⟩ w2 (HXA0.out.keep HK2.out (fun _ _ h => h)) (HXF0.out.far HK2.out) HXW.out).mono ?_
    rintro e w3 ⟨ok2, rfl, k3, hok2⟩
    have HK3 := Lib.hid (HK2.out.trans' k3)
    cases ok2 with
    | false =>
      clear hok2 k3
      go_wp2
      go_ret
      exact ⟨rfl, HK3.out.below (Nat.le_refl _) (fun _ _ h => h.elim)⟩
    | true =>
      have HFX := Lib.hid (hok2 rfl)
      have HB3 := Lib.hid (HB2.out.keep k3 (fun h => h))
      have HE3 := Lib.hid (HE2.out.keep k3 (fun h => h))
      have HM3 := Lib.hid (HM2.out.far k3)
      clear y0 y1 y2 y3 hok2 k3 HB2 HE2 HM2 HK2
      have HR3 := Lib.hid (H0.out.far HK3.out).reads
      have z0 : w3.cell? ⟨be, 0, none⟩ = some (.slice xa xargs.length xc) := by rw [HE3.out.cell]; rfl
      have z1 : w3.cell? ⟨be, 1, none⟩ = some (.string xos) := by rw [HE3.out.cell]; rfl
      have z2 : w3.cell? ⟨be, 2, none⟩ = some (.string xarch) := by rw [HE3.out.cell]; rfl
      have z3 : w3.cell? ⟨be, 3, none⟩ = some (.slice ya xfuns.length yc) := by rw [HE3.out.cell]; rfl
      have hll : L.length ≤ 2147483647 := HFI.out.1
      have HONE : Hid (∀ u ∈ L.flatMap sl4, u.oneCell' = true) := Lib.hid (fun u hu => by
        obtain ⟨x, hx, hux⟩ := List.mem_flatMap.1 hu
        obtain ⟨a1, c1, e1⟩ := (H0.out.args x hx).slice
        obtain ⟨a2, c2, e2⟩ := (H0.out.funs x hx).reads.slice
        exact sl4_one x e1 e2 u hux)
      have HDO : Hid (∀ u ∈ sl4 ⟨xargs, xos, xarch, xfuns, .slice xa xargs.length xc, .slice ya xfuns.length yc⟩, u.oneCell' = true) := Lib.hid (sl4_one _ rfl rfl)
      have RA3 : Hid (Row ((w3.drew.alloc (.cells #[.slice xa xargs.length xc, .string xos, .string xarch, .slice ya xfuns.length yc] 27)).alloc (.cells #[] 27)) 27 4 (.slice (some ⟨w3.heap.size + 1, 0, none⟩) 0 0) 0 []) := Lib.hid (by
        have := Row.lit (w3.drew.alloc (.cells #[.slice xa xargs.length xc, .string xos, .string xarch, .slice ya xfuns.length yc] 27)) 27 4 [] 0 (by decide) rfl
        simpa using this)
      have DA2 : Hid (Reads ((w3.drew.alloc (.cells #[] 27)).alloc (.cells #[.slice xa xargs.length xc, .string xos, .string xarch, .slice ya xfuns.length yc] 27)) 4 (.slice (some ⟨w3.heap.size + 1, 0, none⟩) 1 1) 1 (sl4 ⟨xargs, xos, xarch, xfuns, .slice xa xargs.length xc, .slice ya xfuns.length yc⟩)) := Lib.hid (Reads.fou (by simp))
      have DA3 : Hid (Reads ((w3.drew.alloc (.cells #[.slice xa xargs.length xc, .string xos, .string xarch, .slice ya xfuns.length yc] 27)).alloc (.cells #[] 27)) 4 (.slice (some ⟨w3.heap.size, 0, none⟩) 1 1) 1 (sl4 ⟨xargs, xos, xarch, xfuns, .slice xa xargs.length xc, .slice ya xfuns.length yc⟩)) := Lib.hid ((Reads.fou (by simp)).alloc _)
      have h63 : 0 + L.length ≤ maxLen := by unfold maxLen; omega
      have h64 : (0 + L.length) * 80 ≤ 140737488355328 := by omega
      have h65 : L.length + 1 ≤ maxLen := by unfold maxLen; omega
      have h66 : (L.length + 1) * 80 ≤ 140737488355328 := by omega
      go_upto_region 3 with (fail)
      go_cut [9] from 28 to 33 (fun v9 wx => ∃ a9 c9, v9 = .slice a9 (L.length + 1) c9 ∧ Reads wx 4 (.slice a9 (L.length + 1) c9) (L.length + 1) (L.flatMap sl4 ++ sl4 ⟨xargs, xos, xarch, xfuns, .slice xa xargs.length xc, .slice ya xfuns.length yc⟩) ∧ Keep Non w3 wx)
      case first =>
        go_region_held3 (fun w' => w'.cell? ⟨be, 0, none⟩ = some (.slice xa xargs.length xc) ∧ w'.cell? ⟨be, 1, none⟩ = some (.string xos) ∧ w'.cell? ⟨be, 2, none⟩ = some (.string xarch) ∧ w'.cell? ⟨be, 3, none⟩ = some (.slice ya xfuns.length yc))
          (first
            | exact ⟨z0, z1, z2, z3⟩
            | exact ⟨kk.out.cell z0 (fun h => h), kk.out.cell z1 (fun h => h), kk.out.cell z2 (fun h => h), kk.out.cell z3 (fun h => h)⟩
            | exact ⟨(kk.out.alloc _).cell z0 (fun h => h), (kk.out.alloc _).cell z1 (fun h => h), (kk.out.alloc _).cell z2 (fun h => h), (kk.out.alloc _).cell z3 (fun h => h)⟩
            | go_keep)
          (first
            | (refine step_app (n := L.length) (xs := L.flatMap sl4) (m := 1) (news := sl4 ⟨xargs, xos, xarch, xfuns, .slice xa xargs.length xc, .slice ya xfuns.length yc⟩) sliceIS rfl _ _ rfl rfl R5.out rfl DD5.out (by decide) HDO.out h65 h66 ?_; intro v6 w6 r6 g6; have kk6 := Lib.hid (Keep.trans (S := Non) kk.out g6.keep (fun i hi e => by have := n5.out i e; omega)); clear kk; have kk := kk6; have R6 := Lib.hid r6; obtain ⟨a9, c9, rfl⟩ := r6.reads.slice)
            | (refine step_app (n := L.length) (xs := L.flatMap sl4) (m := 1) (news := sl4 ⟨xargs, xos, xarch, xfuns, .slice xa xargs.length xc, .slice ya xfuns.length yc⟩) sliceIS rfl _ _ rfl rfl (R5.out.alloc (.cells #[.slice xa xargs.length xc, .string xos, .string xarch, .slice ya xfuns.length yc] 27)) rfl (Reads.fou (by simp)) (by decide) HDO.out h65 h66 ?_; intro v6 w6 r6 g6; have kk6 := Lib.hid (Keep.trans (S := Non) (kk.out.alloc (.cells #[.slice xa xargs.length xc, .string xos, .string xarch, .slice ya xfuns.length yc] 27)) g6.keep (fun i hi e => by have := n5.out i e; omega)); clear kk; have kk := kk6; have R6 := Lib.hid r6; obtain ⟨a9, c9, rfl⟩ := r6.reads.slice)
            | (refine step_app0 (n := 0) (xs := []) (m := L.length) (news := L.flatMap sl4) sliceIS rfl _ _ rfl rfl (Row.lit w3.drew 27 4 [] 0 (by decide) rfl) rfl (HR3.out.drew.alloc (.cells #[] 27)) HONE.out h63 h64 ?_; intro v5 w5 r5 g5; rw [Nat.zero_add, List.nil_append] at r5; have R5 := Lib.hid r5; have kk := Lib.hid (Keep.trans (S := Non) ((Keep.refl Non w3).drew.alloc (.cells #[] 27)) g5.keep (fun i hi e => by simp [Own, Value.ownBlock, Act.eval] at e; omega)); have n5 : Hid (∀ b, v5.ownBlock = some b → w3.heap.size ≤ b) := Lib.hid (fun b hb => by rcases g5.lies hb with e | e <;> (simp [Value.ownBlock, Act.eval] at e; omega)))
            | (refine step_app0 (n := 0) (xs := []) (m := L.length) (news := L.flatMap sl4) sliceIS rfl _ _ rfl rfl ((Row.lit w3.drew 27 4 [] 0 (by decide) rfl).alloc (.cells #[.slice xa xargs.length xc, .string xos, .string xarch, .slice ya xfuns.length yc] 27)) rfl ((HR3.out.drew.alloc (.cells #[] 27)).alloc (.cells #[.slice xa xargs.length xc, .string xos, .string xarch, .slice ya xfuns.length yc] 27)) HONE.out h63 h64 ?_; intro v5 w5 r5 g5; rw [Nat.zero_add, List.nil_append] at r5; have R5 := Lib.hid r5; have kk := Lib.hid (Keep.trans (S := Non) (((Keep.refl Non w3).drew.alloc (.cells #[] 27)).alloc (.cells #[.slice xa xargs.length xc, .string xos, .string xarch, .slice ya xfuns.length yc] 27)) g5.keep (fun i hi e => by simp [Own, Value.ownBlock, Act.eval] at e; omega)); have n5 : Hid (∀ b, v5.ownBlock = some b → w3.heap.size ≤ b) := Lib.hid (fun b hb => by rcases g5.lies hb with e | e <;> (simp [Value.ownBlock, Act.eval] at e; omega)); have DD5 := Lib.hid (DA2.out.keep g5.keep (fun b hb e => by simp [Own, Value.ownBlock, Act.eval] at e hb; omega)))
            | (refine step_app0 (n := 0) (xs := []) (m := L.length) (news := L.flatMap sl4) sliceIS rfl _ _ rfl rfl RA3.out rfl ((HR3.out.drew.alloc (.cells #[.slice xa xargs.length xc, .string xos, .string xarch, .slice ya xfuns.length yc] 27)).alloc (.cells #[] 27)) HONE.out h63 h64 ?_; intro v5 w5 r5 g5; rw [Nat.zero_add, List.nil_append] at r5; have R5 := Lib.hid r5; have kk := Lib.hid (Keep.trans (S := Non) (((Keep.refl Non w3).drew.alloc (.cells #[.slice xa xargs.length xc, .string xos, .string xarch, .slice ya xfuns.length yc] 27)).alloc (.cells #[] 27)) g5.keep (fun i hi e => by simp [Own, Value.ownBlock, Act.eval] at e; omega)); have n5 : Hid (∀ b, v5.ownBlock = some b → w3.heap.size ≤ b) := Lib.hid (fun b hb => by rcases g5.lies hb with e | e <;> (simp [Value.ownBlock, Act.eval] at e; omega)); have DD5 := Lib.hid (DA3.out.keep g5.keep (fun b hb e => by simp [Own, Value.ownBlock, Act.eval] at e hb; omega))))
        all_goals
          go_wp2_with fail
          go_meet
          case rel => exact ⟨_, _, rfl, R6.out.reads, kk.out⟩
      case rest =>
        obtain ⟨a9, c9, rfl, hr9, hk9⟩ := hcut
        have HK9 := Lib.hid (HK3.out.trans' hk9)
        have HX9 : Hid (Reads wc 1 (.slice xa xargs.length xc) xargs.length (Ts xargs) ∧ FR wc (.slice ya xfuns.length yc) xfuns) := Lib.hid ⟨HXA0.out.keep HK9.out (fun _ _ h => h), HXF0.out.far HK9.out⟩
        have HA9 : Hid (SegR wc (.slice a9 (L.length + 1) c9) (L ++ [⟨xargs, xos, xarch, xfuns, .slice xa xargs.length xc, .slice ya xfuns.length yc⟩])) := Lib.hid ((H0.out.far HK9.out).more HX9.out hr9)
        have HB9 := Lib.hid (HB3.out.keep hk9 (fun h => h))
        have HE9 := Lib.hid (HE3.out.keep hk9 (fun h => h))
        have HM9 := Lib.hid (HM3.out.far hk9)
        have hxsg : SgV.sg ⟨xargs, xos, xarch, xfuns, .slice xa xargs.length xc, .slice ya xfuns.length yc⟩ = ⟨xargs, xos, xarch, xfuns.map (·.1)⟩ := rfl
        have HAS : Hid ((L ++ [(⟨xargs, xos, xarch, xfuns, .slice xa xargs.length xc, .slice ya xfuns.length yc⟩ : SgV)]).map SgV.sg = L.map SgV.sg ++ [⟨xargs, xos, xarch, xfuns.map (·.1)⟩]) := Lib.hid (by rw [List.map_append]; rfl)
        have HAW : Hid (∀ x ∈ L ++ [(⟨xargs, xos, xarch, xfuns, .slice xa xargs.length xc, .slice ya xfuns.length yc⟩ : SgV)], x.sg.wide ∧ x.sg.fits) := Lib.hid (fun x hx => by
          rcases List.mem_append.1 hx with hx | hx
          · exact ⟨HW.out x hx, HFI.out.2 x hx⟩
          · rw [List.mem_singleton.1 hx]; exact ⟨HXW.out, HFX.out⟩)
        have HAL : Hid ((L ++ [(⟨xargs, xos, xarch, xfuns, .slice xa xargs.length xc, .slice ya xfuns.length yc⟩ : SgV)]).length = L.length + 1) := Lib.hid (by simp)
        generalize hA : L ++ [(⟨xargs, xos, xarch, xfuns, .slice xa xargs.length xc, .slice ya xfuns.length yc⟩ : SgV)] = A at HA9 HAS HAW HAL
        clear hA hxsg hr9 hk9 z0 z1 z2 z3 HB3 HE3 HM3 HR3 HK3 HONE HDO RA3 DA2 DA3 h63 h64 h65 h66
        go_wp2_with fail
        refine (segmentsT _ A wc HA9.out (by rw [HAL.out]; omega) (fun x hx => (HAW.out x hx).2)).mono ?_
        rintro e w4 ⟨wv, Lw, rfl, d4, m4, k4⟩
        have HK4 := Lib.hid (HK9.out.trans' k4)
        have HA4 := Lib.hid (HA9.out.far k4)
        have HB4 := Lib.hid (HB9.out.keep k4 (fun h => h))
        have HE4 := Lib.hid (HE9.out.keep k4 (fun h => h))
        have HM4 := Lib.hid (HM9.out.far k4)
        have HD4 := Lib.hid d4
        have HS4 := Lib.hid m4
        have hlw : Lw.length = L.length + 1 := by have := congrArg List.length m4; rw [List.length_map, List.length_map] at this; rw [this]; exact HAL.out
        have HLW := Lib.hid hlw
        clear d4 m4 k4 HA9 HB9 HE9 HM9 HK9 hlw HX9
        go_wp2_with fail
        refine (segsOk _ Lw w4 HD4.out (wide_same HS4.out (fun x hx => (HAW.out x hx).1)) (by rw [HLW.out]; unfold maxLen; omega)).mono ?_
        rintro e w5 ⟨ok3, rfl, k5, hok3⟩
        have HK5 := Lib.hid (HK4.out.trans' k5)
        cases ok3 with
        | false =>
          clear hok3 k5
          go_wp2
          go_ret
          exact ⟨rfl, HK5.out.below (Nat.le_refl _) (fun _ _ h => h.elim)⟩
        | true =>
          have hg := hok3 rfl
          rw [HS4.out] at hg
          have HGA := Lib.hid hg
          have hg2 := hg
          rw [HAS.out] at hg2
          have HG2 := Lib.hid hg2
          have hn4 := hg.n4
          simp only [List.length_map] at hn4
          rw [HAL.out] at hn4
          have HA5 := Lib.hid (HA4.out.far k5)
          have HB5 := Lib.hid (HB4.out.keep k5 (fun h => h))
          have HE5 := Lib.hid (HE4.out.keep k5 (fun h => h))
          have HM5 := Lib.hid (HM4.out.far k5)
          clear hok3 k5 HA4 HB4 HE4 HM4 HK4 HD4 hg hg2
          by_cases hne : L = []
          · subst hne
            go_wp2
            go_ret
            exact ⟨rfl, HK5.out.below (Nat.le_refl _) (fun _ _ h => h.elim)⟩
          · have hn1 : 1 ≤ L.length := List.length_pos_iff.2 hne
            have HG := Lib.hid (HG2.out.init (by rw [List.length_map]; exact hn1))
            have H5 := Lib.hid (H0.out.far HK5.out)
            go_upto_region 6 with (fail)
            go_upto_region 7 with (first
              | ((with_reducible show wpList _ _ _ (Oper.mk (some 45) _ _ _ _ _ :: _) _ _); go_must (refine wpList_load_mid rfl _ _ rfl bh 0 rfl (B hash) _ HB5.out.range HU.out rfl HSZ.out ?_))
              | (go_at_call 10; refine (countersT packed hash L _ _ H5.out HM5.out (ok_same rfl HG.out.ok) (by omega) hn1 HH.out).mono ?_; rintro e w6 ⟨dv, bs, C, rfl, r6, f6, m6, l6, k6⟩; have R6 := Lib.hid r6; have F6 := Lib.hid f6; have M6 := Lib.hid m6; have K6 := Lib.hid k6; obtain ⟨da, dc, rfl⟩ := r6.slice; clear r6 f6 m6 k6))
            have HK6 := Lib.hid (HK5.out.trans' K6.out)
            have HA6 := Lib.hid (HA5.out.far K6.out)
            have HB6 := Lib.hid (HB5.out.keep K6.out (fun h => h))
            have HE6 := Lib.hid (HE5.out.keep K6.out (fun h => h))
            have HM6 := Lib.hid (HM5.out.far K6.out)
            clear K6 HK5 HA5 HB5 HE5 HM5 H5
            go_upto_region 8 with (first
              | ((with_reducible show wpList _ _ _ (Oper.mk (some 52) _ _ _ _ _ :: _) _ _); go_must (refine wpList_load_mid rfl _ _ rfl bh 0 rfl (B hash) _ HB6.out.range HU.out rfl HSZ.out ?_))
              | (go_at_call 10; refine (countersT packed hash A _ _ HA6.out HM6.out (ok_same rfl HGA.out.ok) (by rw [HAL.out]; exact hn4) (by rw [HAL.out]; omega) HH.out).mono ?_; rintro e w7 ⟨dv2, bs2, C2, rfl, r7, f7, m7, l7, k7⟩; have R7 := Lib.hid r7; have F7 := Lib.hid f7; have M7 := Lib.hid m7; have K7 := Lib.hid k7; obtain ⟨da2, dc2, rfl⟩ := r7.slice; clear r7 f7 m7 k7))
            have HK7 := Lib.hid (HK6.out.trans' K7.out)
            have HE7 := Lib.hid (HE6.out.keep K7.out (fun h => h))
            have HM7 := Lib.hid (HM6.out.far K7.out)
            have HR7 := Lib.hid (R6.out.keep K7.out (fun _ _ h => h))
            have hlong : bs.length < bs2.length := longer HH.out F6.out F7.out M6.out (M7.out.trans HAS.out) (fun t ht => HG.out.ok t ht)
            clear K7 HK6 HA6 HB6 HE6 HM6 R6
            go_upto_region 9 with (first
              | (go_at_call 11; refine (readBackT packed hash L C bs _ _ HG.out HH.out F6.out M6.out l6 HR7.out HM7.out).mono ?_; rintro e w8 ⟨n8, ov8, L8, rfl, o8, m8, hl8, k8⟩; obtain ⟨o8a, o8c, e8⟩ := o8.row.reads.slice; rw [hl8] at e8; subst e8; have O8 := Lib.hid o8.segR; have M8 := Lib.hid m8; have HL8 := Lib.hid hl8; have K8 := Lib.hid k8; clear o8 m8 hl8 k8))
            have HK8 := Lib.hid (HK7.out.trans' K8.out)
            have HE8 := Lib.hid (HE7.out.keep K8.out (fun h => h))
            have HM8 := Lib.hid (HM7.out.far K8.out)
            have HR8 := Lib.hid (R7.out.keep K8.out (fun _ _ h => h))
            clear K8 HK7 HE7 HM7 HR7 R7
            go_upto_region 10 with (first
              | (go_at_call 11; refine (readBackT packed hash A C2 bs2 _ _ HGA.out HH.out F7.out M7.out l7 HR8.out HM8.out).mono ?_; rintro e w9 ⟨n9, ov9, L9, rfl, o9, m9, hl9, k9⟩; rw [HAL.out] at hl9 ⊢; obtain ⟨b9, c9', e9, hc9⟩ : ∃ b9 c9', ov9 = .slice (some ⟨b9, 0, none⟩) (L.length + 1) c9' ∧ L.length + 1 ≤ c9' := (by rcases o9.row.shape2 with ⟨_, h0⟩ | ⟨b, c, h, hc, _⟩; omega; exact ⟨b, c, by rw [h, hl9], by omega⟩); subst e9; have O9 := Lib.hid o9.segR; have M9 := Lib.hid m9; have HL9 := Lib.hid hl9; have K9 := Lib.hid k9; clear o9 m9 hl9 k9))
            have HK9' := Lib.hid (HK8.out.trans' K9.out)
            have HE9' := Lib.hid (HE8.out.keep K9.out (fun h => h))
            have HO8 := Lib.hid (O8.out.far K9.out)
            clear K9 HK8 HE8 HM8 HR8 O8
            have hi0 : (0 : Int) ≤ (L.length : Int) := by omega
            have hi1 : (L.length : Int) ≤ (c9' : Int) := by omega
            have hi2 : (L.length : Int) ≤ ((L.length : Int) + 1) := by omega
            have hc0 : ¬ c9' = 0 := by omega
            have hcl : ¬ c9' = L.length := by omega
            have hlong2 : ¬ bs2.length ≤ bs.length := by omega
            have z0 : w9.cell? ⟨be, 0, none⟩ = some (.slice xa xargs.length xc) := by rw [HE9'.out.cell]; rfl
            have z1 : w9.cell? ⟨be, 1, none⟩ = some (.string xos) := by rw [HE9'.out.cell]; rfl
            have z2 : w9.cell? ⟨be, 2, none⟩ = some (.string xarch) := by rw [HE9'.out.cell]; rfl
            have z3 : w9.cell? ⟨be, 3, none⟩ = some (.slice ya xfuns.length yc) := by rw [HE9'.out.cell]; rfl
            go_upto_region 12 with (fail)
            have HT9 : Hid (SegR w9 (.slice (some ⟨b9, 0, none⟩) L.length c9') (L9.take L.length)) := Lib.hid (by
              have o := O9.out
              rw [← HL9.out] at o
              have := o.sub 0 L.length c9' (.inr ⟨rfl, by rw [HL9.out]; omega⟩)
              simpa using this)
            have HU9 : Hid (SegR w9 (.slice (some ⟨b9, L.length * 4, none⟩) 1 (c9' - L.length)) ((L9.drop L.length).take 1)) := Lib.hid (by
              have o := O9.out
              rw [← HL9.out] at o
              exact o.sub L.length 1 (c9' - L.length) (.inl (by rw [HL9.out])))
            have HTM : Hid ((L9.take L.length).map SgV.sg = L.map SgV.sg) := Lib.hid (by rw [List.map_take, M9.out, HAS.out, List.take_left' (by simp)])
            have HUM : Hid (((L9.drop L.length).take 1).map SgV.sg = [⟨xargs, xos, xarch, xfuns.map (·.1)⟩]) := Lib.hid (by rw [List.map_take, List.map_drop, M9.out, HAS.out, List.drop_left' (by simp)]; rfl)
            have HXOK : Hid (Sg.ok ⟨xargs, xos, xarch, xfuns.map (·.1)⟩) := Lib.hid (HG2.out.ok _ (by simp))
            have HXR : Hid (∀ w', Keep Non w w' → SegR (w'.alloc (.cells #[.slice xa xargs.length xc, .string xos, .string xarch, .slice ya xfuns.length yc] 27)) (.slice (some ⟨w'.heap.size, 0, none⟩) 1 1) [(⟨xargs, xos, xarch, xfuns, .slice xa xargs.length xc, .slice ya xfuns.length yc⟩ : SgV)]) := Lib.hid (fun w' k => by
              have k' := k.alloc (.cells #[.slice xa xargs.length xc, .string xos, .string xarch, .slice ya xfuns.length yc] 27)
              refine ⟨Reads.fou rfl, fun x hx => ?_, fun x hx => ?_⟩
              · rw [List.mem_singleton.1 hx]; exact HXA0.out.keep k' (fun _ _ h => h)
              · rw [List.mem_singleton.1 hx]; exact HXF0.out.far k')
            have hl8 : L8.length ≤ 2147483648 := by have := HL8.out; omega
            have hl9 : (L9.take L.length).length ≤ 2147483648 := by simp; omega
            have hl10 : ((L9.drop L.length).take 1).length ≤ 2147483648 := by simp; omega
            have HF8 : Hid (∀ x ∈ L8, x.sg.fits) := Lib.hid (fits_of (by rw [M8.out]; exact HG.out.ok))
            have HF9 : Hid (∀ x ∈ L9.take L.length, x.sg.fits) := Lib.hid (fits_of (by rw [HTM.out]; exact HG.out.ok))
            have HF10 : Hid (∀ x ∈ (L9.drop L.length).take 1, x.sg.fits) := Lib.hid (fits_of (by rw [HUM.out]; intro t ht; rw [List.mem_singleton.1 ht]; exact HXOK.out))
            have HF11 : Hid (∀ x ∈ [(⟨xargs, xos, xarch, xfuns, .slice xa xargs.length xc, .slice ya xfuns.length yc⟩ : SgV)], x.sg.fits) := Lib.hid (fun x hx => by rw [List.mem_singleton.1 hx]; exact HFX.out)
            --BEGIN GEN
            refine wp_region_noPanic ?_
            refine wp_region_held_drew (S := fun w' => w'.cell? ⟨be, 0, none⟩ = some (.slice xa xargs.length xc) ∧ w'.cell? ⟨be, 1, none⟩ = some (.string xos) ∧ w'.cell? ⟨be, 2, none⟩ = some (.string xarch) ∧ w'.cell? ⟨be, 3, none⟩ = some (.slice ya xfuns.length yc)) (by kernel_rfl) ⟨z0, z1, z2, z3⟩ (fun hHeld => ?_)
            refine wpAnyH_take (i := 0) (oi := _) (v := ?zv7) (by simp only [List.getElem?_toArray, List.getElem?_cons_zero]; rfl) (by kernel_rfl) (by kernel_rfl) (by kernel_rfl) (fun _ _ _ h => h) (Or.inl ⟨by rfl, ?zy7⟩) (by assumption) ?zr7
            case zy7 => (intro wz hSw; (try dsimp only at hSw); go_simp <;> with_reducible rfl)
            try simp only [Act.put, List.setIfInBounds_toArray, List.set_cons_zero, List.set_cons_succ]
            refine wpAnyH_take (i := 2) (oi := _) (v := ?zv8) (by simp only [List.getElem?_toArray, List.getElem?_cons_succ, List.getElem?_cons_zero]; rfl) (by kernel_rfl) (by kernel_rfl) (by kernel_rfl) (fun _ _ _ h => h) (Or.inl ⟨by rfl, ?zy8⟩) (by assumption) ?zr8
            case zy8 => (intro wz hSw; (try dsimp only at hSw); go_simp <;> with_reducible rfl)
            try simp only [Act.put, List.setIfInBounds_toArray, List.set_cons_zero, List.set_cons_succ]
            refine wpAnyH_take (i := 3) (oi := _) (v := ?zv9) (by simp only [List.getElem?_toArray, List.getElem?_cons_succ, List.getElem?_cons_zero]; rfl) (by kernel_rfl) (by kernel_rfl) (by kernel_rfl) (fun _ _ _ h => h) (Or.inl ⟨by rfl, ?zy9⟩) (by assumption) ?zr9
            case zy9 => (intro wz hSw; (try dsimp only at hSw); go_simp <;> with_reducible rfl)
            try simp only [Act.put, List.setIfInBounds_toArray, List.set_cons_zero, List.set_cons_succ]
            refine wpAnyH_take (i := 4) (oi := _) (v := ?zv10) (by simp only [List.getElem?_toArray, List.getElem?_cons_succ, List.getElem?_cons_zero]; rfl) (by kernel_rfl) (by kernel_rfl) (by kernel_rfl) (fun _ _ _ h => h) (Or.inl ⟨by rfl, ?zy10⟩) (by assumption) ?zr10
            case zy10 => (intro wz hSw; (try dsimp only at hSw); go_simp <;> with_reducible rfl)
            try simp only [Act.put, List.setIfInBounds_toArray, List.set_cons_zero, List.set_cons_succ]
            refine wpAnyH_take (i := 5) (oi := _) (v := ?zv11) (by simp only [List.getElem?_toArray, List.getElem?_cons_succ, List.getElem?_cons_zero]; rfl) (by kernel_rfl) (by kernel_rfl) (by kernel_rfl) (fun _ _ _ h => h) (Or.inl ⟨by rfl, ?zy11⟩) (by assumption) ?zr11
            case zy11 => (intro wz hSw; (try dsimp only at hSw); go_simp <;> with_reducible rfl)
            try simp only [Act.put, List.setIfInBounds_toArray, List.set_cons_zero, List.set_cons_succ]
            refine wpAnyH_ready (rs := [1]) (by kernel_rfl) (by simp) ?_
            refine AllReadyH.cons (o := _) (by simp only [List.getElem?_toArray, List.getElem?_cons_succ, List.getElem?_cons_zero]; rfl) (fun K hK => ?_) ?_
            · go_simp
              go_at_call 9
              refine (segmentsT _ L8 _ (HO8.out.far (Keep.refl Non w9).drew) hl8 HF8.out).mono ?_
              rintro e w10 ⟨gv10, L10, rfl, d10, m10, k10⟩
              have kk := Lib.hid k10.undrew
              have D10 := Lib.hid d10
              have M10 := Lib.hid (m10.trans M8.out)
              clear d10 m10 k10
              go_simp
              refine hK.out _ _ ⟨(kk.out).cell z0 (fun h => h), (kk.out).cell z1 (fun h => h), (kk.out).cell z2 (fun h => h), (kk.out).cell z3 (fun h => h)⟩ (fun hHeld => ?_)
              clear hK K
              try simp only [Act.put, List.setIfInBounds_toArray, List.set_cons_zero, List.set_cons_succ]
              refine wpAnyH_ready (rs := [6]) (by kernel_rfl) (by simp) ?_
              refine AllReadyH.cons (o := _) (by simp only [List.getElem?_toArray, List.getElem?_cons_succ, List.getElem?_cons_zero]; rfl) (fun K hK => ?_) ?_
              · go_simp
                go_at_call 9
                refine (segmentsT _ (L9.take L.length) _ (HT9.out.far kk.out) hl9 HF9.out).mono ?_
                rintro e w11 ⟨gv11, L11, rfl, d11, m11, k11⟩
                have D11' := Lib.hid (D10.out.far k11)
                have kl := Lib.hid (kk.out.trans' k11)
                have D11 := Lib.hid d11
                have M11 := Lib.hid (m11.trans HTM.out)
                clear d11 m11 k11
                go_simp
                refine hK.out _ _ ⟨(kl.out).cell z0 (fun h => h), (kl.out).cell z1 (fun h => h), (kl.out).cell z2 (fun h => h), (kl.out).cell z3 (fun h => h)⟩ (fun hHeld => ?_)
                clear hK K
                try simp only [Act.put, List.setIfInBounds_toArray, List.set_cons_zero, List.set_cons_succ]
                refine wpAnyH_ready (rs := [7]) (by kernel_rfl) (by simp) ?_
                refine AllReadyH.cons (o := _) (by simp only [List.getElem?_toArray, List.getElem?_cons_succ, List.getElem?_cons_zero]; rfl) (fun K hK => ?_) ?_
                · go_simp
                  go_at_call 12
                  refine (sameSegsT _ _ L10 L11 _ D11'.out D11.out (M10.out.trans M11.out.symm) (by have := congrArg List.length M10.out; rw [List.length_map, List.length_map] at this; omega) (ok_same M10.out HG.out.ok)).mono ?_
                  rintro e w12 ⟨rfl, n12, hw12⟩
                  have km : Hid (Keep Non w9 w12) := Lib.hid (by rw [hw12]; exact kl.out.drewN n12)
                  clear hw12 D10 D11 D11' kk kl
                  go_simp
                  refine hK.out _ _ ⟨(km.out).cell z0 (fun h => h), (km.out).cell z1 (fun h => h), (km.out).cell z2 (fun h => h), (km.out).cell z3 (fun h => h)⟩ (fun hHeld => ?_)
                  clear hK K
                  try simp only [Act.put, List.setIfInBounds_toArray, List.set_cons_zero, List.set_cons_succ]
                  refine wpAnyH_take (i := 8) (oi := _) (v := ?zv1) (by simp only [List.getElem?_toArray, List.getElem?_cons_succ, List.getElem?_cons_zero]; rfl) (by kernel_rfl) (by kernel_rfl) (by kernel_rfl) (fun _ _ _ h => h) (Or.inl ⟨by rfl, ?zy1⟩) (by assumption) ?zr1
                  case zy1 => (intro wz hSw; (try dsimp only at hSw); go_simp <;> with_reducible rfl)
                  try simp only [Act.put, List.setIfInBounds_toArray, List.set_cons_zero, List.set_cons_succ]
                  refine wpAnyH_take (i := 9) (oi := _) (v := ?zv2) (by simp only [List.getElem?_toArray, List.getElem?_cons_succ, List.getElem?_cons_zero]; rfl) (by kernel_rfl) (by kernel_rfl) (by kernel_rfl) (fun _ _ _ h => h) (Or.inl ⟨by rfl, ?zy2⟩) (by assumption) ?zr2
                  case zy2 => (intro wz hSw; (try dsimp only at hSw); go_simp <;> with_reducible rfl)
                  try simp only [Act.put, List.setIfInBounds_toArray, List.set_cons_zero, List.set_cons_succ]
                  refine wpAnyH_take (i := 10) (oi := _) (v := ?zv3) (by simp only [List.getElem?_toArray, List.getElem?_cons_succ, List.getElem?_cons_zero]; rfl) (by kernel_rfl) (by kernel_rfl) (by kernel_rfl) (fun _ _ _ h => h) (Or.inl ⟨by rfl, ?zy3⟩) (by assumption) ?zr3
                  case zy3 => (intro wz hSw; (try dsimp only at hSw); go_simp <;> with_reducible rfl)
                  try simp only [Act.put, List.setIfInBounds_toArray, List.set_cons_zero, List.set_cons_succ]
                  refine wpAnyH_take (i := 11) (oi := _) (v := ?zv4) (by simp only [List.getElem?_toArray, List.getElem?_cons_succ, List.getElem?_cons_zero]; rfl) (by kernel_rfl) (by kernel_rfl) (by kernel_rfl) (fun _ _ _ h => h) (Or.inl ⟨by rfl, ?zy4⟩) (by assumption) ?zr4
                  case zy4 => (intro wz hSw; (try dsimp only at hSw); go_simp <;> with_reducible rfl)
                  try simp only [Act.put, List.setIfInBounds_toArray, List.set_cons_zero, List.set_cons_succ]
                  refine wpAnyH_take (i := 12) (oi := _) (v := ?zv5) (by simp only [List.getElem?_toArray, List.getElem?_cons_succ, List.getElem?_cons_zero]; rfl) (by kernel_rfl) (by kernel_rfl) (by kernel_rfl) (fun _ _ _ h => h) (Or.inl ⟨by rfl, ?zy5⟩) (by assumption) ?zr5
                  case zy5 => (intro wz hSw; (try dsimp only at hSw); go_simp <;> with_reducible rfl)
                  try simp only [Act.put, List.setIfInBounds_toArray, List.set_cons_zero, List.set_cons_succ]
                  refine wpAnyH_take (i := 14) (oi := _) (v := ?zv6) (by simp only [List.getElem?_toArray, List.getElem?_cons_succ, List.getElem?_cons_zero]; rfl) (by kernel_rfl) (by kernel_rfl) (by kernel_rfl) (fun _ _ _ h => h) (Or.inl ⟨by rfl, ?zy6⟩) (by assumption) ?zr6
                  case zy6 => (intro wz hSw; (try dsimp only at hSw); go_simp <;> with_reducible rfl)
                  try simp only [Act.put, List.setIfInBounds_toArray, List.set_cons_zero, List.set_cons_succ]
                  refine wpAnyH_ready (rs := [13, 15]) (by kernel_rfl) (by simp) ?_
                  refine AllReadyH.cons (o := _) (by simp only [List.getElem?_toArray, List.getElem?_cons_succ, List.getElem?_cons_zero]; rfl) (fun K hK => ?_) ?_
                  · go_simp
                    go_at_call 9
                    refine (segmentsT _ ((L9.drop L.length).take 1) _ (HU9.out.far (km.out)) hl10 HF10.out).mono ?_
                    rintro e w13 ⟨gv13, L13, rfl, d13, m13, k13⟩
                    have kn := Lib.hid ((km.out).trans' k13)
                    have D13 := Lib.hid d13
                    have M13 := Lib.hid (m13.trans HUM.out)
                    clear d13 m13
                    go_simp
                    refine hK.out _ _ ⟨(kn.out).cell z0 (fun h => h), (kn.out).cell z1 (fun h => h), (kn.out).cell z2 (fun h => h), (kn.out).cell z3 (fun h => h)⟩ (fun hHeld => ?_)
                    clear hK K
                    try simp only [Act.put, List.setIfInBounds_toArray, List.set_cons_zero, List.set_cons_succ]
                    refine wpAnyH_ready (rs := [15]) (by kernel_rfl) (by simp) ?_
                    refine AllReadyH.cons (o := _) (by simp only [List.getElem?_toArray, List.getElem?_cons_succ, List.getElem?_cons_zero]; rfl) (fun K hK => ?_) ?_
                    · go_simp
                      refine hK.out _ _ ⟨(kn.out.alloc _).cell z0 (fun h => h), (kn.out.alloc _).cell z1 (fun h => h), (kn.out.alloc _).cell z2 (fun h => h), (kn.out.alloc _).cell z3 (fun h => h)⟩ (fun hHeld => ?_)
                      clear hK K
                      try simp only [Act.put, List.setIfInBounds_toArray, List.set_cons_zero, List.set_cons_succ]
                      refine wpAnyH_ready (rs := [16]) (by kernel_rfl) (by simp) ?_
                      refine AllReadyH.cons (o := _) (by simp only [List.getElem?_toArray, List.getElem?_cons_succ, List.getElem?_cons_zero]; rfl) (fun K hK => ?_) ?_
                      · go_simp
                        go_at_call 9
                        refine (segmentsT _ [(⟨xargs, xos, xarch, xfuns, .slice xa xargs.length xc, .slice ya xfuns.length yc⟩ : SgV)] _ (HXR.out _ (HK9'.out.trans' kn.out)) (by simp) HF11.out).mono ?_
                        rintro e w14 ⟨gv14, L14, rfl, d14, m14, k14⟩
                        have ko := Lib.hid ((kn.out.alloc _).trans' k14)
                        have D14' := Lib.hid ((D13.out.far ((Keep.refl Non _).alloc _)).far k14)
                        have D14 := Lib.hid d14
                        have M14 : Hid (L14.map SgV.sg = [⟨xargs, xos, xarch, xfuns.map (·.1)⟩]) := Lib.hid m14
                        go_simp
                        refine hK.out _ _ ⟨(ko.out).cell z0 (fun h => h), (ko.out).cell z1 (fun h => h), (ko.out).cell z2 (fun h => h), (ko.out).cell z3 (fun h => h)⟩ (fun hHeld => ?_)
                        clear hK K
                        try simp only [Act.put, List.setIfInBounds_toArray, List.set_cons_zero, List.set_cons_succ]
                        refine wpAnyH_ready (rs := [17]) (by kernel_rfl) (by simp) ?_
                        refine AllReadyH.cons (o := _) (by simp only [List.getElem?_toArray, List.getElem?_cons_succ, List.getElem?_cons_zero]; rfl) (fun K hK => ?_) ?_
                        · go_simp
                          go_at_call 12
                          refine (sameSegsT _ _ L13 L14 _ D14'.out D14.out (M13.out.trans M14.out.symm) (by have := congrArg List.length M13.out; simp at this; omega) (fun x hx => by have h1 : x.sg ∈ L13.map SgV.sg := List.mem_map_of_mem hx; rw [M13.out] at h1; rw [List.mem_singleton.1 h1]; exact HXOK.out)).mono ?_
                          rintro e w15 ⟨rfl, n15, hw15⟩
                          have kp : Hid (Keep Non w9 w15) := Lib.hid (by rw [hw15]; exact ko.out.drewN n15)
                          clear hw15
                          go_simp
                          refine hK.out _ _ ⟨(kp.out).cell z0 (fun h => h), (kp.out).cell z1 (fun h => h), (kp.out).cell z2 (fun h => h), (kp.out).cell z3 (fun h => h)⟩ (fun hHeld => ?_)
                          clear hK K
                          try simp only [Act.put, List.setIfInBounds_toArray, List.set_cons_zero, List.set_cons_succ]
                          refine wpAnyH_take (i := 18) (oi := _) (v := ?zv12) (by simp only [List.getElem?_toArray, List.getElem?_cons_succ, List.getElem?_cons_zero]; rfl) (by kernel_rfl) (by kernel_rfl) (by kernel_rfl) (fun _ _ _ h => h) (Or.inl ⟨by rfl, ?zy12⟩) (by assumption) ?zr12
                          case zy12 => (intro wz hSw; (try dsimp only at hSw); go_simp <;> with_reducible rfl)
                          try simp only [Act.put, List.setIfInBounds_toArray, List.set_cons_zero, List.set_cons_succ]
                          refine wpAnyH_take (i := 19) (oi := _) (v := ?zv13) (by simp only [List.getElem?_toArray, List.getElem?_cons_succ, List.getElem?_cons_zero]; rfl) (by kernel_rfl) (by kernel_rfl) (by kernel_rfl) (fun _ _ _ h => h) (Or.inl ⟨by rfl, ?zy13⟩) (by assumption) ?zr13
                          case zy13 => (intro wz hSw; (try dsimp only at hSw); go_simp <;> with_reducible rfl)
                          try simp only [Act.put, List.setIfInBounds_toArray, List.set_cons_zero, List.set_cons_succ]
                          refine wpAnyH_done (by kernel_rfl) ?_ _
                          refine NoPanic.normal ?_
                          go_wp2_with fail
                          go_ret
                          exact ⟨rfl, (HK9'.out.trans' kp.out).below (Nat.le_refl _) (fun _ _ h => h.elim)⟩
                        · exact AllReadyH.nil
                      · exact AllReadyH.nil
                    · exact AllReadyH.nil
                  · refine AllReadyH.cons (o := _) (by simp only [List.getElem?_toArray, List.getElem?_cons_succ, List.getElem?_cons_zero]; rfl) (fun K hK => ?_) ?_
                    · go_simp
                      refine hK.out _ _ ⟨(km.out.alloc _).cell z0 (fun h => h), (km.out.alloc _).cell z1 (fun h => h), (km.out.alloc _).cell z2 (fun h => h), (km.out.alloc _).cell z3 (fun h => h)⟩ (fun hHeld => ?_)
                      clear hK K
                      try simp only [Act.put, List.setIfInBounds_toArray, List.set_cons_zero, List.set_cons_succ]
                      have DX := Lib.hid (HXR.out _ (HK9'.out.trans' km.out))
                      refine wpAnyH_ready (rs := [13]) (by kernel_rfl) (by simp) ?_
                      refine AllReadyH.cons (o := _) (by simp only [List.getElem?_toArray, List.getElem?_cons_succ, List.getElem?_cons_zero]; rfl) (fun K hK => ?_) ?_
                      · go_simp
                        go_at_call 9
                        refine (segmentsT _ ((L9.drop L.length).take 1) _ (HU9.out.far (km.out.alloc _)) hl10 HF10.out).mono ?_
                        rintro e w13 ⟨gv13, L13, rfl, d13, m13, k13⟩
                        have kn := Lib.hid ((km.out.alloc _).trans' k13)
                        have D13 := Lib.hid d13
                        have M13 := Lib.hid (m13.trans HUM.out)
                        have DX13 := Lib.hid (DX.out.far k13)
                        clear d13 m13
                        go_simp
                        refine hK.out _ _ ⟨(kn.out).cell z0 (fun h => h), (kn.out).cell z1 (fun h => h), (kn.out).cell z2 (fun h => h), (kn.out).cell z3 (fun h => h)⟩ (fun hHeld => ?_)
                        clear hK K
                        try simp only [Act.put, List.setIfInBounds_toArray, List.set_cons_zero, List.set_cons_succ]
                        refine wpAnyH_ready (rs := [16]) (by kernel_rfl) (by simp) ?_
                        refine AllReadyH.cons (o := _) (by simp only [List.getElem?_toArray, List.getElem?_cons_succ, List.getElem?_cons_zero]; rfl) (fun K hK => ?_) ?_
                        · go_simp
                          go_at_call 9
                          refine (segmentsT _ [(⟨xargs, xos, xarch, xfuns, .slice xa xargs.length xc, .slice ya xfuns.length yc⟩ : SgV)] _ (DX13.out) (by simp) HF11.out).mono ?_
                          rintro e w14 ⟨gv14, L14, rfl, d14, m14, k14⟩
                          have ko := Lib.hid ((kn.out).trans' k14)
                          have D14' := Lib.hid (D13.out.far k14)
                          have D14 := Lib.hid d14
                          have M14 : Hid (L14.map SgV.sg = [⟨xargs, xos, xarch, xfuns.map (·.1)⟩]) := Lib.hid m14
                          go_simp
                          refine hK.out _ _ ⟨(ko.out).cell z0 (fun h => h), (ko.out).cell z1 (fun h => h), (ko.out).cell z2 (fun h => h), (ko.out).cell z3 (fun h => h)⟩ (fun hHeld => ?_)
                          clear hK K
                          try simp only [Act.put, List.setIfInBounds_toArray, List.set_cons_zero, List.set_cons_succ]
                          refine wpAnyH_ready (rs := [17]) (by kernel_rfl) (by simp) ?_
                          refine AllReadyH.cons (o := _) (by simp only [List.getElem?_toArray, List.getElem?_cons_succ, List.getElem?_cons_zero]; rfl) (fun K hK => ?_) ?_
                          · go_simp
                            go_at_call 12
                            refine (sameSegsT _ _ L13 L14 _ D14'.out D14.out (M13.out.trans M14.out.symm) (by have := congrArg List.length M13.out; simp at this; omega) (fun x hx => by have h1 : x.sg ∈ L13.map SgV.sg := List.mem_map_of_mem hx; rw [M13.out] at h1; rw [List.mem_singleton.1 h1]; exact HXOK.out)).mono ?_
                            rintro e w15 ⟨rfl, n15, hw15⟩
                            have kp : Hid (Keep Non w9 w15) := Lib.hid (by rw [hw15]; exact ko.out.drewN n15)
                            clear hw15
                            go_simp
                            refine hK.out _ _ ⟨(kp.out).cell z0 (fun h => h), (kp.out).cell z1 (fun h => h), (kp.out).cell z2 (fun h => h), (kp.out).cell z3 (fun h => h)⟩ (fun hHeld => ?_)
                            clear hK K
                            try simp only [Act.put, List.setIfInBounds_toArray, List.set_cons_zero, List.set_cons_succ]
                            refine wpAnyH_take (i := 18) (oi := _) (v := ?zv14) (by simp only [List.getElem?_toArray, List.getElem?_cons_succ, List.getElem?_cons_zero]; rfl) (by kernel_rfl) (by kernel_rfl) (by kernel_rfl) (fun _ _ _ h => h) (Or.inl ⟨by rfl, ?zy14⟩) (by assumption) ?zr14
                            case zy14 => (intro wz hSw; (try dsimp only at hSw); go_simp <;> with_reducible rfl)
                            try simp only [Act.put, List.setIfInBounds_toArray, List.set_cons_zero, List.set_cons_succ]
                            refine wpAnyH_take (i := 19) (oi := _) (v := ?zv15) (by simp only [List.getElem?_toArray, List.getElem?_cons_succ, List.getElem?_cons_zero]; rfl) (by kernel_rfl) (by kernel_rfl) (by kernel_rfl) (fun _ _ _ h => h) (Or.inl ⟨by rfl, ?zy15⟩) (by assumption) ?zr15
                            case zy15 => (intro wz hSw; (try dsimp only at hSw); go_simp <;> with_reducible rfl)
                            try simp only [Act.put, List.setIfInBounds_toArray, List.set_cons_zero, List.set_cons_succ]
                            refine wpAnyH_done (by kernel_rfl) ?_ _
                            refine NoPanic.normal ?_
                            go_wp2_with fail
                            go_ret
                            exact ⟨rfl, (HK9'.out.trans' kp.out).below (Nat.le_refl _) (fun _ _ h => h.elim)⟩
                          · exact AllReadyH.nil
                        · exact AllReadyH.nil
                      · exact AllReadyH.nil
                    · exact AllReadyH.nil
                · exact AllReadyH.nil
              · exact AllReadyH.nil
            · exact AllReadyH.nil
            --END GEN
end Go.Proofs.YtcpegoofbenoiaaGreatDoor
