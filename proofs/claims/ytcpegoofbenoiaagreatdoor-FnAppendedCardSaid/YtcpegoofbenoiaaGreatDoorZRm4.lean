/-
  THE CONTRACT of the reading of a table of texts that stands among other bytes.
-/
import Derived.Test.YtcpegoofbenoiaaGreatDoorZKt
namespace Go.Proofs.YtcpegoofbenoiaaGreatDoor
open Go.RowKit
open Go.ChangeShapes Go.WideShapes Go.ChangeAt Go.Deep
open Plain (M64)

set_option maxRecDepth 100000 in
set_option maxHeartbeats 4000000 in
theorem rtReadAt (gt g bb c p0 : Nat) (bs r : List UInt8) (all : List ByteArray) (w : World) (h : RT w gt g bb c p0 bs (.slice none 0 0) []) (hl : all.length ≤ 900) (hsz : ∀ s ∈ all, s.size ≤ 1000) (hbl : bs.length ≤ 1000000) (hdp : bs.drop p0 = tbytes all ++ r) :
    Calls Tryz.prog 91 #[.pointer (some ⟨gt, 0, none⟩)] w fun e w' => e = .returned (.tuple #[]) ∧ (∃ p v, RT w' gt g bb c p bs v all ∧ p ≤ bs.length) ∧ Keep (fun i => i = gt ∨ i = g) w w' := by
  have HSZ := Lib.hid hsz
  have htb := hbl
  have HDP := Lib.hid hdp
  have hdr0 : Hid (bs.drop p0 = uleb all.length ++ (all.flatMap tone ++ r)) := Lib.hid (by rw [hdp, tbytes, List.append_assoc])
  have d0 := h.c0
  have d1 := h.c1
  have H := Lib.hid h
  clear h hsz hdp hbl
  go_enter Tryz.func91, Tryz.ntmps91
  go_wp2_with (go_at_call 93; go_must (refine (readU g bb c p0 bs (all.flatMap tone ++ r) all.length _ H.out.rd (by unfold M64; omega) htb hdr0.out).mono ?_); rintro e w1 ⟨rfl, r1, k1⟩; have H1 := H.out.move k1 r1; have e0 := H1.c0; have e1 := H1.c1; have ef := H1.blk.free 1; obtain ⟨wm, mk, rm, gm⟩ := run_make_own (P := Tryz.prog) w1 0 24 9 _ (.string ⟨#[]⟩) 1 sliceStr.und (info_parts sliceStr.row).choose_spec.1 (info_parts sliceStr.row).choose_spec.2.1 (info_parts sliceStr.row).choose_spec.2.2.1 .i64 .i64 all.length (by rw [(info_parts sliceStr.row).choose_spec.2.2.2]; omega) (by unfold maxLen; omega) (Nat.zero_le _); have GM : Grew w1 wm (.slice none 0 0) (.slice (some ⟨w1.heap.size, 0, none⟩) 0 all.length) := ⟨gm, .inr rfl⟩; have hbm := H1.blk.keep GM.keep (by simp [Own, Value.ownBlock]); have em : wm.cell? ⟨gt, 1, none⟩ = some (.slice none 0 0) := (by rw [hbm.cell]; rfl); have fm := hbm.free 1)
  have HM : Hid (RT (wm.setCell ⟨gt, 1, none⟩ (.slice (some ⟨w1.heap.size, 0, none⟩) 0 all.length)) gt g bb c (p0 + tat all 0) bs (.slice (some ⟨w1.heap.size, 0, none⟩) 0 all.length) (all.take 0)) := Lib.hid (by
    have := H1.put (all' := []) GM rm
    simpa [tat] using this)
  have KM : Hid (Keep (fun i => i = gt ∨ i = g) w (wm.setCell ⟨gt, 1, none⟩ (.slice (some ⟨w1.heap.size, 0, none⟩) 0 all.length))) := Lib.hid (by
    refine Keep.setAt ?_ _ _ _ (.inl rfl)
    refine Keep.trans (S' := Own (.slice none 0 0)) ?_ GM.keep (fun i _ e => by simp [Own, Value.ownBlock] at e)
    exact (Keep.refl _ _).trans k1 (fun i _ e => .inr e))
  have hw1 := k1.size
  clear GM hbm em fm mk rm gm ef e1 e0 H1 k1 r1
  go_wp2_with fail
  go_loopw [3] (fun i wr => ∃ (k : Nat) (v : Value), k ≤ all.length ∧ i = .int .i64 k ∧ RT wr gt g bb c (p0 + tat all k) bs v (all.take k) ∧ (∀ b, v.ownBlock = some b → w.heap.size ≤ b) ∧ Keep (fun i => i = gt ∨ i = g) w wr) (fun i _ => all.length - (intOf i).toNat)
  case atStart => exact ⟨0, _, by omega, rfl, HM.out, fun b hb => by simp [Value.ownBlock] at hb; omega, KM.out⟩
  case round =>
    obtain ⟨k, v, hk, rfl, hR, hv, hkk⟩ := hrel
    by_cases hlt : k < all.length
    · have htl : (all.take k).length = k := by simp; omega
      obtain ⟨va, vc, rfl⟩ := (hR.rowk htl).reads.slice
      have hxs1 := HSZ.out _ (List.getElem_mem hlt)
      have hdr : bs.drop (p0 + tat all k) = uleb all[k].size ++ (all[k].data.toList ++ ((all.drop (k + 1)).flatMap tone ++ r)) := by
        rw [← List.drop_drop, HDP.out, List.drop_append_of_le_length (by
          have e1 := tat_succ hlt
          have e2 := congrArg List.length (tat_drop hlt)
          have e3 : 0 < (uleb all[k].size).length := List.length_pos_iff.2 (uleb_ne _)
          simp at e2; omega), tat_drop hlt]
        simp only [List.append_assoc]
      have hsc : p0 + tat all (k + 1) = p0 + tat all k + (uleb all[k].size).length + all[k].size := by rw [tat_succ hlt]; omega
      have hsn : all.take (k + 1) = all.take k ++ [all[k]] := List.take_succ_eq_append_getElem hlt
      have e0 := hR.c0
      have HR := Lib.hid hR
      have HV := Lib.hid hv
      have HK := Lib.hid hkk
      clear hR hv hkk
      generalize all[k] = s at *
      have hxs : s.size < M64 := by unfold M64; omega
      have hd2 : bs.drop (p0 + tat all k + (uleb s.size).length) = s.data.toList ++ ((all.drop (k + 1)).flatMap tone ++ r) := by
        rw [← List.drop_drop, hdr, List.drop_left]
      have hpl : p0 + tat all k + (uleb s.size).length ≤ bs.length := by
        have h1 := congrArg List.length hdr
        have h2 : 0 < (uleb s.size).length := List.length_pos_iff.2 (uleb_ne _)
        simp at h1; omega
      have HDR := Lib.hid hdr
      have HSC := Lib.hid hsc
      have HSN := Lib.hid hsn
      have HD2 := Lib.hid hd2
      have HPL := Lib.hid hpl
      have HTL := Lib.hid htl
      have hw3 : k + 1 ≤ maxLen := by unfold maxLen; omega
      have hw4 : (k + 1) * 16 ≤ 140737488355328 := by omega
      clear hdr hsc hsn hd2 hpl htl
      go_wp2_with (go_at_call 93; go_must (refine (readU g bb c _ bs _ s.size _ HR.out.rd hxs htb HDR.out).mono ?_); rintro e w2 ⟨rfl, r2, k2⟩; have R2 := HR.out.move k2 r2; have x0 := R2.c0; have x1 := R2.c1)
      have hw5 : IntKind.i64.wrap (s.size : Int) = (s.size : Int) := IntWalk.i64_in _ (by omega)
      have H2 := Lib.hid R2
      have K2 := Lib.hid k2
      clear R2 r2 k2
      go_region_law (first
        | (go_simp; (go_at_call 104; go_must (refine (readS g bb c _ bs _ s _ H2.out.drew.rd htb HPL.out HD2.out).mono ?_); rintro e w3 ⟨rfl, r3, k3⟩; have R3 := Lib.hid (H2.out.drew.move k3 r3); have y1 := R3.out.c1; have y2 := (R3.out.alloc (.cells #[.string s] 9)).c1))
        | (refine step_app (n := k) (xs := Ts (all.take k)) (m := 1) sliceStr rfl _ _ rfl rfl (Row.alloc (R3.out.rowk HTL.out) _) rfl (Reads.oneAt (by simp)) (by decide) (str_one _) hw3 hw4 ?_; intro v' w4 r4 g4; have B4 := (R3.out.alloc _).blkG g4; have z1 : w4.cell? ⟨gt, 1, none⟩ = some (.slice va k vc) := (by rw [B4.cell]; rfl); have z2 := B4.free 1; obtain ⟨vb, vd, rfl⟩ := r4.reads.slice))
      all_goals
        go_wp2_with fail
        go_roundw
        case measure => simp [intOf]; omega
        case rel =>
          have hpt := (R3.out.alloc _).put (all' := all.take (k + 1)) g4 (by
            have e : (all.take (k + 1)).length = k + 1 := by simp; omega
            rw [e, HSN.out, Ts_append]; exact r4)
          refine ⟨k + 1, _, by omega, by go_num, by rw [HSC.out]; exact hpt, fun b hb => ?_, ?_⟩
          · rcases g4.lies hb with e | e
            · exact HV.out b e
            · have a1 := HK.out.size; have a2 := K2.out.size; have a3 := k3.size
              simp at e a3; omega
          · refine Keep.setAt ?_ _ _ _ (.inl rfl)
            refine Keep.trans (S' := Own (.slice va k vc)) ?_ g4.keep (fun i hi e => by have := HV.out i e; omega)
            exact (((HK.out.trans K2.out (fun i _ e => .inr e)).drew).trans k3 (fun i _ e => .inr e)).alloc _
    · have hkl : k = all.length := by omega
      subst hkl
      rw [List.take_of_length_le (Nat.le_refl _)] at hR
      have HR := Lib.hid hR
      have HK := Lib.hid hkk
      clear hR hkk
      go_wp2
      go_end0
      refine ⟨rfl, ⟨_, _, HR.out, ?_⟩, HK.out⟩
      have e1 := congrArg List.length HDP.out
      have e2 : tat all all.length = (tbytes all).length := by rw [tat, List.take_of_length_le (Nat.le_refl _), tbytes, List.length_append]
      have e3 : 0 < (tbytes all).length := by
        have := List.length_pos_iff.2 (uleb_ne all.length)
        rw [tbytes, List.length_append]; omega
      simp at e1
      omega
end Go.Proofs.YtcpegoofbenoiaaGreatDoor
