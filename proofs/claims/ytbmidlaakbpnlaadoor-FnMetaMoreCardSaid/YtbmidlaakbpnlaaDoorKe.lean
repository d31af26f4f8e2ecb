/-
  CONTRACT: the reader's Read into whatever block. (taken by a program out of the texts of seat A.)
-/
import Derived.Test.YtbmidlaakbpnlaaDoorKt
namespace Go.Proofs.YtbmidlaakbpnlaaDoor
open Go.RowKit
open Go.ChangeShapes Go.WideShapes Go.ChangeAt Go.Deep
open Plain (M64)

set_option maxRecDepth 100000 in
set_option maxHeartbeats 2000000 in
theorem readInto (bb c g gb p m : Nat) (bs : List Nat) (zs : List Value) (T : TypeId) (w : World) (hb : Blk w g (rcells (.slice (some ⟨bb, 0, none⟩) bs.length c) p) 140) (hs : Reads w 1 (.slice (some ⟨bb, 0, none⟩) bs.length c) bs.length (By bs)) (hc : bs.length ≤ c)
    (hlen : bs.length ≤ 1000000) (hp : p ≤ bs.length) (hm : m ≤ 1000000) (hz : zs.length = m) (hbb : Blk w gb zs T) (hne : gb ≠ g) :
    Calls Tryd.prog 82 #[.pointer (some ⟨g, 0, none⟩), .slice (some ⟨gb, 0, none⟩) m m] w fun e w' => e = .returned (.tuple #[.int .i64 (min m (bs.length - p) : Nat), .nilIface]) ∧
      Blk w' g (rcells (.slice (some ⟨bb, 0, none⟩) bs.length c) (p + min m (bs.length - p))) 140 ∧ Blk w' gb (splice zs 0 ((By (bs.drop p)).take (min (bs.length - p) m))) T ∧ Keep (fun i => i = g ∨ i = gb) w w' := by
  have hsub := subV_reads (lo := p) (m := bs.length - p) hs (by omega) hc
  rw [List.take_of_length_le (by simp)] at hsub
  have c0 : w.cell? ⟨g, 0, none⟩ = some (.slice (some ⟨bb, 0, none⟩) bs.length c) := by rw [hb.cell]; rfl
  have c2 : w.cell? ⟨g, 2, none⟩ = some (.int .i64 (p : Int)) := by rw [hb.cell]; rfl
  have HB := Lib.hid hb
  have HBB := Lib.hid hbb
  have HNE := Lib.hid (show ¬ At gb g from fun e => hne (Eq.symm e))
  have HZ := Lib.hid hz
  have hzl : m ≤ zs.length := by omega
  clear hb hbb hne hs hz
  unfold subV at hsub
  by_cases he : c = p
  · rw [if_pos he, show c - p = 0 by omega] at hsub
    subst he
    have hz0 : bs.length - c = 0 := by omega
    rw [hz0] at hsub ⊢
    rw [Nat.min_zero, Nat.zero_min]
    have SRC := Lib.hid hsub
    clear hsub hz0
    by_cases hm0 : 0 < m
    · go_enter Tryd.func82, Tryd.ntmps82
      go_wp2
      go_quiet (fail)
      have SRC' := Lib.hid (SRC.out.keep ((Keep.refl Non w).drewN nq) (fun _ _ h => h))
      have HBB' := Lib.hid (HBB.out.keep ((Keep.refl Non w).drewN nq) (fun h => h))
      have HB' := Lib.hid (HB.out.keep ((Keep.refl Non w).drewN nq) (fun h => h))
      go_wp2_with ((with_reducible show wpList _ _ _ (Oper.mk (some 27) _ _ _ _ _ :: _) _ _); go_must (refine wpList_cp (n := 0) (sv := .slice (some ⟨bb, 0, none⟩) 0 0) (g := gb) (off := 0) (dLen := m) (dCap := m) Tryd.underlying31 (by kernel_rfl) rfl (.tmp 25) (.tmp 26) rfl rfl rfl HBB'.out SRC'.out (by omega) (bytes_one _) ?_); intro w1 hb1 k1; have hg1 := HB'.out.keep k1 HNE.out; have d2 : w1.cell? ⟨g, 2, none⟩ = some (.int .i64 (c : Int)) := (by rw [hg1.cell]; rfl); have f2' := hg1.free 2)
      go_ret2
      refine ⟨rfl, ?_, ?_, ?_⟩
      · have := hg1.set 2 (.int .i64 ((c : Int) + (0 : Int)))
        simpa [rcells] using this
      · exact hb1.setOther (fun e => HNE.out (Eq.symm e)) _
      · refine Keep.setCell ?_ (fun _ => .inl rfl) _
        exact ((Keep.refl _ w).drewN nq).trans k1 (fun i _ h => .inr h)
    · obtain rfl : m = 0 := by omega
      go_enter Tryd.func82, Tryd.ntmps82
      go_wp2
      go_quiet (fail)
      have SRC' := Lib.hid (SRC.out.keep ((Keep.refl Non w).drewN nq) (fun _ _ h => h))
      have HBB' := Lib.hid (HBB.out.keep ((Keep.refl Non w).drewN nq) (fun h => h))
      have HB' := Lib.hid (HB.out.keep ((Keep.refl Non w).drewN nq) (fun h => h))
      go_wp2_with ((with_reducible show wpList _ _ _ (Oper.mk (some 27) _ _ _ _ _ :: _) _ _); go_must (refine wpList_cp (n := 0) (sv := .slice (some ⟨bb, 0, none⟩) 0 0) (g := gb) (off := 0) (dLen := 0) (dCap := 0) Tryd.underlying31 (by kernel_rfl) rfl (.tmp 25) (.tmp 26) rfl rfl rfl HBB'.out SRC'.out (by omega) (bytes_one _) ?_); intro w1 hb1 k1; have hg1 := HB'.out.keep k1 HNE.out; have d2 : w1.cell? ⟨g, 2, none⟩ = some (.int .i64 (c : Int)) := (by rw [hg1.cell]; rfl); have f2' := hg1.free 2)
      go_ret2
      refine ⟨rfl, ?_, ?_, ?_⟩
      · have := hg1.set 2 (.int .i64 ((c : Int) + (0 : Int)))
        simpa [rcells] using this
      · exact hb1.setOther (fun e => HNE.out (Eq.symm e)) _
      · refine Keep.setCell ?_ (fun _ => .inl rfl) _
        exact ((Keep.refl _ w).drewN nq).trans k1 (fun i _ h => .inr h)
  · rw [if_neg he] at hsub
    have SRC := Lib.hid hsub
    clear hsub
    by_cases hlt : bs.length - p < m
    · have hlt' : ((bs.length - p : Nat) : Int) < (m : Int) := by omega
      have hmin : min m (bs.length - p) = bs.length - p := by omega
      rw [hmin]
      clear hmin
      go_enter Tryd.func82, Tryd.ntmps82
      go_wp2
      go_quiet (fail)
      have SRC' := Lib.hid (SRC.out.keep ((Keep.refl Non w).drewN nq) (fun _ _ h => h))
      have HBB' := Lib.hid (HBB.out.keep ((Keep.refl Non w).drewN nq) (fun h => h))
      have HB' := Lib.hid (HB.out.keep ((Keep.refl Non w).drewN nq) (fun h => h))
      go_wp2_with ((with_reducible show wpList _ _ _ (Oper.mk (some 27) _ _ _ _ _ :: _) _ _); go_must (refine wpList_cp (n := bs.length - p) (sv := .slice (some ⟨bb, p, none⟩) (bs.length - p) (c - p)) (g := gb) (off := 0) (dLen := m) (dCap := m) Tryd.underlying31 (by kernel_rfl) rfl (.tmp 25) (.tmp 26) rfl rfl rfl HBB'.out SRC'.out (by omega) (bytes_one _) ?_); intro w1 hb1 k1; have hg1 := HB'.out.keep k1 HNE.out; have d2 : w1.cell? ⟨g, 2, none⟩ = some (.int .i64 (p : Int)) := (by rw [hg1.cell]; rfl); have f2' := hg1.free 2)
      go_ret2
      refine ⟨rfl, ?_, ?_, ?_⟩
      · have := hg1.set 2 (.int .i64 ((p : Int) + ((bs.length - p : Nat) : Int)))
        simpa [rcells] using this
      · exact hb1.setOther (fun e => HNE.out (Eq.symm e)) _
      · refine Keep.setCell ?_ (fun _ => .inl rfl) _
        exact ((Keep.refl _ w).drewN nq).trans k1 (fun i _ h => .inr h)
    · have hlt' : ¬ ((bs.length - p : Nat) : Int) < (m : Int) := by omega
      have hmin : min m (bs.length - p) = m := by omega
      rw [hmin]
      clear hmin
      go_enter Tryd.func82, Tryd.ntmps82
      go_wp2
      go_quiet (fail)
      have SRC' := Lib.hid (SRC.out.keep ((Keep.refl Non w).drewN nq) (fun _ _ h => h))
      have HBB' := Lib.hid (HBB.out.keep ((Keep.refl Non w).drewN nq) (fun h => h))
      have HB' := Lib.hid (HB.out.keep ((Keep.refl Non w).drewN nq) (fun h => h))
      go_wp2_with ((with_reducible show wpList _ _ _ (Oper.mk (some 27) _ _ _ _ _ :: _) _ _); go_must (refine wpList_cp (n := bs.length - p) (sv := .slice (some ⟨bb, p, none⟩) (bs.length - p) (c - p)) (g := gb) (off := 0) (dLen := m) (dCap := m) Tryd.underlying31 (by kernel_rfl) rfl (.tmp 25) (.tmp 26) rfl rfl rfl HBB'.out SRC'.out (by omega) (bytes_one _) ?_); intro w1 hb1 k1; have hg1 := HB'.out.keep k1 HNE.out; have d2 : w1.cell? ⟨g, 2, none⟩ = some (.int .i64 (p : Int)) := (by rw [hg1.cell]; rfl); have f2' := hg1.free 2)
      go_ret2
      refine ⟨rfl, ?_, ?_, ?_⟩
      · have := hg1.set 2 (.int .i64 ((p : Int) + (m : Int)))
        simpa [rcells] using this
      · exact hb1.setOther (fun e => HNE.out (Eq.symm e)) _
      · refine Keep.setCell ?_ (fun _ => .inl rfl) _
        exact ((Keep.refl _ w).drewN nq).trans k1 (fun i _ h => .inr h)
end Go.Proofs.YtbmidlaakbpnlaaDoor
