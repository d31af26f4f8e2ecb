/-
  CONTRACT: the reader's ReadUint32. (taken by a program out of the texts of seat A.)
-/
import Derived.Test.YtbmidlaakbpnlaaDoorKe
namespace Go.Proofs.YtbmidlaakbpnlaaDoor
open Go.RowKit
open Go.ChangeShapes Go.WideShapes Go.ChangeAt Go.Deep
open Plain (M64)

set_option maxRecDepth 100000 in
set_option maxHeartbeats 2000000 in
theorem leU32 (s : Value) (n b0 b1 b2 b3 : Nat) (xs : List Value) (w : World) (hs : Reads w 1 s n xs) (hn : 4 ≤ n) (h0 : b0 < 256) (h1 : b1 < 256) (h2 : b2 < 256) (h3 : b3 < 256)
    (e0 : xs[0]? = some (.int .u8 b0)) (e1 : xs[1]? = some (.int .u8 b1)) (e2 : xs[2]? = some (.int .u8 b2)) (e3 : xs[3]? = some (.int .u8 b3)) :
    Calls Tryd.prog 57 #[s] w fun e w' => e = .returned (.int .u32 (leVal [b0, b1, b2, b3])) ∧ ∃ m, w' = w.drewN m := by
  obtain ⟨bb, off, ca, rfl, hc⟩ := hs.at (by omega) (by omega)
  have i0 := hc 0 _ e0
  rw [Nat.add_zero] at i0
  have i1 := hc 1 _ e1
  have i2 := hc 2 _ e2
  have i3 := hc 3 _ e3
  clear hc e0 e1 e2 e3
  go_enter Tryd.func57, Tryd.ntmps57
  go_wp2
  go_quiet (fail)
  go_wp2
  go_ret
  exact ⟨congrArg (fun x => Ending.returned (.int .u32 x)) (or4 h0 h1 h2 h3), _, rfl⟩
theorem run_sub3 (bb n c lo m : Nat) (hm : 0 < m) (h : lo + m ≤ c) (W : World) :
    (Instr.slice 31 (.slice (some ⟨bb, 0, none⟩) n c) (some (.int .i64 lo)) (some (.int .i64 ((lo : Int) + (m : Int)))) (some (.int .i64 ((lo : Int) + (m : Int))))).run Tryd.prog W = .ok (.slice (some ⟨bb, lo, none⟩) m m) W := by
  rw [run_slice_lhm _ _ _ _ _ bytesElem _ _ _ _ _ _ (by omega) (by omega) (by omega) (by omega), bytesSize]
  simp only [Result.andThen, sliced, Int.toNat_natCast]
  rw [show ((lo : Int) + m).toNat = lo + m by omega, if_neg (by omega)]
  simp [addr_add]
set_option maxRecDepth 100000 in
set_option maxHeartbeats 2000000 in
theorem readU32 (bb c g p : Nat) (bs : List Nat) (w : World) (hb : Blk w g (rcells (.slice (some ⟨bb, 0, none⟩) bs.length c) p) 140) (hs : Reads w 1 (.slice (some ⟨bb, 0, none⟩) bs.length c) bs.length (By bs)) (hc : bs.length ≤ c)
    (hlen : bs.length ≤ 1000000) (h8 : ∀ x ∈ bs, x < 256) (hp : p + 4 ≤ bs.length) :
    Calls Tryd.prog 46 #[.pointer (some ⟨g, 0, none⟩)] w fun e w' => e = .returned (.int .u32 (leVal ((bs.drop p).take 4))) ∧ Blk w' g (rcells (.slice (some ⟨bb, 0, none⟩) bs.length c) (p + 4)) 140 ∧ Keep (At g) w w' := by
  have hsub := hs.sub (lo := p) (m := 4) (c' := 4) (by omega)
  rw [By_sub, Nat.zero_add] at hsub
  obtain ⟨b0, b1, b2, b3, hbs⟩ := four (l := (bs.drop p).take 4) (by simp; omega)
  rw [hbs] at hsub ⊢
  have hm : ∀ x ∈ (bs.drop p).take 4, x < 256 := fun x h => h8 x (List.mem_of_mem_drop (List.mem_of_mem_take h))
  rw [hbs] at hm
  have l0 := hm b0 (by simp)
  have l1 := hm b1 (by simp)
  have l2 := hm b2 (by simp)
  have l3 := hm b3 (by simp)
  have c0 : w.cell? ⟨g, 0, none⟩ = some (.slice (some ⟨bb, 0, none⟩) bs.length c) := by rw [hb.cell]; rfl
  have c2 : w.cell? ⟨g, 2, none⟩ = some (.int .i64 (p : Int)) := by rw [hb.cell]; rfl
  have f2 := hb.free 2
  have HSUB := Lib.hid hsub
  clear hm hbs h8 hsub
  have hsl : ∀ k, (Instr.slice 31 (.slice (some ⟨bb, 0, none⟩) bs.length c) (some (.int .i64 p)) (some (.int .i64 ((p : Int) + 4))) (some (.int .i64 ((p : Int) + 4)))).run Tryd.prog (w.drewN k) = .ok (.slice (some ⟨bb, p, none⟩) 4 4) (w.drewN k) := fun k => run_sub3 bb bs.length c p 4 (by omega) (by omega) _
  go_enter Tryd.func46, Tryd.ntmps46
  go_wp2
  go_quiet ((go_at_call 57; refine Calls.quiet_of (leU32 _ 4 b0 b1 b2 b3 (By [b0, b1, b2, b3]) _ ?_ (by omega) l0 l1 l2 l3 rfl rfl rfl rfl); exact HSUB.out))
  go_wp2
  go_ret
  refine ⟨rfl, ?_, ((Keep.refl _ _).drewN _).setAt _ _ _ (atSelf _)⟩
  have := (hb.keep ((Keep.refl Non _).drewN nq) (fun h => h)).set 2 (.int .i64 ((p : Int) + 4))
  simpa [rcells] using this
end Go.Proofs.YtbmidlaakbpnlaaDoor
