/-
  CONTRACTS of the reader over a slice of bytes: texts.
-/
import Derived.Test.YtfcdedcffmpjjaaSlice2
namespace Go.Proofs.Ytfcdedcffmpjjaa
open Go.RowKit
open Go.ChangeShapes Go.WideShapes Go.ChangeAt Go.Deep

/-- Numbers of bytes, as bytes. -/
def bytes8 (l : List Nat) : List UInt8 := l.map UInt8.ofNat
theorem By_bytes8 {l : List Nat} (h : ∀ x ∈ l, x < 256) : By l = B (bytes8 l) := by
  simp only [By, B, bytes8, List.map_map]
  refine List.map_congr_left fun x hx => ?_
  have := h x hx
  simp
  omega
/-- 's[lo:lo+m]' of a slice of bytes. -/
def subV (bb lo m c : Nat) : Value := .slice (some ⟨bb, if c = lo then 0 else lo, none⟩) m (c - lo)
theorem subV_reads {w : World} {bb n c lo m : Nat} {bs : List Nat} (h : Reads w 1 (.slice (some ⟨bb, 0, none⟩) n c) n (By bs)) (hm : lo + m ≤ n) (hc : n ≤ c) : Reads w 1 (subV bb lo m c) m (By ((bs.drop lo).take m)) := by
  have h' := h.sub (lo := lo) (m := m) (c' := c - lo) hm
  rw [By_sub, Nat.zero_add] at h'
  unfold subV
  by_cases he : c = lo
  · have hm0 : m = 0 := by omega
    subst hm0
    exact ⟨by simp [By], .inr ⟨_, _, rfl, fun j u hj => by simp [By] at hj⟩⟩
  · rw [if_neg he]; exact h'
theorem run_sub2 (bb n c lo m : Nat) (h : lo + m ≤ c) (W : World) :
    (Instr.slice 28 (.slice (some ⟨bb, 0, none⟩) n c) (some (.int .i64 lo)) (some (.int .i64 ((lo : Int) + (m : Int)))) none).run Try.prog W = .ok (subV bb lo m c) W := by
  rw [run_slice_lh _ _ _ _ _ bytesElem _ _ _ _ (by omega) (by omega) (by omega), bytesSize]
  simp only [Result.andThen, sliced, Int.toNat_natCast, subV]
  rw [show ((lo : Int) + m).toNat = lo + m by omega]
  by_cases he : c = lo
  · simp [he]
  · simp [he, addr_add]
set_option maxRecDepth 100000 in
set_option maxHeartbeats 2000000 in
theorem readString (bb c g p m : Nat) (bs : List Nat) (w : World) (hb : Blk w g (rcells (.slice (some ⟨bb, 0, none⟩) bs.length c) p) 124) (hs : Reads w 1 (.slice (some ⟨bb, 0, none⟩) bs.length c) bs.length (By bs)) (hc : bs.length ≤ c)
    (hlen : bs.length ≤ 1000000) (h8 : ∀ x ∈ bs, x < 256) (hp : p + m ≤ bs.length) (hne : bb ≠ g) :
    Calls Try.prog 59 #[.pointer (some ⟨g, 0, none⟩), .int .i64 m] w fun e w' => e = .returned (.string ⟨(bytes8 ((bs.drop p).take m)).toArray⟩) ∧ Blk w' g (rcells (.slice (some ⟨bb, 0, none⟩) bs.length c) (p + m)) 124 ∧ Keep (At g) w w' := by
  have hsub := subV_reads (lo := p) (m := m) hs hp hc
  have hm : ∀ x ∈ (bs.drop p).take m, x < 256 := fun x h => h8 x (List.mem_of_mem_drop (List.mem_of_mem_take h))
  rw [By_bytes8 hm] at hsub
  have c0 : w.cell? ⟨g, 0, none⟩ = some (.slice (some ⟨bb, 0, none⟩) bs.length c) := by rw [hb.cell]; rfl
  have c1 : w.cell? ⟨g, 1, none⟩ = some (.bool false) := by rw [hb.cell]; rfl
  have c2 : w.cell? ⟨g, 2, none⟩ = some (.int .i64 (p : Int)) := by rw [hb.cell]; rfl
  have f2 := hb.free 2
  clear hm h8
  unfold subV at hsub
  by_cases he : c = p
  · rw [if_pos he, show c - p = 0 by omega] at hsub
    have HSUB := Lib.hid hsub
    clear hsub
    subst he
    go_enter Try.func59, Try.ntmps59
    go_wp2
    go_quiet (fail)
    have K2 : Keep (At g) w ((w.drewN nq).setCell ⟨g, 2, none⟩ (.int .i64 ((c : Int) + (m : Int)))) := ((Keep.refl _ _).drewN _).setAt _ _ _ (atSelf _)
    have c4 := run_toString (P := Try.prog) Try.underlying28 Try.underlying5 Try.underlying9 (HSUB.out.keep K2 (fun b hb' e => by unfold At at e; simp [Value.ownBlock] at hb'; omega))
    go_wp2
    go_ret
    refine ⟨rfl, ?_, K2⟩
    have := (hb.keep ((Keep.refl Non _).drewN nq) (fun h => h)).set 2 (.int .i64 ((c : Int) + (m : Int)))
    simpa [rcells] using this
  · rw [if_neg he] at hsub
    have HSUB := Lib.hid hsub
    clear hsub
    go_enter Try.func59, Try.ntmps59
    go_wp2
    go_quiet (fail)
    have K2 : Keep (At g) w ((w.drewN nq).setCell ⟨g, 2, none⟩ (.int .i64 ((p : Int) + (m : Int)))) := ((Keep.refl _ _).drewN _).setAt _ _ _ (atSelf _)
    have c4 := run_toString (P := Try.prog) Try.underlying28 Try.underlying5 Try.underlying9 (HSUB.out.keep K2 (fun b hb' e => by unfold At at e; simp [Value.ownBlock] at hb'; omega))
    go_wp2
    go_ret
    refine ⟨rfl, ?_, K2⟩
    have := (hb.keep ((Keep.refl Non _).drewN nq) (fun h => h)).set 2 (.int .i64 ((p : Int) + (m : Int)))
    simpa [rcells] using this
end Go.Proofs.Ytfcdedcffmpjjaa
