/-
  CONTRACTS of the reader over a slice of bytes: numbers of one, four and eight bytes.
-/
import Derived.Test.YtfcdedcffmpjjaaRead
namespace Go.Proofs.Ytfcdedcffmpjjaa
open Go.RowKit
open Go.ChangeShapes Go.WideShapes Go.ChangeAt Go.Deep
open Plain (M64)

/-- A number, the least byte first. -/
def leVal : List Nat → Nat
  | [] => 0
  | b :: l => b + 256 * leVal l
set_option maxRecDepth 100000 in
set_option maxHeartbeats 2000000 in
theorem readU8 (s : Value) (g p x : Nat) (bs : List Nat) (w : World) (hb : Blk w g (rcells s p) 124) (hs : Reads w 1 s bs.length (By bs)) (hlen : bs.length ≤ 1000000) (hx : bs[p]? = some x) :
    Calls Try.prog 55 #[.pointer (some ⟨g, 0, none⟩)] w fun e w' => e = .returned (.int .u8 x) ∧ Blk w' g (rcells s (p + 1)) 124 ∧ Keep (At g) w w' := by
  have hp : p < bs.length := (List.getElem?_eq_some_iff.1 hx).1
  obtain ⟨bb, off, ca, rfl, hc⟩ := hs.at (by omega) (by omega)
  have hi : w.cell? ⟨bb, off + p, none⟩ = some (.int .u8 (x : Int)) := hc p _ (by simp [By, hx])
  have c0 : w.cell? ⟨g, 0, none⟩ = some (.slice (some ⟨bb, off, none⟩) bs.length ca) := by rw [hb.cell]; rfl
  have c2 : w.cell? ⟨g, 2, none⟩ = some (.int .i64 (p : Int)) := by rw [hb.cell]; rfl
  have f2 := hb.free 2
  have HC := Lib.hid hc
  clear hc
  go_enter Try.func55, Try.ntmps55
  go_wp2
  go_quiet (fail)
  go_wp2
  go_ret
  refine ⟨rfl, ?_, ((Keep.refl _ _).drewN _).setAt _ _ _ (atSelf _)⟩
  have := (hb.keep ((Keep.refl Non _).drewN nq) (fun h => h)).set 2 (.int .i64 ((p : Int) + 1))
  simpa [rcells] using this
theorem or_up (a b i : Nat) (h : a < 2 ^ i) : a ||| b * 2 ^ i = a + b * 2 ^ i := by
  rw [Nat.or_comm, Nat.mul_comm, ← Nat.two_pow_add_eq_or_of_lt h b, Nat.add_comm]
theorem or32 (a b i : Nat) (h : a < 2 ^ i) (hs : a + b * 2 ^ i < 4294967296) : bits .or .u32 (a : Int) ((b : Int) * ((2 ^ i : Nat) : Int)) = ((a + b * 2 ^ i : Nat) : Int) := by
  rw [show (b : Int) * ((2 ^ i : Nat) : Int) = ((b * 2 ^ i : Nat) : Int) by simp, u32_or_nat _ _ (by omega) (by omega), or_up a b i h]
theorem or64 (a b i : Nat) (h : a < 2 ^ i) (hs : a + b * 2 ^ i < 18446744073709551616) : bits .or .u64 (a : Int) ((b : Int) * ((2 ^ i : Nat) : Int)) = ((a + b * 2 ^ i : Nat) : Int) := by
  rw [show (b : Int) * ((2 ^ i : Nat) : Int) = ((b * 2 ^ i : Nat) : Int) by simp, u64_or_nat _ _ (by omega) (by omega), or_up a b i h]
theorem or4 {b0 b1 b2 b3 : Nat} (h0 : b0 < 256) (h1 : b1 < 256) (h2 : b2 < 256) (h3 : b3 < 256) :
    bits .or .u32 (bits .or .u32 (bits .or .u32 (b0 : Int) ((b1 : Int) * 256)) ((b2 : Int) * 65536)) ((b3 : Int) * 16777216) = ((leVal [b0, b1, b2, b3] : Nat) : Int) := by
  have e1 := or32 b0 b1 8 (by omega) (by omega)
  have e2 := or32 (b0 + b1 * 2 ^ 8) b2 16 (by omega) (by omega)
  have e3 := or32 (b0 + b1 * 2 ^ 8 + b2 * 2 ^ 16) b3 24 (by omega) (by omega)
  rw [show ((2 ^ 8 : Nat) : Int) = 256 from rfl] at e1
  rw [show ((2 ^ 16 : Nat) : Int) = 65536 from rfl] at e2
  rw [show ((2 ^ 24 : Nat) : Int) = 16777216 from rfl] at e3
  rw [e1, e2, e3]
  simp only [leVal]
  congr 1
  omega
set_option maxRecDepth 100000 in
set_option maxHeartbeats 2000000 in
theorem leU32 (s : Value) (n b0 b1 b2 b3 : Nat) (xs : List Value) (w : World) (hs : Reads w 1 s n xs) (hn : 4 ≤ n) (h0 : b0 < 256) (h1 : b1 < 256) (h2 : b2 < 256) (h3 : b3 < 256)
    (e0 : xs[0]? = some (.int .u8 b0)) (e1 : xs[1]? = some (.int .u8 b1)) (e2 : xs[2]? = some (.int .u8 b2)) (e3 : xs[3]? = some (.int .u8 b3)) :
    Calls Try.prog 65 #[s] w fun e w' => e = .returned (.int .u32 (leVal [b0, b1, b2, b3])) ∧ ∃ m, w' = w.drewN m := by
  obtain ⟨bb, off, ca, rfl, hc⟩ := hs.at (by omega) (by omega)
  have i0 := hc 0 _ e0
  rw [Nat.add_zero] at i0
  have i1 := hc 1 _ e1
  have i2 := hc 2 _ e2
  have i3 := hc 3 _ e3
  clear hc e0 e1 e2 e3
  go_enter Try.func65, Try.ntmps65
  go_wp2
  go_quiet (fail)
  go_wp2
  go_ret
  exact ⟨congrArg (fun x => Ending.returned (.int .u32 x)) (or4 h0 h1 h2 h3), _, rfl⟩
theorem addr_add (g o j : Nat) : (⟨g, o, none⟩ : Addr).add j = ⟨g, o + j, none⟩ := by
  unfold Addr.add
  split <;> simp_all
theorem Reads.sub {w : World} {g off n ca lo m c' : Nat} {xs : List Value} (h : Reads w 1 (.slice (some ⟨g, off, none⟩) n ca) n xs) (hm : lo + m ≤ n) : Reads w 1 (.slice (some ⟨g, off + lo, none⟩) m c') m ((xs.drop lo).take m) := by
  obtain ⟨hl, ⟨h, _⟩ | ⟨ad, c, h, hc⟩⟩ := h
  · cases h
  · cases h
    refine ⟨by simp; omega, .inr ⟨_, _, rfl, fun j u hj => ?_⟩⟩
    have hjm : j < m := by
      have := (List.getElem?_eq_some_iff.1 hj).1
      simp at this; omega
    rw [List.getElem?_take_of_lt hjm, List.getElem?_drop] at hj
    have := hc (lo + j) u hj
    rw [addr_add] at this ⊢
    rw [Nat.add_assoc]
    exact this
theorem By_get {l : List Nat} {i : Nat} (h : i < l.length) : (By l)[i]? = some (.int .u8 (l[i] : Nat)) := by simp [By, h]
set_option maxRecDepth 100000 in
set_option maxHeartbeats 2000000 in
theorem leU64 (g off ca n b0 b1 b2 b3 b4 b5 b6 b7 : Nat) (w : World) (hn : n = 8) (hca : 8 ≤ ca) (h0 : b0 < 256) (h1 : b1 < 256) (h2 : b2 < 256) (h3 : b3 < 256) (h4 : b4 < 256) (h5 : b5 < 256) (h6 : b6 < 256) (h7 : b7 < 256)
    (hs : Reads w 1 (.slice (some ⟨g, off, none⟩) n ca) n (By [b0, b1, b2, b3, b4, b5, b6, b7])) :
    Calls Try.prog 66 #[.slice (some ⟨g, off, none⟩) n ca] w fun e w' => e = .returned (.int .u64 (leVal [b0, b1, b2, b3, b4, b5, b6, b7])) ∧ ∃ m, w' = w.drewN m := by
  subst hn
  have hs2 : Reads w 1 (.slice (some ⟨g, off + 4, none⟩) 4 (ca - 4)) 4 (By [b4, b5, b6, b7]) := by
    exact hs.sub (lo := 4) (m := 4) (by omega)
  have hA : leVal [b0, b1, b2, b3] < 4294967296 := by simp only [leVal]; omega
  have hB : leVal [b4, b5, b6, b7] < 4294967296 := by simp only [leVal]; omega
  go_enter Try.func66, Try.ntmps66
  go_wp2
  go_quiet (first
    | (go_at_call_of 65 (Value.slice (some ⟨g, off, none⟩) 8 ca); refine Calls.quiet_of (leU32 _ 8 b0 b1 b2 b3 (By [b0, b1, b2, b3, b4, b5, b6, b7]) _ ?_ (by omega) h0 h1 h2 h3 rfl rfl rfl rfl); exact hs)
    | (go_at_call 65; refine Calls.quiet_of (leU32 _ 4 b4 b5 b6 b7 (By [b4, b5, b6, b7]) _ ?_ (by omega) h4 h5 h6 h7 rfl rfl rfl rfl); exact hs2))
  go_wp2
  go_ret
  refine ⟨?_, _, rfl⟩
  have := or64 (leVal [b0, b1, b2, b3]) (leVal [b4, b5, b6, b7]) 32 (by omega) (by omega)
  rw [show ((2 ^ 32 : Nat) : Int) = 4294967296 from rfl] at this
  refine (congrArg (fun x => Ending.returned (.int .u64 x)) this).trans ?_
  congr 3
  simp only [leVal]
  omega
theorem four {l : List Nat} (h : l.length = 4) : ∃ b0 b1 b2 b3, l = [b0, b1, b2, b3] := by
  match l, h with
  | [b0, b1, b2, b3], _ => exact ⟨b0, b1, b2, b3, rfl⟩
theorem eight {l : List Nat} (h : l.length = 8) : ∃ b0 b1 b2 b3 b4 b5 b6 b7, l = [b0, b1, b2, b3, b4, b5, b6, b7] := by
  match l, h with
  | [b0, b1, b2, b3, b4, b5, b6, b7], _ => exact ⟨b0, b1, b2, b3, b4, b5, b6, b7, rfl⟩
theorem By_sub (l : List Nat) (p m : Nat) : ((By l).drop p).take m = By ((l.drop p).take m) := by simp [By, List.map_drop, List.map_take]
theorem bytesElem : Try.prog.underlying 28 = some (.slice (Try.prog.elem 28)) := by kernel_rfl
theorem bytesSize (W : World) : (sizeOf (Try.prog.elem 28)).run Try.prog W = .ok 1 W := by
  rw [show Try.prog.elem 28 = 5 by kernel_rfl]
  simp [sizeOf, go_sem]
  rfl
theorem run_sub3 (bb n c lo m : Nat) (hm : 0 < m) (h : lo + m ≤ c) (W : World) :
    (Instr.slice 28 (.slice (some ⟨bb, 0, none⟩) n c) (some (.int .i64 lo)) (some (.int .i64 ((lo : Int) + (m : Int)))) (some (.int .i64 ((lo : Int) + (m : Int))))).run Try.prog W = .ok (.slice (some ⟨bb, lo, none⟩) m m) W := by
  rw [run_slice_lhm _ _ _ _ _ bytesElem _ _ _ _ _ _ (by omega) (by omega) (by omega) (by omega), bytesSize]
  simp only [Result.andThen, sliced, Int.toNat_natCast]
  rw [show ((lo : Int) + m).toNat = lo + m by omega, if_neg (by omega)]
  simp [addr_add]
set_option maxRecDepth 100000 in
set_option maxHeartbeats 2000000 in
theorem readU32 (bb c g p : Nat) (bs : List Nat) (w : World) (hb : Blk w g (rcells (.slice (some ⟨bb, 0, none⟩) bs.length c) p) 124) (hs : Reads w 1 (.slice (some ⟨bb, 0, none⟩) bs.length c) bs.length (By bs)) (hc : bs.length ≤ c)
    (hlen : bs.length ≤ 1000000) (h8 : ∀ x ∈ bs, x < 256) (hp : p + 4 ≤ bs.length) :
    Calls Try.prog 56 #[.pointer (some ⟨g, 0, none⟩)] w fun e w' => e = .returned (.int .u32 (leVal ((bs.drop p).take 4))) ∧ Blk w' g (rcells (.slice (some ⟨bb, 0, none⟩) bs.length c) (p + 4)) 124 ∧ Keep (At g) w w' := by
  have hsub := hs.sub (lo := p) (m := 4) (c' := 4) (by omega)
  rw [By_sub, Nat.zero_add] at hsub
  obtain ⟨b0, b1, b2, b3, hbs⟩ := four (l := (bs.drop p).take 4) (by simp; omega)
  rw [hbs] at hsub ⊢
  have hm : ∀ x ∈ (bs.drop p).take 4, x < 256 := fun x h => h8 x (List.mem_of_mem_drop (List.mem_of_mem_take h))
  rw [hbs] at hm
  have l0 := hm b0 (by simp)
  have l1 := hm b1 (by simp)
  have l2 := hm b2 (by simp)
  have l3 := hm b3 (by simp)
  have c0 : w.cell? ⟨g, 0, none⟩ = some (.slice (some ⟨bb, 0, none⟩) bs.length c) := by rw [hb.cell]; rfl
  have c2 : w.cell? ⟨g, 2, none⟩ = some (.int .i64 (p : Int)) := by rw [hb.cell]; rfl
  have f2 := hb.free 2
  have HSUB := Lib.hid hsub
  clear hm hbs h8 hsub
  have hsl : ∀ k, (Instr.slice 28 (.slice (some ⟨bb, 0, none⟩) bs.length c) (some (.int .i64 p)) (some (.int .i64 ((p : Int) + 4))) (some (.int .i64 ((p : Int) + 4)))).run Try.prog (w.drewN k) = .ok (.slice (some ⟨bb, p, none⟩) 4 4) (w.drewN k) := fun k => run_sub3 bb bs.length c p 4 (by omega) (by omega) _
  go_enter Try.func56, Try.ntmps56
  go_wp2
  go_quiet ((go_at_call 65; refine Calls.quiet_of (leU32 _ 4 b0 b1 b2 b3 (By [b0, b1, b2, b3]) _ ?_ (by omega) l0 l1 l2 l3 rfl rfl rfl rfl); exact HSUB.out))
  go_wp2
  go_ret
  refine ⟨rfl, ?_, ((Keep.refl _ _).drewN _).setAt _ _ _ (atSelf _)⟩
  have := (hb.keep ((Keep.refl Non _).drewN nq) (fun h => h)).set 2 (.int .i64 ((p : Int) + 4))
  simpa [rcells] using this
set_option maxRecDepth 100000 in
set_option maxHeartbeats 2000000 in
theorem readU64 (bb c g p : Nat) (bs : List Nat) (w : World) (hb : Blk w g (rcells (.slice (some ⟨bb, 0, none⟩) bs.length c) p) 124) (hs : Reads w 1 (.slice (some ⟨bb, 0, none⟩) bs.length c) bs.length (By bs)) (hc : bs.length ≤ c)
    (hlen : bs.length ≤ 1000000) (h8 : ∀ x ∈ bs, x < 256) (hp : p + 8 ≤ bs.length) :
    Calls Try.prog 57 #[.pointer (some ⟨g, 0, none⟩)] w fun e w' => e = .returned (.int .u64 (leVal ((bs.drop p).take 8))) ∧ Blk w' g (rcells (.slice (some ⟨bb, 0, none⟩) bs.length c) (p + 8)) 124 ∧ Keep (At g) w w' := by
  have hsub := hs.sub (lo := p) (m := 8) (c' := 8) (by omega)
  rw [By_sub, Nat.zero_add] at hsub
  obtain ⟨b0, b1, b2, b3, b4, b5, b6, b7, hbs⟩ := eight (l := (bs.drop p).take 8) (by simp; omega)
  rw [hbs] at hsub ⊢
  have hm : ∀ x ∈ (bs.drop p).take 8, x < 256 := fun x h => h8 x (List.mem_of_mem_drop (List.mem_of_mem_take h))
  rw [hbs] at hm
  have l0 := hm b0 (by simp)
  have l1 := hm b1 (by simp)
  have l2 := hm b2 (by simp)
  have l3 := hm b3 (by simp)
  have l4 := hm b4 (by simp)
  have l5 := hm b5 (by simp)
  have l6 := hm b6 (by simp)
  have l7 := hm b7 (by simp)
  have c0 : w.cell? ⟨g, 0, none⟩ = some (.slice (some ⟨bb, 0, none⟩) bs.length c) := by rw [hb.cell]; rfl
  have c2 : w.cell? ⟨g, 2, none⟩ = some (.int .i64 (p : Int)) := by rw [hb.cell]; rfl
  have f2 := hb.free 2
  have HSUB := Lib.hid hsub
  clear hm hbs h8 hsub
  have hsl : ∀ k, (Instr.slice 28 (.slice (some ⟨bb, 0, none⟩) bs.length c) (some (.int .i64 p)) (some (.int .i64 ((p : Int) + 8))) (some (.int .i64 ((p : Int) + 8)))).run Try.prog (w.drewN k) = .ok (.slice (some ⟨bb, p, none⟩) 8 8) (w.drewN k) := fun k => run_sub3 bb bs.length c p 8 (by omega) (by omega) _
  go_enter Try.func57, Try.ntmps57
  go_wp2
  go_quiet ((go_at_call 66; refine Calls.quiet_of (leU64 bb p 8 8 b0 b1 b2 b3 b4 b5 b6 b7 _ rfl (by omega) l0 l1 l2 l3 l4 l5 l6 l7 ?_); exact HSUB.out))
  go_wp2
  go_ret
  refine ⟨rfl, ?_, ((Keep.refl _ _).drewN _).setAt _ _ _ (atSelf _)⟩
  have := (hb.keep ((Keep.refl Non _).drewN nq) (fun h => h)).set 2 (.int .i64 ((p : Int) + 8))
  simpa [rcells] using this
end Go.Proofs.Ytfcdedcffmpjjaa
