/-
  CONTRACTS of a builder's writes, second part: the head's bytes.
-/
import Derived.Test.YtbmidlaakbpnlaaDoorMe7
namespace Go.Proofs.YtbmidlaakbpnlaaDoor
open Go.RowKit
open Go.ChangeShapes Go.WideShapes Go.ChangeAt Go.Deep
open Plain (M64)

def hcells (len p q m : Nat) (dig : List UInt8) (nf nn : Nat) : List Value :=
  [.int .u32 len, .int .u32 q, .int .u32 p, .int .u32 m] ++ B dig ++ [.int .u8 0, .int .u8 0, .int .u8 0, .int .u8 0, .int .u32 nf, .int .u32 nn]
theorem sixteen {l : List UInt8} (h : l.length = 16) : ∃ a0 a1 a2 a3 a4 a5 a6 a7 a8 a9 a10 a11 a12 a13 a14 a15, l = [a0, a1, a2, a3, a4, a5, a6, a7, a8, a9, a10, a11, a12, a13, a14, a15] := by
  match l, h with
  | [a0, a1, a2, a3, a4, a5, a6, a7, a8, a9, a10, a11, a12, a13, a14, a15], _ => exact ⟨_, _, _, _, _, _, _, _, _, _, _, _, _, _, _, _, rfl⟩
/-- A row that grows beside a block. -/
structure LI (w0 w : World) (gb : Nat) (cs : List Value) (T : TypeId) (v : Value) (n : Nat) (xs : List UInt8) : Prop where
  blk : Blk w gb cs T
  row : Row w 5 1 v n (B xs)
  keep : Keep Non w0 w
  new : ∀ b, v.ownBlock = some b → w0.heap.size ≤ b
theorem LI.drew {w0 w : World} {gb : Nat} {cs : List Value} {T : TypeId} {v : Value} {n : Nat} {xs : List UInt8} (h : LI w0 w gb cs T v n xs) : LI w0 w.drew gb cs T v n xs := ⟨h.blk.drew, h.row.drew, h.keep.drew, h.new⟩
theorem LI.alloc {w0 w : World} {gb : Nat} {cs : List Value} {T : TypeId} {v : Value} {n : Nat} {xs : List UInt8} (h : LI w0 w gb cs T v n xs) (o : Obj) : LI w0 (w.alloc o) gb cs T v n xs := ⟨h.blk.alloc _, h.row.alloc _, h.keep.alloc _, h.new⟩
theorem LI.grow {w0 w w' : World} {gb : Nat} {cs : List Value} {T : TypeId} {v v' : Value} {n m : Nat} {xs ys : List UInt8} (h : LI w0 w gb cs T v n xs) (hT : 5 ≠ T) (g : Grew w w' v v') (r : Row w' 5 1 v' m (B ys)) : LI w0 w' gb cs T v' m ys := by
  refine ⟨h.blk.keep g.keep (fun e => h.row.neBlk h.blk hT e), r, h.keep.trans g.keep (fun i hi e => by have := h.new i e; omega), fun b hb => ?_⟩
  rcases g.lies hb with e | e
  · exact h.new b e
  · have := h.keep.size; omega
def LIPost (w0 : World) (gb : Nat) (cs : List Value) (T : TypeId) (n : Nat) (xs : List UInt8) (x : Nat) (e : Ending) (w' : World) : Prop := ∃ v', e = .returned v' ∧ LI w0 w' gb cs T v' (n + 4) (xs ++ leB 4 x)
theorem le4L (w0 : World) (gb : Nat) (cs : List Value) (T : TypeId) (v : Value) (n : Nat) (xs : List UInt8) (x : Nat) (w : World) (hx : x < 4294967296) (h : LI w0 w gb cs T v n xs) (hT : 5 ≠ T) (hn : n ≤ 1000) :
    Calls Tryd.prog 50 #[v, .int .u64 x, .int .i64 4] w (LIPost w0 gb cs T n xs x) := by
  refine (le4 v n xs x w hx h.row (by omega)).mono ?_
  rintro e w' ⟨v', rfl, r, k, l⟩
  refine ⟨v', rfl, h.blk.keep k (fun e => h.row.neBlk h.blk hT e), r, h.keep.trans k (fun i hi e => by have := h.new i e; omega), fun b hb => ?_⟩
  rcases l b hb with e | e
  · exact h.new b e
  · have := h.keep.size; omega
set_option maxRecDepth 100000 in
set_option maxHeartbeats 8000000 in
theorem headBytes (len p q m : Nat) (dig : List UInt8) (nf nn : Nat) (w : World) (hd : dig.length = 16) (h1 : len < 4294967296) (h2 : p < 4294967296) (h3 : q < 4294967296) (h4 : m < 4294967296) (h5 : nf < 4294967296) (h6 : nn < 4294967296) :
    Calls Tryd.prog 35 #[.agg (hcells len p q m dig nf nn).toArray] w (Fresh w 5 1 44 (B (mhead len p q m dig nf nn))) := by
  have hrd : ∀ W, Blk W w.heap.size (hcells len p q m dig nf nn) 100 → Reads W 1 (.slice (some ⟨w.heap.size, 4, none⟩) 16 16) 16 (B dig) := by
    intro W hb
    refine ⟨by rw [B_length, hd], .inr ⟨_, _, rfl, fun j u hj => ?_⟩⟩
    have hjl : j < 16 := by
      have := (List.getElem?_eq_some_iff.1 hj).1
      rw [B_length, hd] at this; exact this
    rw [addr_add, hb.cell, hcells, List.append_assoc, List.getElem?_append_right (by simp), List.getElem?_append_left (by rw [B_length, hd]; simp; omega)]
    simpa using hj
  have hli : LI w (w.alloc (.cells (hcells len p q m dig nf nn).toArray 100)) w.heap.size (hcells len p q m dig nf nn) 100 (.slice none 0 0) 0 [] := ⟨Blk.new _ _ _, Row.nil _ _ _, (Keep.refl _ _).alloc _, fun b hb => by simp [Value.ownBlock] at hb⟩
  have HRD := Lib.hid hrd
  have hmh : B (mhead len p q m dig nf nn) = B ([] ++ leB 4 len ++ leB 4 q ++ leB 4 p ++ leB 4 m ++ dig ++ [0, 0, 0, 0] ++ leB 4 nf ++ leB 4 nn) := by simp [mhead]
  have HMH := Lib.hid hmh
  clear hmh hrd
  obtain ⟨a0, a1, a2, a3, a4, a5, a6, a7, a8, a9, a10, a11, a12, a13, a14, a15, rfl⟩ := sixteen hd
  clear hd
  obtain ⟨dg, hdg⟩ : ∃ dg, dg = [a0, a1, a2, a3, a4, a5, a6, a7, a8, a9, a10, a11, a12, a13, a14, a15] := ⟨_, rfl⟩
  have hBdg : B dg = [.int .u8 a0.toNat, .int .u8 a1.toNat, .int .u8 a2.toNat, .int .u8 a3.toNat, .int .u8 a4.toNat, .int .u8 a5.toNat, .int .u8 a6.toNat, .int .u8 a7.toNat, .int .u8 a8.toNat, .int .u8 a9.toNat, .int .u8 a10.toNat, .int .u8 a11.toNat, .int .u8 a12.toNat, .int .u8 a13.toNat, .int .u8 a14.toNat, .int .u8 a15.toNat] := by rw [hdg]; rfl
  rw [← hdg] at hli HRD HMH ⊢
  obtain ⟨cs, hcs⟩ : ∃ cs, cs = hcells len p q m dg nf nn := ⟨_, rfl⟩
  rw [← hcs] at hli HRD
  have hcs2 := hcs
  rw [hcells, hBdg] at hcs2
  have harr : (hcells len p q m dg nf nn).toArray = #[.int .u32 len, .int .u32 q, .int .u32 p, .int .u32 m, .int .u8 a0.toNat, .int .u8 a1.toNat, .int .u8 a2.toNat, .int .u8 a3.toNat, .int .u8 a4.toNat, .int .u8 a5.toNat, .int .u8 a6.toNat, .int .u8 a7.toNat, .int .u8 a8.toNat, .int .u8 a9.toNat, .int .u8 a10.toNat, .int .u8 a11.toNat, .int .u8 a12.toNat, .int .u8 a13.toNat, .int .u8 a14.toNat, .int .u8 a15.toNat, .int .u8 0, .int .u8 0, .int .u8 0, .int .u8 0, .int .u32 nf, .int .u32 nn] := by
    rw [hcells, hBdg]; rfl
  rw [hcs, harr] at hli
  rw [harr]
  rw [← hcs] at hli
  have HCS := Lib.hid hcs2
  have LI0 := Lib.hid hli
  have HARR := Lib.hid harr
  clear hdg hBdg hcs hcs2 hli harr
  go_enter Tryd.func35, Tryd.ntmps35
  go_upto_region 1 with (fail)
  generalize w.alloc (.cells #[.int .u32 len, .int .u32 q, .int .u32 p, .int .u32 m, .int .u8 a0.toNat, .int .u8 a1.toNat, .int .u8 a2.toNat, .int .u8 a3.toNat, .int .u8 a4.toNat, .int .u8 a5.toNat, .int .u8 a6.toNat, .int .u8 a7.toNat, .int .u8 a8.toNat, .int .u8 a9.toNat, .int .u8 a10.toNat, .int .u8 a11.toNat, .int .u8 a12.toNat, .int .u8 a13.toNat, .int .u8 a14.toNat, .int .u8 a15.toNat, .int .u8 0, .int .u8 0, .int .u8 0, .int .u8 0, .int .u32 nf, .int .u32 nn] 100) = W1 at *
  have x0 : W1.cell? ⟨w.heap.size, 0, none⟩ = some (.int .u32 len) := by rw [LI0.out.blk.cell, HCS.out]; rfl
  have x1 : W1.cell? ⟨w.heap.size, 1, none⟩ = some (.int .u32 q) := by rw [LI0.out.blk.cell, HCS.out]; rfl
  have x2 : W1.cell? ⟨w.heap.size, 2, none⟩ = some (.int .u32 p) := by rw [LI0.out.blk.cell, HCS.out]; rfl
  have x3 : W1.cell? ⟨w.heap.size, 3, none⟩ = some (.int .u32 m) := by rw [LI0.out.blk.cell, HCS.out]; rfl
  have hI := LI0
  have w1 : IntKind.u64.wrap (len : Int) = (len : Int) := Plain.wrap_u64 _ (by omega) (by unfold M64; omega)
  have w2 : IntKind.u64.wrap (p : Int) = (p : Int) := Plain.wrap_u64 _ (by omega) (by unfold M64; omega)
  have w3 : IntKind.u64.wrap (q : Int) = (q : Int) := Plain.wrap_u64 _ (by omega) (by unfold M64; omega)
  have w4 : IntKind.u64.wrap (m : Int) = (m : Int) := Plain.wrap_u64 _ (by omega) (by unfold M64; omega)
  go_region_held3 (fun w' => w'.cell? ⟨w.heap.size, 0, none⟩ = some (.int .u32 len) ∧ w'.cell? ⟨w.heap.size, 1, none⟩ = some (.int .u32 q) ∧ w'.cell? ⟨w.heap.size, 2, none⟩ = some (.int .u32 p) ∧ w'.cell? ⟨w.heap.size, 3, none⟩ = some (.int .u32 m))
    (first
      | go_keep
      | (refine ⟨?_, ?_, ?_, ?_⟩ <;> (rw [hI.out.blk.cell, HCS.out]; rfl)))
    (first
      | (go_at_call 50; refine (le4L w w.heap.size cs 100 _ _ _ _ _ (by assumption) (by first | exact hI.out | exact hI.out.drew) (by decide) (by decide)).mono ?_; rintro e w2 ⟨v2, rfl, hI'⟩; have hI := Lib.hid hI'; clear hI'))
  clear w1 w3 w4
  have HI4 := hI
  clear hI
  go_wp2_with (first
    | ((with_reducible show wpList _ _ _ (Oper.mk (some 23) _ _ _ _ _ :: _) _ _); go_must (refine wpList_app (n := 16) (m := 16) sliceBytes rfl (.tmp 20) (.tmp 22) rfl rfl HI4.out.row rfl (HRD.out _ HI4.out.blk) (B_one _) (by decide) (by decide) ?_); intro v5 w5 r5 g5 n5; rw [← B_append] at r5; have HI5 := Lib.hid (HI4.out.grow (by decide) g5 r5); clear r5 g5 n5)
    | ((with_reducible show wpList _ _ _ (Oper.mk (some 25) _ _ _ _ _ :: _) _ _); go_must (refine wpList_app (n := 32) (m := 4) (xs := B ([] ++ leB 4 len ++ leB 4 q ++ leB 4 p ++ leB 4 m ++ dg)) sliceBytes rfl (.tmp 23) (.tmp 24) rfl rfl (HI5.out.row.alloc _) rfl (Row.lit _ 5 1 [.int .u8 0, .int .u8 0, .int .u8 0, .int .u8 0] 4 (by decide) rfl).reads (B_one [0, 0, 0, 0]) (by decide) (by decide) ?_); intro v6 w6 r6 g6 n6; have r6' : Row w6 5 1 v6 36 (B ([] ++ leB 4 len ++ leB 4 q ++ leB 4 p ++ leB 4 m ++ dg ++ [0, 0, 0, 0])) := (by rw [B_append]; exact r6); have HI6 := Lib.hid ((HI5.out.alloc _).grow (by decide) g6 r6'); clear r6 r6' g6 n6))
  have x4 : w6.cell? ⟨w.heap.size, 24, none⟩ = some (.int .u32 nf) := by rw [HI6.out.blk.cell, HCS.out]; rfl
  have x5 : w6.cell? ⟨w.heap.size, 25, none⟩ = some (.int .u32 nn) := by rw [HI6.out.blk.cell, HCS.out]; rfl
  have y1 : IntKind.u64.wrap (nf : Int) = (nf : Int) := Plain.wrap_u64 _ (by omega) (by unfold M64; omega)
  have y2 : IntKind.u64.wrap (nn : Int) = (nn : Int) := Plain.wrap_u64 _ (by omega) (by unfold M64; omega)
  have hI := HI6
  go_upto_region 3 with (fail)
  go_region_held3 (fun w' => w'.cell? ⟨w.heap.size, 24, none⟩ = some (.int .u32 nf) ∧ w'.cell? ⟨w.heap.size, 25, none⟩ = some (.int .u32 nn))
    (first
      | go_keep
      | (refine ⟨?_, ?_⟩ <;> (rw [hI.out.blk.cell, HCS.out]; rfl)))
    (first
      | (go_at_call 50; refine (le4L w w.heap.size cs 100 _ _ _ _ _ (by assumption) (by first | exact hI.out | exact hI.out.drew) (by decide) (by decide)).mono ?_; rintro e w2 ⟨v2, rfl, hI'⟩; have hI := Lib.hid hI'; clear hI'))
  clear y1 y2
  go_wp2
  go_ret
  refine ⟨_, rfl, ?_, hI.out.keep, hI.out.new⟩
  rw [HMH.out]
  exact hI.out.row
end Go.Proofs.YtbmidlaakbpnlaaDoor
