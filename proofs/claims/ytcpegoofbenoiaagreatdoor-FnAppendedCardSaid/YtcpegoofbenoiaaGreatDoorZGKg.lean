/-
  WORDS: a row that grows beside a block. (taken by a program out of the texts of seat A.)
-/
import Derived.Test.YtcpegoofbenoiaaGreatDoorZGMem
import Derived.Test.YtcpegoofbenoiaaGreatDoorZGKe
namespace Go.Proofs.YtcpegoofbenoiaaGreatDoor
open Go.RowKit
open Go.ChangeShapes Go.WideShapes Go.ChangeAt Go.Deep
open Plain (M64)

theorem sixteen {l : List UInt8} (h : l.length = 16) : ∃ a0 a1 a2 a3 a4 a5 a6 a7 a8 a9 a10 a11 a12 a13 a14 a15, l = [a0, a1, a2, a3, a4, a5, a6, a7, a8, a9, a10, a11, a12, a13, a14, a15] := by
  match l, h with
  | [a0, a1, a2, a3, a4, a5, a6, a7, a8, a9, a10, a11, a12, a13, a14, a15], _ => exact ⟨_, _, _, _, _, _, _, _, _, _, _, _, _, _, _, _, rfl⟩
/-- A row that grows beside a block. -/
structure LI (w0 w : World) (gb : Nat) (cs : List Value) (T : TypeId) (v : Value) (n : Nat) (xs : List UInt8) : Prop where
  blk : Blk w gb cs T
  row : Row w 5 1 v n (B xs)
  keep : Keep Non w0 w
  new : ∀ b, v.ownBlock = some b → w0.heap.size ≤ b
theorem LI.drew {w0 w : World} {gb : Nat} {cs : List Value} {T : TypeId} {v : Value} {n : Nat} {xs : List UInt8} (h : LI w0 w gb cs T v n xs) : LI w0 w.drew gb cs T v n xs := ⟨h.blk.drew, h.row.drew, h.keep.drew, h.new⟩
theorem LI.alloc {w0 w : World} {gb : Nat} {cs : List Value} {T : TypeId} {v : Value} {n : Nat} {xs : List UInt8} (h : LI w0 w gb cs T v n xs) (o : Obj) : LI w0 (w.alloc o) gb cs T v n xs := ⟨h.blk.alloc _, h.row.alloc _, h.keep.alloc _, h.new⟩
theorem LI.grow {w0 w w' : World} {gb : Nat} {cs : List Value} {T : TypeId} {v v' : Value} {n m : Nat} {xs ys : List UInt8} (h : LI w0 w gb cs T v n xs) (hT : 5 ≠ T) (g : Grew w w' v v') (r : Row w' 5 1 v' m (B ys)) : LI w0 w' gb cs T v' m ys := by
  refine ⟨h.blk.keep g.keep (fun e => h.row.neBlk h.blk hT e), r, h.keep.trans g.keep (fun i hi e => by have := h.new i e; omega), fun b hb => ?_⟩
  rcases g.lies hb with e | e
  · exact h.new b e
  · have := h.keep.size; omega
end Go.Proofs.YtcpegoofbenoiaaGreatDoor
/-
  CONTRACTS: numbers as bytes; the heads of a segment and of a file of counters, and what stands behind a segment.
-/
namespace Go.Proofs.YtcpegoofbenoiaaGreatDoor
open Go.RowKit
open Go.ChangeShapes Go.WideShapes Go.ChangeAt Go.Deep
open Plain (M64)

/-- le(b, v, m). -/
def LePost (w : World) (v : Value) (n : Nat) (xs : List UInt8) (x m : Nat) (e : Ending) (w' : World) : Prop :=
  ∃ v', e = .returned v' ∧ Row w' 5 1 v' (n + m) (B (xs ++ leb m x)) ∧ Keep (Own v) w w' ∧ (∀ g, v'.ownBlock = some g → v.ownBlock = some g ∨ w.heap.size ≤ g)
theorem leb_take (x m k : Nat) (hk : k < m) : (leb m x).take (k + 1) = (leb m x).take k ++ [UInt8.ofNat (x / 2 ^ (8 * k) % 256)] := by
  rw [List.take_add_one, leb_at m x k hk, show 2 ^ (8 * k) = 256 ^ k by rw [Nat.pow_mul]]
  rfl
set_option maxRecDepth 100000 in
set_option maxHeartbeats 1000000 in
theorem leM (v : Value) (n : Nat) (xs : List UInt8) (x m : Nat) (w : World) (hm : m ≤ 8) (_hx : x < 18446744073709551616) (hown : Row w 5 1 v n (B xs)) (hn : n ≤ 1099511627776) :
    Calls Tryz.prog 81 #[v, .int .u64 x, .int .i64 m] w (LePost w v n xs x m) := by
  go_enter Tryz.func81, Tryz.ntmps81
  go_wp2
  go_loopw [0, 7] (fun bv i wr => ∃ k : Nat, k ≤ m ∧ i = .int .i64 k ∧ Row wr 5 1 bv (n + k) (B (xs ++ (leb m x).take k)) ∧ Keep (Own v) w wr ∧ (∀ g, bv.ownBlock = some g → v.ownBlock = some g ∨ w.heap.size ≤ g)) (fun _ i _ => m - (intOf i).toNat)
  case atStart => exact ⟨0, by omega, rfl, by simpa using hown, Keep.refl _ _, fun g h => .inl h⟩
  case round =>
    obtain ⟨k, hk, rfl, hr, hkp, hl⟩ := hrel
    by_cases hlt : k < m
    · have hT := leb_take x m k hlt
      have HT := Lib.hid hT
      have HK := Lib.hid hkp
      have HL := Lib.hid hl
      clear hT hkp hl
      go_wp2_with (at_builtin; go_must (refine wpList_app sliceBytes rfl _ _ rfl rfl (hr.alloc _) rfl (Reads.one _ _ _) (int_one _ _) (by unfold maxLen; omega) (by omega) ?_); intro v' w1 hr1 hg1 hn1)
      go_roundw
      case measure => simp [intOf]; omega
      case rel =>
        refine ⟨k + 1, by omega, by go_num, ?_, (HK.out.alloc _).trans hg1.keep (fun i hi h => (HL.out i h).resolve_right (by omega)), fun g hg => ?_⟩
        · have e : [Value.int .u8 ((x : Int) / 2 ^ (8 * k) % 256)] = B [UInt8.ofNat (x / 2 ^ (8 * k) % 256)] := by
            simp [B]
          rw [e, ← B_append, List.append_assoc, ← HT.out] at hr1
          exact hr1
        · rcases hg1.lies hg with h | h
          · exact HL.out g h
          · right; have := HK.out.size; simp at h; omega
    · obtain rfl : k = m := by omega
      have HK := Lib.hid hkp
      have HL := Lib.hid hl
      clear hkp hl
      go_wp2
      go_ret
      refine ⟨_, rfl, ?_, HK.out, HL.out⟩
      rw [List.take_of_length_le (by simp [leb_length])] at hr
      exact hr
def LIPost (w0 : World) (gb : Nat) (cs : List Value) (T : TypeId) (n : Nat) (xs : List UInt8) (x m : Nat) (e : Ending) (w' : World) : Prop := ∃ v', e = .returned v' ∧ LI w0 w' gb cs T v' (n + m) (xs ++ leb m x)
theorem leL (w0 : World) (gb : Nat) (cs : List Value) (T : TypeId) (v : Value) (n : Nat) (xs : List UInt8) (x m : Nat) (w : World) (hm : m ≤ 8) (hx : x < 18446744073709551616) (h : LI w0 w gb cs T v n xs) (hT : 5 ≠ T) (hn : n ≤ 1000) :
    Calls Tryz.prog 81 #[v, .int .u64 x, .int .i64 m] w (LIPost w0 gb cs T n xs x m) := by
  refine (leM v n xs x m w hm hx h.row (by omega)).mono ?_
  rintro e w' ⟨v', rfl, r, k, l⟩
  refine ⟨v', rfl, h.blk.keep k (fun e => h.row.neBlk h.blk hT e), r, h.keep.trans k (fun i hi e => by have := h.new i e; omega), fun b hb => ?_⟩
  rcases l b hb with e | e
  · exact h.new b e
  · have := h.keep.size; omega
/-- Some of a block's bytes. -/
theorem Blk.sub {w : World} {g : Nat} {ahead behind : List Value} {l : List UInt8} {T : TypeId} (h : Blk w g (ahead ++ B l ++ behind) T) {n c : Nat} (hn : l.length = n) : Reads w 1 (.slice (some ⟨g, ahead.length, none⟩) n c) n (B l) := by
  refine ⟨by rw [B_length, hn]; omega, .inr ⟨_, _, rfl, fun j u hj => ?_⟩⟩
  rw [addr_add, h.cell, List.append_assoc, List.getElem?_append_right (by simp), show ahead.length + j - ahead.length = j by omega, List.getElem?_append_left (List.getElem?_eq_some_iff.1 hj).1]
  exact hj

/-! ### The head of a segment -/
set_option maxRecDepth 100000 in
set_option maxHeartbeats 4000000 in
theorem shdrBytes (fe st al : Nat) (w : World) (h1 : fe < 18446744073709551616) (h2 : st < 4294967296) (h3 : al < 4294967296) :
    Calls Tryz.prog 60 #[.agg #[.int .u64 fe, .int .u32 st, .int .u32 al]] w (Fresh w 5 1 16 (B (shdrB fe st al))) := by
  have hli : LI w (w.alloc (.cells #[.int .u64 fe, .int .u32 st, .int .u32 al] 96)) w.heap.size [.int .u64 fe, .int .u32 st, .int .u32 al] 96 (.slice none 0 0) 0 [] := ⟨Blk.new _ [.int .u64 fe, .int .u32 st, .int .u32 al] _, Row.nil _ _ _, (Keep.refl _ _).alloc _, fun b hb => by simp [Value.ownBlock] at hb⟩
  have hI := Lib.hid hli
  clear hli
  go_enter Tryz.func60, Tryz.ntmps60
  go_upto_region 1 with (fail)
  generalize w.alloc (.cells #[.int .u64 fe, .int .u32 st, .int .u32 al] 96) = W1 at *
  have x0 : W1.cell? ⟨w.heap.size, 0, none⟩ = some (.int .u64 fe) := by rw [hI.out.blk.cell]; rfl
  have x1 : W1.cell? ⟨w.heap.size, 1, none⟩ = some (.int .u32 st) := by rw [hI.out.blk.cell]; rfl
  have x2 : W1.cell? ⟨w.heap.size, 2, none⟩ = some (.int .u32 al) := by rw [hI.out.blk.cell]; rfl
  have wst : IntKind.u64.wrap (st : Int) = (st : Int) := Plain.wrap_u64 _ (by omega) (by unfold M64; omega)
  have wal : IntKind.u64.wrap (al : Int) = (al : Int) := Plain.wrap_u64 _ (by omega) (by unfold M64; omega)
  have l2 : st < 18446744073709551616 := by omega
  have l3 : al < 18446744073709551616 := by omega
  go_region_held3 (fun w' => w'.cell? ⟨w.heap.size, 0, none⟩ = some (.int .u64 fe) ∧ w'.cell? ⟨w.heap.size, 1, none⟩ = some (.int .u32 st) ∧ w'.cell? ⟨w.heap.size, 2, none⟩ = some (.int .u32 al))
    (first
      | go_keep
      | (refine ⟨?_, ?_, ?_⟩ <;> (rw [hI.out.blk.cell]; rfl)))
    (first
      | (go_at_call 81; refine (leL w w.heap.size [.int .u64 fe, .int .u32 st, .int .u32 al] 96 _ _ _ _ _ _ (by decide) (by assumption) (by first | exact hI.out | exact hI.out.drew) (by decide) (by decide)).mono ?_; rintro e w2 ⟨v2, rfl, hI'⟩; have hI := Lib.hid hI'; clear hI'))
  clear wst wal
  go_wp2
  go_ret
  refine ⟨_, rfl, ?_, hI.out.keep, hI.out.new⟩
  simpa [shdrB] using hI.out.row
/-! ### What stands behind a segment -/
def fcells (n : Nat) : List Value := B magicB ++ [.int .u8 0, .int .u8 0, .int .u8 0, .int .u8 0, .int .u32 n, .int .u8 0, .int .u8 0, .int .u8 0, .int .u8 0]
set_option maxRecDepth 100000 in
set_option maxHeartbeats 4000000 in
theorem footBytes (n : Nat) (w : World) (h1 : n < 4294967296) :
    Calls Tryz.prog 74 #[.agg (fcells n).toArray] w (Fresh w 5 1 16 (B (footB n))) := by
  obtain ⟨cs, hcs⟩ : ∃ cs, cs = fcells n := ⟨_, rfl⟩
  have hli : LI w (w.alloc (.cells cs.toArray 120)) w.heap.size cs 120 (.slice none 0 0) 0 [] := ⟨Blk.new _ cs _, Row.nil _ _ _, (Keep.refl _ _).alloc _, fun b hb => by simp [Value.ownBlock] at hb⟩
  have hrd : ∀ W, Blk W w.heap.size cs 120 → Reads W 1 (.slice (some ⟨w.heap.size, 0, none⟩) 4 4) 4 (B magicB) := fun W hb => by
    rw [hcs] at hb
    exact Blk.sub (ahead := []) hb rfl
  have HRD := Lib.hid hrd
  have hI0 := Lib.hid hli
  have HCS := Lib.hid hcs
  have harr : (fcells n).toArray = #[.int .u8 0, .int .u8 99, .int .u8 119, .int .u8 109, .int .u8 0, .int .u8 0, .int .u8 0, .int .u8 0, .int .u32 n, .int .u8 0, .int .u8 0, .int .u8 0, .int .u8 0] := rfl
  rw [hcs, harr] at hI0
  rw [← hcs] at hI0
  rw [harr]
  clear hli hrd hcs harr
  go_enter Tryz.func74, Tryz.ntmps74
  go_upto_region 1 with (fail)
  generalize w.alloc (.cells #[.int .u8 0, .int .u8 99, .int .u8 119, .int .u8 109, .int .u8 0, .int .u8 0, .int .u8 0, .int .u8 0, .int .u32 n, .int .u8 0, .int .u8 0, .int .u8 0, .int .u8 0] 120) = W1 at *
  go_upto_region 2 with (first
    | ((with_reducible show wpList _ _ _ (Oper.mk (some 6) _ _ _ _ _ :: _) _ _); go_must (refine wpList_app (n := 0) (m := 4) sliceBytes rfl (.const (.slice none 0 0)) (.tmp 5) rfl rfl hI0.out.row rfl (HRD.out _ hI0.out.blk) (B_one _) (by decide) (by decide) ?_); intro v5 w5 r5 g5 n5; rw [← B_append] at r5; have HI5 := Lib.hid (hI0.out.grow (by decide) g5 r5); clear r5 g5 n5)
    | ((with_reducible show wpList _ _ _ (Oper.mk (some 8) _ _ _ _ _ :: _) _ _); go_must (refine wpList_app (n := 4) (m := 4) (xs := B ([] ++ magicB)) sliceBytes rfl (.tmp 6) (.tmp 7) rfl rfl (HI5.out.row.alloc _) rfl (Row.lit _ 5 1 [.int .u8 0, .int .u8 0, .int .u8 0, .int .u8 0] 4 (by decide) rfl).reads (B_one [0, 0, 0, 0]) (by decide) (by decide) ?_); intro v6 w6 r6 g6 n6; have r6' : Row w6 5 1 v6 8 (B ([] ++ magicB ++ [0, 0, 0, 0])) := (by rw [B_append]; exact r6); have HI6 := Lib.hid ((HI5.out.alloc _).grow (by decide) g6 r6'); clear r6 r6' g6 n6))
  have x4 : w6.cell? ⟨w.heap.size, 8, none⟩ = some (.int .u32 n) := by rw [HI6.out.blk.cell, HCS.out]; rfl
  have y1 : IntKind.u64.wrap (n : Int) = (n : Int) := Plain.wrap_u64 _ (by omega) (by unfold M64; omega)
  go_wp2_with (first
    | (go_at_call 81; refine (leL w w.heap.size cs 120 _ _ _ _ _ _ (by decide) (by omega) HI6.out (by decide) (by decide)).mono ?_; rintro e w7 ⟨v7, rfl, hI7⟩; have HI7 := Lib.hid hI7; clear hI7)
    | ((with_reducible show wpList _ _ _ (Oper.mk (some 15) _ _ _ _ _ :: _) _ _); go_must (refine wpList_app (n := 12) (m := 4) (xs := B ([] ++ magicB ++ [0, 0, 0, 0] ++ leb 4 n)) sliceBytes rfl (.tmp 13) (.tmp 14) rfl rfl (HI7.out.row.alloc _) rfl (Row.lit _ 5 1 [.int .u8 0, .int .u8 0, .int .u8 0, .int .u8 0] 4 (by decide) rfl).reads (B_one [0, 0, 0, 0]) (by decide) (by decide) ?_); intro v8 w8 r8 g8 n8; have r8' : Row w8 5 1 v8 16 (B ([] ++ magicB ++ [0, 0, 0, 0] ++ leb 4 n ++ [0, 0, 0, 0])) := (by rw [B_append]; exact r8); have HI8 := Lib.hid ((HI7.out.alloc _).grow (by decide) g8 r8'); clear r8 r8' g8 n8))
  go_ret
  refine ⟨_, rfl, ?_, HI8.out.keep, HI8.out.new⟩
  simpa [footB] using HI8.out.row
end Go.Proofs.YtcpegoofbenoiaaGreatDoor
/-
  CONTRACT: the head of a file of counters as bytes.
-/
namespace Go.Proofs.YtcpegoofbenoiaaGreatDoor
open Go.RowKit
open Go.ChangeShapes Go.WideShapes Go.ChangeAt Go.Deep
open Plain (M64)

def headcells (hash : List UInt8) (fl : Nat) : List Value := B magicB ++ ([.int .u32 1] ++ (B hash ++ [.int .u8 fl, .bool false, .int .u8 0, .int .u8 0, .int .u8 0, .int .u8 0, .int .u8 0, .int .u8 0]))
set_option maxRecDepth 100000 in
set_option maxHeartbeats 8000000 in
theorem headBytes (hash : List UInt8) (fl : Nat) (w : World) (hh : hash.length = 16) (hf : fl < 256) :
    Calls Tryz.prog 58 #[.agg (headcells hash fl).toArray] w (Fresh w 5 1 32 (B (headB hash fl))) := by
  have hmh : B (headB hash fl) = B ([] ++ magicB ++ leb 4 1 ++ hash ++ [UInt8.ofNat fl] ++ [0, 0, 0, 0, 0, 0, 0]) := by simp [headB]
  have hrm : ∀ W, Blk W w.heap.size (headcells hash fl) 118 → Reads W 1 (.slice (some ⟨w.heap.size, 0, none⟩) 4 4) 4 (B magicB) := fun W hb => Blk.sub (ahead := []) hb rfl
  have hrh : ∀ W, Blk W w.heap.size (headcells hash fl) 118 → Reads W 1 (.slice (some ⟨w.heap.size, 5, none⟩) 16 16) 16 (B hash) := fun W hb => by
    refine Blk.sub (ahead := B magicB ++ [.int .u32 1]) (behind := [.int .u8 fl, .bool false, .int .u8 0, .int .u8 0, .int .u8 0, .int .u8 0, .int .u8 0, .int .u8 0]) (T := 118) ?_ hh
    simpa [headcells] using hb
  have HMH := Lib.hid hmh
  have HRM := Lib.hid hrm
  have HRH := Lib.hid hrh
  clear hmh hrm hrh
  obtain ⟨a0, a1, a2, a3, a4, a5, a6, a7, a8, a9, a10, a11, a12, a13, a14, a15, rfl⟩ := sixteen hh
  clear hh
  have harr : (headcells [a0, a1, a2, a3, a4, a5, a6, a7, a8, a9, a10, a11, a12, a13, a14, a15] fl).toArray = #[.int .u8 0, .int .u8 99, .int .u8 119, .int .u8 109, .int .u32 1, .int .u8 a0.toNat, .int .u8 a1.toNat, .int .u8 a2.toNat, .int .u8 a3.toNat, .int .u8 a4.toNat, .int .u8 a5.toNat, .int .u8 a6.toNat, .int .u8 a7.toNat, .int .u8 a8.toNat, .int .u8 a9.toNat, .int .u8 a10.toNat, .int .u8 a11.toNat, .int .u8 a12.toNat, .int .u8 a13.toNat, .int .u8 a14.toNat, .int .u8 a15.toNat, .int .u8 fl, .bool false, .int .u8 0, .int .u8 0, .int .u8 0, .int .u8 0, .int .u8 0, .int .u8 0] := rfl
  obtain ⟨dg, hdg⟩ : ∃ dg, dg = [a0, a1, a2, a3, a4, a5, a6, a7, a8, a9, a10, a11, a12, a13, a14, a15] := ⟨_, rfl⟩
  have hdl : dg.length = 16 := by rw [hdg]; rfl
  rw [← hdg] at HMH HRM HRH harr ⊢
  obtain ⟨cs, hcs⟩ : ∃ cs, cs = headcells dg fl := ⟨_, rfl⟩
  have hli : LI w (w.alloc (.cells cs.toArray 118)) w.heap.size cs 118 (.slice none 0 0) 0 [] := ⟨Blk.new _ cs _, Row.nil _ _ _, (Keep.refl _ _).alloc _, fun b hb => by simp [Value.ownBlock] at hb⟩
  have h4 : cs[4]? = some (.int .u32 1) := by rw [hcs, hdg]; rfl
  have h21 : cs[21]? = some (.int .u8 fl) := by rw [hcs, hdg]; rfl
  have h22 : cs[22]? = some (.bool false) := by rw [hcs, hdg]; rfl
  rw [hcs, harr] at hli
  rw [harr]
  rw [← hcs] at hli HRM HRH
  have hI0 := Lib.hid hli
  have H4 := Lib.hid h4
  have H21 := Lib.hid h21
  have H22 := Lib.hid h22
  have HDL := Lib.hid hdl
  clear hdg hli hcs harr h4 h21 h22 hdl
  go_enter Tryz.func58, Tryz.ntmps58
  go_upto_region 1 with (fail)
  generalize w.alloc (.cells #[.int .u8 0, .int .u8 99, .int .u8 119, .int .u8 109, .int .u32 1, .int .u8 a0.toNat, .int .u8 a1.toNat, .int .u8 a2.toNat, .int .u8 a3.toNat, .int .u8 a4.toNat, .int .u8 a5.toNat, .int .u8 a6.toNat, .int .u8 a7.toNat, .int .u8 a8.toNat, .int .u8 a9.toNat, .int .u8 a10.toNat, .int .u8 a11.toNat, .int .u8 a12.toNat, .int .u8 a13.toNat, .int .u8 a14.toNat, .int .u8 a15.toNat, .int .u8 fl, .bool false, .int .u8 0, .int .u8 0, .int .u8 0, .int .u8 0, .int .u8 0, .int .u8 0] 118) = W1 at *
  have x4 : W1.cell? ⟨w.heap.size, 4, none⟩ = some (.int .u32 1) := by rw [hI0.out.blk.cell]; exact H4.out
  go_region_held3 (fun w' => w'.cell? ⟨w.heap.size, 4, none⟩ = some (.int .u32 1))
    (first
      | go_keep
      | (rw [HI5.out.blk.cell]; exact H4.out)
      | (rw [hI.out.blk.cell]; exact H4.out))
    (first
      | (refine step_app (n := 0) (xs := []) (m := 4) (news := B magicB) sliceBytes rfl (.const (.slice none 0 0)) (.tmp 6) rfl rfl hI0.out.row.drew rfl (HRM.out _ hI0.out.blk.drew) (by decide) (B_one _) (by decide) (by decide) ?_; intro v5 w5 r5 g5; have HI5 := Lib.hid (hI0.out.drew.grow (ys := [] ++ magicB) (by decide) g5 r5); clear r5 g5)
      | (go_at_call 81; refine (leL w w.heap.size cs 118 _ _ ([] ++ magicB) 1 4 _ (by decide) (by decide) HI5.out (by decide) (by decide)).mono ?_; rintro e w6 ⟨v6, rfl, hI6⟩; have hI := Lib.hid hI6; clear hI6))
  go_upto_region 2 with (fail)
  have x21 : w6.cell? ⟨w.heap.size, 21, none⟩ = some (.int .u8 fl) := by rw [hI.out.blk.cell]; exact H21.out
  have HI6 := hI
  clear hI
  have e1 : [Value.int .u8 fl] = B [UInt8.ofNat fl] := by simp [B]; omega
  have HE1 := Lib.hid e1
  have hn0 : w6.heap.size ≤ w6.heap.size := Nat.le_refl _
  clear e1
  go_region_held3 (fun w' => w'.cell? ⟨w.heap.size, 21, none⟩ = some (.int .u8 fl))
    (first
      | exact x21
      | (rw [HI8.out.blk.cell]; exact H21.out)
      | (rw [HI7.out.blk.cell]; exact H21.out)
      | (rw [HI6.out.blk.cell]; exact H21.out)
      | go_keep)
    (first
      | (refine step_app (n := 24) (xs := B ([] ++ magicB ++ leb 4 1 ++ dg)) (m := 1) (news := [.int .u8 fl]) sliceBytes rfl (.tmp 15) (.tmp 18) rfl rfl HI7.out.row rfl DD7.out (by decide) (int_one _ _) (by decide) (by decide) ?_; intro v8 w8 r8 g8; have r8' : Row w8 5 1 v8 25 (B ([] ++ magicB ++ leb 4 1 ++ dg ++ [UInt8.ofNat fl])) := (by rw [B_append, ← HE1.out]; exact r8); have HI8 := Lib.hid (HI7.out.grow (by decide) g8 r8'); clear r8 r8' g8)
      | (refine step_app (n := 24) (xs := B ([] ++ magicB ++ leb 4 1 ++ dg)) (m := 1) (news := [.int .u8 fl]) sliceBytes rfl (.tmp 15) (.tmp 18) rfl rfl (HI7.out.row.alloc (.cells #[.int .u8 fl] 5)) rfl (Reads.oneAt rfl) (by decide) (int_one _ _) (by decide) (by decide) ?_; intro v8 w8 r8 g8; have r8' : Row w8 5 1 v8 25 (B ([] ++ magicB ++ leb 4 1 ++ dg ++ [UInt8.ofNat fl])) := (by rw [B_append, ← HE1.out]; exact r8); have HI8 := Lib.hid ((HI7.out.alloc _).grow (by decide) g8 r8'); clear r8 r8' g8)
      | (refine step_app (n := 8) (xs := B ([] ++ magicB ++ leb 4 1)) (m := 16) (news := B dg) sliceBytes rfl (.tmp 12) (.tmp 14) rfl rfl HI6.out.row.drew rfl (HRH.out _ HI6.out.blk.drew) (by decide) (B_one _) (by decide) (by decide) ?_; intro v7 w7 r7 g7; rw [← B_append] at r7; have HI7 := Lib.hid (HI6.out.drew.grow (by decide) g7 r7); clear r7 g7)
      | (refine step_app (n := 8) (xs := B ([] ++ magicB ++ leb 4 1)) (m := 16) (news := B dg) sliceBytes rfl (.tmp 12) (.tmp 14) rfl rfl (HI6.out.row.drew.alloc (.cells #[.int .u8 fl] 5)) rfl (HRH.out _ (HI6.out.blk.drew.alloc _)) (by decide) (B_one _) (by decide) (by decide) ?_; intro v7 w7 r7 g7; rw [← B_append] at r7; have HI7 := Lib.hid ((HI6.out.drew.alloc (.cells #[.int .u8 fl] 5)).grow (by decide) g7 r7); have DD7 : Hid (Reads w7 1 (.slice (some ⟨w6.heap.size, 0, none⟩) 1 1) 1 [.int .u8 fl]) := Lib.hid ((Reads.oneAt (w := w6.drew) (T := 5) rfl).keep g7.keep (fun b hb e => by simp [Own, Value.ownBlock, Act.eval] at e hb; have := HI6.out.row.lt e; omega)); clear r7 g7))
  all_goals
    have x22 : w8.cell? ⟨w.heap.size, 22, none⟩ = some (.bool false) := by rw [HI8.out.blk.cell]; exact H22.out
    go_wp2_with (first
      | ((with_reducible show wpList _ _ _ (Oper.mk (some 25) _ _ _ _ _ :: _) _ _); go_must (refine wpList_app (n := 25) (m := 7) (xs := B ([] ++ magicB ++ leb 4 1 ++ dg ++ [UInt8.ofNat fl])) sliceBytes rfl (.tmp 22) (.tmp 24) rfl rfl (HI8.out.row.alloc _) rfl (Row.lit _ 5 1 [.int .u8 0, .int .u8 0, .int .u8 0, .int .u8 0, .int .u8 0, .int .u8 0, .int .u8 0] 7 (by decide) rfl).reads (B_one [0, 0, 0, 0, 0, 0, 0]) (by decide) (by decide) ?_); intro v9 w9 r9 g9 n9; have r9' : Row w9 5 1 v9 32 (B ([] ++ magicB ++ leb 4 1 ++ dg ++ [UInt8.ofNat fl] ++ [0, 0, 0, 0, 0, 0, 0])) := (by rw [B_append]; exact r9); have HI9 := Lib.hid ((HI8.out.alloc _).grow (by decide) g9 r9'); clear r9 r9' g9 n9))
    go_ret
    refine ⟨_, rfl, ?_, HI9.out.keep, HI9.out.new⟩
    rw [HMH.out]
    exact HI9.out.row
end Go.Proofs.YtcpegoofbenoiaaGreatDoor
