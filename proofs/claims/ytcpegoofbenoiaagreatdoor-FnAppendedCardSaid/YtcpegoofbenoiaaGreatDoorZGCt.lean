/-
  CONTRACTS: zeros up to the next four bytes; bytes to a writer.
-/
import Derived.Test.YtcpegoofbenoiaaGreatDoorZGCs
import Derived.Test.YtcpegoofbenoiaaGreatDoorZGKc
import Derived.Test.YtcpegoofbenoiaaGreatDoorZTab4
namespace Go.Proofs.YtcpegoofbenoiaaGreatDoor
open Go.RowKit
open Go.ChangeShapes Go.WideShapes Go.ChangeAt Go.Deep
open Plain (M64)

/-- Something was written at the end. -/
def EndPost (gw : Nat) (pv : Value) (bs' : List UInt8) (w : World) (e : Ending) (w' : World) : Prop :=
  ∃ pv', e = .returned .nilIface ∧ Wr w' gw pv' bs'.length bs' ∧ Keep (fun i => i = gw ∨ pv.ownBlock = some i) w w' ∧ (∀ b, pv'.ownBlock = some b → pv.ownBlock = some b ∨ w.heap.size ≤ b)
theorem Wr.far {w w' : World} {g : Nat} {v : Value} {p : Nat} {bs : List UInt8} (h : Wr w g v p bs) (k : Keep Non w w') : Wr w' g v p bs := ⟨h.blk.keep k (fun h => h), h.row.keep k (fun _ _ h => h), h.le⟩
theorem Wr.lt {w : World} {g : Nat} {v : Value} {p : Nat} {bs : List UInt8} (h : Wr w g v p bs) : ∀ b, b = g ∨ v.ownBlock = some b → b < w.heap.size := by
  rintro b (rfl | e)
  · exact h.blk.lt
  · exact h.row.lt e
theorem Reads.takeB {w : World} {ad : Addr} {n c c' m : Nat} {l : List UInt8} (h : Reads w 1 (.slice (some ad) n c) n (B l)) (hm : m ≤ n) : Reads w 1 (.slice (some ad) m c') m (B (l.take m)) := by
  obtain ⟨hl, ⟨h, _⟩ | ⟨ad', c2, h, hc⟩⟩ := h
  · cases h
  · cases h
    rw [B_length] at hl
    refine ⟨by rw [B_length, List.length_take]; omega, .inr ⟨_, _, rfl, fun j u hj => hc j u ?_⟩⟩
    have := (List.getElem?_eq_some_iff.1 hj).1
    rw [B_length, List.length_take] at this
    simp only [B, List.getElem?_map] at hj ⊢
    rw [List.getElem?_take_of_lt (by omega)] at hj
    exact hj
set_option maxRecDepth 100000 in
set_option maxHeartbeats 4000000 in
theorem padR (r : Nat) (hr : 1 ≤ r ∧ r ≤ 3) (gw : Nat) (pv : Value) (bs : List UInt8) (w : World) (h : Wr w gw pv bs.length bs) (hbl : bs.length ≤ 1000000) (hm : bs.length % 4 = r) :
    Calls Tryz.prog 68 #[.pointer (some ⟨gw, 0, none⟩)] w (EndPost gw pv (bs ++ zerosB (4 - r)) w) := by
  obtain ⟨pa, pc, rfl⟩ := h.row.reads.slice
  have H := Lib.hid h
  clear h
  have hw : IntKind.u32.wrap (bs.length : Int) = (bs.length : Int) := by rw [IntKind.wrap_u32]; omega
  have hm2 : (bs.length : Int) % 4 = (r : Int) := by omega
  have hne : ¬ (r : Int) = 0 := by omega
  go_enter Tryz.func68, Tryz.ntmps68
  go_upto_region 4 with (go_at_call 21; refine (wbytes _ gw _ _ H.out.blk).mono ?_; rintro e w1 ⟨rfl, rfl⟩)
  rw [hm2]
  clear hm2 hw hne
  obtain ⟨W1, hW1⟩ : ∃ W, W = w1.alloc (.cells #[.int .u8 0, .int .u8 0, .int .u8 0, .int .u8 0] 5) := ⟨_, rfl⟩
  have k1 : Keep Non w1 W1 := by rw [hW1]; exact (Keep.refl _ _).alloc _
  have z1 : Reads W1 1 (.slice (some ⟨w1.heap.size, 0, none⟩) 4 4) 4 (B [0, 0, 0, 0]) := by
    rw [hW1]; exact (Row.lit w1 5 1 (B [0, 0, 0, 0]) 4 (by decide) rfl).reads
  have HK := Lib.hid k1
  have HZ := Lib.hid z1
  have HW := Lib.hid (H.out.far k1)
  have HLT := Lib.hid H.out.lt
  rw [← hW1]
  clear hW1 k1 z1
  have hrr : r = 1 ∨ r = 2 ∨ r = 3 := by omega
  have HNE : Hid (∀ b, (Value.slice (some ⟨w1.heap.size, 0, none⟩) 3 4).ownBlock = some b → b ≠ gw ∧ (Value.slice pa bs.length pc).ownBlock ≠ some b) := Lib.hid (fun b hb => by
    simp only [Value.ownBlock, Option.some.injEq] at hb
    subst hb
    exact ⟨fun e => by have := HLT.out _ (.inl e); omega, fun e => by have := HLT.out _ (.inr e); omega⟩)
  rcases hrr with rfl | rfl | rfl
  · go_wp2_with (go_at_call 67; refine (swrite gw _ _ bs.length bs [0, 0, 0] _ HW.out (HZ.out.takeB (m := 3) (c' := 4) (by decide)) (by omega) (by decide) (fun _ => HNE.out)).mono ?_; rintro e w3 ⟨pv', rfl, hw3, k3, l3⟩)
    rw [wrote_end, ← List.length_append] at hw3
    go_ret
    exact ⟨pv', rfl, hw3, (HK.out.mono (fun _ _ h => h.elim)).trans' k3, fun b hb => (l3 b hb).imp id (fun h => by have := HK.out.size; omega)⟩
  · go_wp2_with (go_at_call 67; refine (swrite gw _ _ bs.length bs [0, 0] _ HW.out (HZ.out.takeB (m := 2) (c' := 4) (by decide)) (by omega) (by decide) (fun _ => HNE.out)).mono ?_; rintro e w3 ⟨pv', rfl, hw3, k3, l3⟩)
    rw [wrote_end, ← List.length_append] at hw3
    go_ret
    exact ⟨pv', rfl, hw3, (HK.out.mono (fun _ _ h => h.elim)).trans' k3, fun b hb => (l3 b hb).imp id (fun h => by have := HK.out.size; omega)⟩
  · go_wp2_with (go_at_call 67; refine (swrite gw _ _ bs.length bs [0] _ HW.out (HZ.out.takeB (m := 1) (c' := 4) (by decide)) (by omega) (by decide) (fun _ => HNE.out)).mono ?_; rintro e w3 ⟨pv', rfl, hw3, k3, l3⟩)
    rw [wrote_end, ← List.length_append] at hw3
    go_ret
    exact ⟨pv', rfl, hw3, (HK.out.mono (fun _ _ h => h.elim)).trans' k3, fun b hb => (l3 b hb).imp id (fun h => by have := HK.out.size; omega)⟩
set_option maxRecDepth 100000 in
set_option maxHeartbeats 4000000 in
theorem padT (gw : Nat) (pv : Value) (bs : List UInt8) (w : World) (h : Wr w gw pv bs.length bs) (hbl : bs.length ≤ 1000000) :
    Calls Tryz.prog 68 #[.pointer (some ⟨gw, 0, none⟩)] w (EndPost gw pv (bs ++ padB bs.length) w) := by
  by_cases hz : bs.length % 4 = 0
  · have hp : padB bs.length = [] := by rw [padB, hz]; rfl
    rw [hp, List.append_nil]
    obtain ⟨pa, pc, rfl⟩ := h.row.reads.slice
    have H := Lib.hid h
    clear h
    have hw : IntKind.u32.wrap (bs.length : Int) = (bs.length : Int) := by rw [IntKind.wrap_u32]; omega
    have hm2 : (bs.length : Int) % 4 = 0 := by omega
    go_enter Tryz.func68, Tryz.ntmps68
    go_wp2_with (go_at_call 21; refine (wbytes _ gw _ _ H.out.blk).mono ?_; rintro e w1 ⟨rfl, rfl⟩)
    go_ret
    exact ⟨_, rfl, H.out.far ((Keep.refl _ _).alloc _), (Keep.refl _ _).alloc _, fun b hb => .inl hb⟩
  · have := padR (bs.length % 4) (by omega) gw pv bs w h hbl rfl
    rw [padB, Nat.mod_eq_of_lt (by omega : 4 - bs.length % 4 < 4)]
    exact this

/-! ### All bytes to the writer over a slice -/
set_option maxRecDepth 100000 in
theorem writeAllW (gw : Nat) (pv sv : Value) (bs ds : List UInt8) (p : Nat) (w : World) (h : Wr w gw pv p bs) (hs : Reads w 1 sv ds.length (B ds)) (hbl : bs.length ≤ 1000000) (hdl : ds.length ≤ 1000000) (hne : 0 < ds.length → ∀ b, sv.ownBlock = some b → b ≠ gw ∧ pv.ownBlock ≠ some b) :
    Calls Tryz.prog 57 #[.iface 54 (.pointer (some ⟨gw, 0, none⟩)), sv] w fun e w' => ∃ pv', e = .returned .nilIface ∧ Wr w' gw pv' (p + ds.length) (wrote bs p ds) ∧ Keep (fun i => i = gw ∨ pv.ownBlock = some i) w w' ∧ (∀ b, pv'.ownBlock = some b → pv.ownBlock = some b ∨ w.heap.size ≤ b) := by
  have hna := aheadWrite
  have hme := methodWrite
  have H := Lib.hid h
  have HS := Lib.hid hs
  clear h hs
  go_enter Tryz.func57, Tryz.ntmps57
  go_wp2_with (go_at_call 67; refine (swrite gw pv sv p bs ds _ H.out HS.out (by omega) (by omega) hne).mono ?_; rintro e w3 ⟨pv', rfl, hw3, k3, l3⟩)
  go_ret
  exact ⟨pv', rfl, hw3, k3, l3⟩
end Go.Proofs.YtcpegoofbenoiaaGreatDoor
/-
  CONTRACT: the head of a segment is written anew.
-/
namespace Go.Proofs.YtcpegoofbenoiaaGreatDoor
open Go.RowKit
open Go.ChangeShapes Go.WideShapes Go.ChangeAt Go.Deep
open Plain (M64)

/-- A seek of the writer that goes well. -/
theorem seekW (wh : Nat) (n : Int) (q : Nat) (g : Nat) (v : Value) (p : Nat) (bs : List UInt8) (w : World) (hwh : wh ≤ 2) (hT : seekTo wh p bs.length n = (q : Int)) (h : Wr w g v p bs) (hl : bs.length ≤ 1000000) (hq : q ≤ bs.length) (h1 : -1000000 ≤ n) (h2 : n ≤ 1000000) :
    Calls Tryz.prog 72 #[.pointer (some ⟨g, 0, none⟩), .int .i64 n, .int .i64 wh] w fun e w' => e = .returned (.tuple #[.int .i64 q, .nilIface]) ∧ Wr w' g v q bs ∧ Keep (At g) w w' := by
  obtain ⟨a, c, rfl⟩ := h.row.reads.slice
  refine (wseek a c bs.length g p n wh w hwh h.blk (by omega) h.le h1 (by omega)).mono ?_
  rintro e w' ⟨at', r, rfl, he, hb, k, ha⟩
  rw [hT] at he hb ha
  have hin : 0 ≤ (q : Int) ∧ (q : Int) ≤ (bs.length : Int) := by omega
  rw [decide_eq_true hin] at he
  rw [if_pos hin] at hb
  have e1 : r = .nilIface := he
  rw [e1, ha hin]
  exact ⟨rfl, ⟨by simpa using hb, h.row.keep k (fun b hb e => h.row.neBlk h.blk (by decide) (by rw [hb]; exact congrArg some e)), hq⟩, k⟩
/-- Behind a step of the writer that leaves its scratch. -/
def PwPost (gc : Nat) (gs : Value) (gb fe st al : Nat) (tm : Value) (fl segs gw : Nat) (pv : Value) (bs' : List UInt8) (w : World) (e : Ending) (w' : World) : Prop :=
  ∃ pv', e = .returned .nilIface ∧ PB w' gc gs gb fe st al tm fl segs gw pv' bs' ∧ Keep (fun i => i = gw ∨ pv.ownBlock = some i) w w' ∧ (∀ b, pv'.ownBlock = some b → pv.ownBlock = some b ∨ w.heap.size ≤ b)
set_option maxRecDepth 100000 in
set_option maxHeartbeats 8000000 in
theorem patchT (gc : Nat) (gs : Value) (gb fe st al : Nat) (tm : Value) (fl segs gw : Nat) (pv : Value) (bs : List UInt8) (w : World) (h : PB w gc gs gb fe st al tm fl segs gw pv bs) (hbl : bs.length ≤ 100000) (h16 : 16 ≤ bs.length) (h1 : fe < 18446744073709551616) (h2 : st < 4294967296) (h3 : al < 4294967296) :
    Calls Tryz.prog 41 #[.pointer (some ⟨gc, 0, none⟩), .pointer (some ⟨gw, 0, none⟩)] w (PwPost gc gs gb fe st al tm fl segs gw pv (shdrB fe st al ++ bs.drop 16) w) := by
  have H := Lib.hid h
  have hT1 : seekTo 1 bs.length bs.length 0 = (bs.length : Int) := by simp [seekTo]
  have hT2 : seekTo 0 bs.length bs.length 0 = ((0 : Nat) : Int) := by simp [seekTo]
  have hw0 : wrote bs 0 (shdrB fe st al) = shdrB fe st al ++ bs.drop 16 := by simp [wrote, shdrB_length]
  have hwl : (shdrB fe st al ++ bs.drop 16).length = bs.length := by rw [List.length_append, shdrB_length, List.length_drop]; omega
  have HT1 := Lib.hid hT1
  have HT2 := Lib.hid hT2
  have HW0 := Lib.hid hw0
  have HWL := Lib.hid hwl
  clear h hT1 hT2 hw0 hwl
  go_enter Tryz.func41, Tryz.ntmps41
  go_upto_region 4 with (go_at_call 72; refine (seekW 1 0 bs.length gw pv bs.length bs _ (by decide) HT1.out H.out.wr (by omega) (Nat.le_refl _) (by decide) (by decide)).mono ?_; rintro e w1 ⟨rfl, hw1, k1⟩; have HW1 := Lib.hid hw1; have HK1 := Lib.hid k1; clear hw1 k1)
  go_upto_region 7 with (go_at_call 72; refine (seekW 0 0 0 gw pv bs.length bs _ (by decide) HT2.out HW1.out (by omega) (Nat.zero_le _) (by decide) (by decide)).mono ?_; rintro e w2 ⟨rfl, hw2, k2⟩; have HW2 := Lib.hid hw2; have HK2 := Lib.hid (HK1.out.trans' k2); clear hw2 k2)
  have HC2 : Hid (Blk w2 gc (ccells gs gb fe st al tm fl segs) 98) := Lib.hid (H.out.blk.keep HK2.out (fun e => H.out.gcw e))
  have x2 : w2.cell? ⟨gc, 2, none⟩ = some (.int .u64 fe) := by rw [HC2.out.cell]; rfl
  have x3 : w2.cell? ⟨gc, 3, none⟩ = some (.int .u32 st) := by rw [HC2.out.cell]; rfl
  have x4 : w2.cell? ⟨gc, 4, none⟩ = some (.int .u32 al) := by rw [HC2.out.cell]; rfl
  go_upto_region 10 with (first
    | (go_at_call 60; refine (shdrBytes fe st al _ h1 h2 h3).mono ?_; rintro e w3 ⟨v3, rfl, r3, k3, l3⟩; have R3 := Lib.hid r3; have K3 := Lib.hid k3; have L3 := Lib.hid l3; clear r3 k3 l3)
    | (go_at_call 57; refine (writeAllW gw pv _ bs (shdrB fe st al) 0 _ (HW2.out.far K3.out) (by rw [shdrB_length]; exact R3.out.reads) (by omega) (by rw [shdrB_length]; omega) (fun _ b hb => by have hs := L3.out b hb; exact ⟨fun e => by have := HW2.out.lt b (.inl e); omega, fun e => by have := HW2.out.lt b (.inr e); omega⟩)).mono ?_; rintro e w4 ⟨pv4, rfl, hw4, k4, l4⟩; rw [HW0.out, shdrB_length, Nat.zero_add] at hw4; have HW4 := Lib.hid hw4; have HK4 := Lib.hid k4; have HL4 := Lib.hid l4; clear hw4 k4 l4))
  go_wp2_with (go_at_call 72; refine (seekW 0 bs.length bs.length gw pv4 16 _ _ (by decide) (by simp [seekTo]) HW4.out (by rw [HWL.out]; omega) (by rw [HWL.out]; omega) (by omega) (by omega)).mono ?_; rintro e w5 ⟨rfl, hw5, k5⟩)
  go_ret
  have hk : Keep (fun i => i = gw ∨ pv.ownBlock = some i) w w5 := by
    refine ((HK2.out.mono (fun i _ e => .inl e)).trans' (K3.out.mono (fun _ _ h => h.elim))).trans' (HK4.out.trans k5 (fun i _ e => .inl e))
  have hl : ∀ b, pv4.ownBlock = some b → pv.ownBlock = some b ∨ w.heap.size ≤ b := fun b hb => (HL4.out b hb).imp id (fun h => by have := HK2.out.size; have := K3.out.size; omega)
  refine ⟨pv4, rfl, H.out.write ?_ hk hl, hk, hl⟩
  rw [HWL.out]
  exact hw5
end Go.Proofs.YtcpegoofbenoiaaGreatDoor
/-
  A WRITER OF COUNTERS WITH ITS TABLE OF TEXTS: what each step does to both.
-/
namespace Go.Proofs.YtcpegoofbenoiaaGreatDoor
open Go.RowKit
open Go.ChangeShapes Go.WideShapes Go.ChangeAt Go.Deep
open Plain (M64)

/-- What may be touched, before and behind. -/
structure Ft (F F' : Nat → Prop) (w w' : World) : Prop where
  keep : Keep F w w'
  lies : ∀ i, F' i → F i ∨ w.heap.size ≤ i
theorem Ft.trans {F F' F'' : Nat → Prop} {a b c : World} (h : Ft F F' a b) (k : Ft F' F'' b c) : Ft F F'' a c :=
  ⟨h.keep.trans k.keep (fun i hi e => (h.lies i e).resolve_right (by omega)), fun i hi => by
    have := h.keep.size
    rcases k.lies i hi with e | e
    · exact h.lies i e
    · right; omega⟩
theorem Ft.refl (F : Nat → Prop) (w : World) : Ft F F w w := ⟨Keep.refl _ _, fun _ h => .inl h⟩
theorem Ft.q {F F' Q : Nat → Prop} {w w' : World} (h : Ft F F' w w') (h1 : ∀ i, F i → Q i) (h2 : ∀ i, w.heap.size ≤ i → Q i) : ∀ i, F' i → Q i := fun i hi => (h.lies i hi).elim (h1 i) (h2 i)
theorem Ft.no {F F' : Nat → Prop} {w w' : World} (h : Ft F F' w w') {b : Nat} (hb : ¬ F b) (hl : b < w.heap.size) : ¬ F' b := fun e => (h.lies b e).elim hb (fun h => by omega)
theorem Ft.far {F F' : Nat → Prop} {a w w' : World} (k : Keep Non a w) (h : Ft F F' w w') : Ft F F' a w' := ⟨(k.mono (fun _ _ h => h.elim)).trans' h.keep, fun i hi => (h.lies i hi).imp id (fun h => by have := k.size; omega)⟩

def stT : TypeId := 91
theorem stA : Apart 91 := ⟨by decide, by decide, by decide, by decide, by decide⟩
/-- Both. -/
structure PT (w : World) (gc : Nat) (gs gb fe st al : Nat) (tm : Value) (fl segs gw : Nat) (pv : Value) (bs : List UInt8) (mb : Nat) (ss sm : Value) (fz : Bool) (all : List ByteArray) : Prop where
  pb : PB w gc (.pointer (some ⟨gs, 0, none⟩)) gb fe st al tm fl segs gw pv bs
  tab : Tab w gs 91 [] mb ss sm fz all
  sep : ∀ b, sm.ownBlock = some b → tm.ownBlock ≠ some b ∧ pv.ownBlock ≠ some b
def PTF (gc gw gs mb : Nat) (tm pv ss sm : Value) : Nat → Prop := fun i => TWF gc gw tm pv i ∨ TabF gs mb ss sm i
section
variable {w w' : World} {gc gs gb fe st al : Nat} {tm : Value} {fl segs gw : Nat} {pv : Value} {bs : List UInt8} {mb : Nat} {ss sm : Value} {fz : Bool} {all : List ByteArray}
theorem PT.lt (h : PT w gc gs gb fe st al tm fl segs gw pv bs mb ss sm fz all) : ∀ i, PTF gc gw gs mb tm pv ss sm i → i < w.heap.size := by
  rintro i (e | e)
  · exact h.pb.lt i e
  · exact h.tab.lt i e
theorem PT.far (h : PT w gc gs gb fe st al tm fl segs gw pv bs mb ss sm fz all) (k : Keep Non w w') : PT w' gc gs gb fe st al tm fl segs gw pv bs mb ss sm fz all := ⟨h.pb.far k, h.tab.far k, h.sep⟩
/-- What is of the table is not of the writer. -/
theorem PT.apart (h : PT w gc gs gb fe st al tm fl segs gw pv bs mb ss sm fz all) : ∀ i, TabF gs mb ss sm i → ¬ TWF gc gw tm pv i := by
  obtain ⟨n1, x1, rt⟩ := h.pb.tmp
  obtain ⟨n0, bs0, r0, _⟩ := h.tab.tmp
  rintro i (rfl | rfl | hi | hi)
  · exact h.pb.off h.tab.blk (by decide) (by decide) (by decide)
  · rintro (e | e | e | e)
    · exact h.tab.map.neBlk h.pb.blk e
    · exact h.tab.map.neRow rt e
    · exact h.tab.map.neBlk h.pb.wr.blk e
    · exact h.tab.map.neRow h.pb.wr.row e
  · rintro (e | e | e | e)
    · exact h.tab.strs.neBlk h.pb.blk (by decide) (by rw [hi, e])
    · exact h.tab.strs.ne rt (by decide) hi e
    · exact h.tab.strs.neBlk h.pb.wr.blk (by decide) (by rw [hi, e])
    · exact h.tab.strs.ne h.pb.wr.row (by decide) hi e
  · rintro (e | e | e | e)
    · exact r0.neBlk h.pb.blk (by decide) (by rw [hi, e])
    · exact (h.sep i hi).1 e
    · exact r0.neBlk h.pb.wr.blk (by decide) (by rw [hi, e])
    · exact (h.sep i hi).2 e
/-- A block of another type is none of these. -/
theorem PT.off (h : PT w gc gs gb fe st al tm fl segs gw pv bs mb ss sm fz all) {b : Nat} {cs : List Value} {T : TypeId} (hb : Blk w b cs T) (h1 : T ≠ 98) (h2 : 5 ≠ T) (h3 : T ≠ 56) (h4 : T ≠ 91) (h5 : 9 ≠ T) : ¬ PTF gc gw gs mb tm pv ss sm b := by
  rintro (e | e | e | e | e)
  · exact h.pb.off hb h1 h2 h3 e
  · exact hb.ne h.tab.blk h4 e
  · exact h.tab.map.neBlk hb (Eq.symm e)
  · exact h.tab.strs.neBlk hb h5 e
  · obtain ⟨n0, bs0, r0, _⟩ := h.tab.tmp
    exact r0.neBlk hb h2 e
/-- A step of the writer of bytes. -/
theorem PT.stepB {fe' st' al' : Nat} {tm' pv' : Value} {bs' : List UInt8} (h : PT w gc gs gb fe st al tm fl segs gw pv bs mb ss sm fz all) (h' : PB w' gc (.pointer (some ⟨gs, 0, none⟩)) gb fe' st' al' tm' fl segs gw pv' bs') (k : Keep (TWF gc gw tm pv) w w')
    (l1 : ∀ b, tm'.ownBlock = some b → tm.ownBlock = some b ∨ w.heap.size ≤ b) (l2 : ∀ b, pv'.ownBlock = some b → pv.ownBlock = some b ∨ w.heap.size ≤ b) : PT w' gc gs gb fe' st' al' tm' fl segs gw pv' bs' mb ss sm fz all ∧ Ft (PTF gc gw gs mb tm pv ss sm) (PTF gc gw gs mb tm' pv' ss sm) w w' := by
  refine ⟨⟨h', h.tab.keep k h.apart, fun b hb => ?_⟩, ⟨k.mono (fun _ _ e => .inl e), ?_⟩⟩
  · have hlt := h.tab.lt b (.inr (.inr (.inr hb)))
    refine ⟨fun e => ?_, fun e => ?_⟩
    · rcases l1 b e with e | e
      · exact (h.sep b hb).1 e
      · omega
    · rcases l2 b e with e | e
      · exact (h.sep b hb).2 e
      · omega
  · rintro i ((e | e | e | e) | e)
    · exact .inl (.inl (.inl e))
    · exact (l1 i e).imp (fun e => .inl (.inr (.inl e))) id
    · exact .inl (.inl (.inr (.inr (.inl e))))
    · exact (l2 i e).imp (fun e => .inl (.inr (.inr (.inr e)))) id
    · exact .inl (.inr e)
/-- A step of the table. -/
theorem PT.stepT {ss' : Value} {fz' : Bool} {all' : List ByteArray} {S : Nat → Prop} (h : PT w gc gs gb fe st al tm fl segs gw pv bs mb ss sm fz all) (h' : Tab w' gs 91 [] mb ss' sm fz' all') (k : Keep S w w') (hS : ∀ i, S i → TabF gs mb ss sm i)
    (l : ∀ b, ss'.ownBlock = some b → ss.ownBlock = some b ∨ w.heap.size ≤ b) : PT w' gc gs gb fe st al tm fl segs gw pv bs mb ss' sm fz' all' ∧ Ft (PTF gc gw gs mb tm pv ss sm) (PTF gc gw gs mb tm pv ss' sm) w w' := by
  refine ⟨⟨h.pb.keep k (fun i hi e => h.apart i (hS i e) hi), h', h.sep⟩, ⟨k.mono (fun i _ e => .inr (hS i e)), ?_⟩⟩
  rintro i (e | e | e | e | e)
  · exact .inl (.inl e)
  · exact .inl (.inr (.inl e))
  · exact .inl (.inr (.inr (.inl e)))
  · exact (l i e).imp (fun e => .inr (.inr (.inr (.inl e)))) id
  · exact .inl (.inr (.inr (.inr (.inr e))))
end
/-- Looking up. -/
theorem PT.lookup (gc gs gb fe st al : Nat) (tm : Value) (fl segs gw : Nat) (pv : Value) (bs : List UInt8) (mb : Nat) (ss sm : Value) (fz : Bool) (all : List ByteArray) (s : ByteArray) (w : World) (h : PT w gc gs gb fe st al tm fl segs gw pv bs mb ss sm fz all) (hl : all.length ≤ 1000000) (hs : s.size ≤ 1000) (hf : fz = false ∨ place all s < all.length) :
    Calls Tryz.prog 36 #[.pointer (some ⟨gs, 0, none⟩), .string s] w fun e w' => ∃ ss', e = .returned (.int .u32 (place all s)) ∧ PT w' gc gs gb fe st al tm fl segs gw pv bs mb ss' sm fz (added all s) ∧ Ft (PTF gc gw gs mb tm pv ss sm) (PTF gc gw gs mb tm pv ss' sm) w w' := by
  refine (Go.Proofs.YtcpegoofbenoiaaGreatDoor.lookup gs 91 [] mb ss sm fz all s w h.tab (by decide) (by decide) hl hs hf).mono ?_
  rintro e w' ⟨ss', rfl, t, k, l⟩
  obtain ⟨h1, h2⟩ := h.stepT t k (fun i hi => by
    rcases hi with e | e | e
    · exact .inl e
    · exact .inr (.inl e)
    · exact .inr (.inr (.inl e))) l
  exact ⟨ss', rfl, h1, h2⟩
/-- Freezing. -/
theorem PT.freeze (gc gs gb fe st al : Nat) (tm : Value) (fl segs gw : Nat) (pv : Value) (bs : List UInt8) (mb : Nat) (ss sm : Value) (fz : Bool) (all : List ByteArray) (w : World) (h : PT w gc gs gb fe st al tm fl segs gw pv bs mb ss sm fz all) :
    Calls Tryz.prog 61 #[.pointer (some ⟨gs, 0, none⟩)] w fun e w' => e = .returned (.tuple #[]) ∧ PT w' gc gs gb fe st al tm fl segs gw pv bs mb ss sm true all ∧ Ft (PTF gc gw gs mb tm pv ss sm) (PTF gc gw gs mb tm pv ss sm) w w' := by
  refine (Go.Proofs.YtcpegoofbenoiaaGreatDoor.freeze gs 91 [] mb ss sm fz all w h.tab (by decide) (by decide)).mono ?_
  rintro e w' ⟨rfl, t, k⟩
  obtain ⟨h1, h2⟩ := h.stepT t k (fun i hi => .inl hi) (fun b hb => .inl hb)
  exact ⟨rfl, h1, h2⟩
/-- The table is written. -/
theorem PT.write (gc gs gb fe st al : Nat) (tm : Value) (fl segs gw : Nat) (pv : Value) (bs : List UInt8) (mb : Nat) (ss sm : Value) (fz : Bool) (all : List ByteArray) (w : World) (h : PT w gc gs gb fe st al tm fl segs gw pv bs mb ss sm fz all) (hbl : bs.length ≤ 2000000000) (hl : all.length ≤ 1000) :
    Calls Tryz.prog 62 #[.pointer (some ⟨gs, 0, none⟩), .iface 54 (.pointer (some ⟨gw, 0, none⟩))] w fun e w' => ∃ sm' pv', e = .returned .nilIface ∧ PT w' gc gs gb fe st al tm fl segs gw pv' (bs ++ tbytes all) mb ss sm' fz all ∧ Ft (PTF gc gw gs mb tm pv ss sm) (PTF gc gw gs mb tm pv' ss sm') w w' := by
  refine (twrite gs 91 [] mb ss sm fz all gw pv bs w ⟨h.tab, h.pb.wr, fun b hb => (h.sep b hb).2⟩ stA hbl hl).mono ?_
  rintro e w' ⟨sm', pv', rfl, ht, k, l1, l2⟩
  obtain ⟨n1, x1, rt⟩ := h.pb.tmp
  have hlt := h.pb.lt
  have hno : ∀ i, i = gc ∨ tm.ownBlock = some i → ¬ TWF gs gw sm pv i := by
    rintro i hi (e | e | e | e)
    · exact h.apart i (.inl e) (hi.elim .inl (fun h => .inr (.inl h)))
    · exact h.apart i (.inr (.inr (.inr e))) (hi.elim .inl (fun h => .inr (.inl h)))
    · rcases hi with hi | hi
      · exact h.pb.gcw (hi.symm.trans e)
      · exact (h.pb.tg i hi).2 e
    · rcases hi with hi | hi
      · exact (h.pb.pg i e).1 hi
      · exact h.pb.sep i hi e
  refine ⟨sm', pv', rfl, ⟨⟨h.pb.blk.keep k (hno gc (.inl rfl)), ht.wr, ⟨n1, x1, rt.keep k (fun b hb => hno b (.inr hb))⟩, h.pb.shape, fun b hb e => ?_⟩, ht.tab, fun b hb => ⟨fun e => ?_, ht.sep b hb⟩⟩, ⟨k.mono (fun i _ e => ?_), ?_⟩⟩
  · rcases l2 b e with e | e
    · exact h.pb.sep b hb e
    · have := hlt b (.inr (.inl hb)); omega
  · rcases l1 b hb with e2 | e2
    · exact (h.sep b e2).1 e
    · have := hlt b (.inr (.inl e)); omega
  · rcases e with e | e | e | e
    · exact .inr (.inl e)
    · exact .inr (.inr (.inr (.inr e)))
    · exact .inl (.inr (.inr (.inl e)))
    · exact .inl (.inr (.inr (.inr e)))
  · rintro i ((e | e | e | e) | e | e | e | e)
    · exact .inl (.inl (.inl e))
    · exact .inl (.inl (.inr (.inl e)))
    · exact .inl (.inl (.inr (.inr (.inl e))))
    · exact (l2 i e).imp (fun e => .inl (.inr (.inr (.inr e)))) id
    · exact .inl (.inr (.inl e))
    · exact .inl (.inr (.inr (.inl e)))
    · exact .inl (.inr (.inr (.inr (.inl e))))
    · exact (l1 i e).imp (fun e => .inr (.inr (.inr (.inr e)))) id
/-- A number by seven bits is written. -/
theorem PT.num (gc gs gb fe st al : Nat) (tm : Value) (fl segs gw : Nat) (pv : Value) (bs : List UInt8) (mb : Nat) (ss sm : Value) (fz : Bool) (all : List ByteArray) (x ba bw : Nat) (w : World) (h : PT w gc gs gb fe st al tm fl segs gw pv bs mb ss sm fz all) (hx : x < M64) (hbl : bs.length ≤ 2000000000)
    (hba : Blk w ba [.pointer (some ⟨gc, 0, none⟩)] 57) (hbw : Blk w bw [.pointer (some ⟨gw, 0, none⟩)] 54) :
    Calls Tryz.prog 65 #[.int .u64 x, .pointer (some ⟨ba, 0, none⟩), .pointer (some ⟨bw, 0, none⟩)] w fun e w' => ∃ tm' pv', e = .returned .nilIface ∧ PT w' gc gs gb fe st al tm' fl segs gw pv' (bs ++ uleb x) mb ss sm fz all ∧ Ft (PTF gc gw gs mb tm pv ss sm) (PTF gc gw gs mb tm' pv' ss sm) w w' := by
  refine (wrU gc _ gb fe st al tm fl segs gw pv bs x ba bw w h.pb hx hbl hba hbw).mono ?_
  rintro e w' ⟨tm', pv', rfl, p, k, l1, l2⟩
  obtain ⟨h1, h2⟩ := h.stepB p k l1 l2
  exact ⟨tm', pv', rfl, h1, h2⟩
end Go.Proofs.YtcpegoofbenoiaaGreatDoor
