/-
  THE READER of counters: its cells; the head of a segment is read.
-/
import Derived.Test.YtcpegoofbenoiaaGreatDoorZDg
import Derived.Test.YtcpegoofbenoiaaGreatDoorZRm2
import Derived.Test.YtcpegoofbenoiaaGreatDoorZRm4
import Derived.Test.YtcpegoofbenoiaaGreatDoorZGMem
import Derived.Test.YtcpegoofbenoiaaGreatDoorZGKc
namespace Go.Proofs.YtcpegoofbenoiaaGreatDoor
open Go.RowKit
open Go.ChangeShapes Go.WideShapes Go.ChangeAt Go.Deep
open Plain (M64)

theorem cell_of {w : World} {g i : Nat} {cs : List Value} {T : TypeId} {v : Value} (h : Blk w g cs T) (e : cs[i]? = some v) : w.cell? ⟨g, i, none⟩ = some v := by rw [h.cell]; exact e
theorem wrap32 (x : Nat) (h : x < 4294967296) : IntKind.u32.wrap (x : Int) = (x : Int) := by
  simp [IntKind.wrap, IntKind.bits, IntKind.signed]; omega
theorem splice_out (cur : List Value) (off : Nat) (ds : List Value) (i : Nat) (h : i < off ∨ off + ds.length ≤ i) (hl : off + ds.length ≤ cur.length) : (splice cur off ds)[i]? = cur[i]? := by
  rw [splice]
  rcases h with h | h
  · rw [List.getElem?_append_left (by simp; omega), List.getElem?_take_of_lt h]
  · rw [← List.append_assoc, List.getElem?_append_right (by simp; omega), List.getElem?_drop]
    congr 1
    simp
    omega
theorem splice_in (cur : List Value) (off : Nat) (ds : List Value) (i : Nat) (h : i < ds.length) (hl : off + ds.length ≤ cur.length) : (splice cur off ds)[off + i]? = ds[i]? := by
  rw [splice, List.getElem?_append_right (by simp; omega)]
  have e : off + i - (cur.take off).length = i := by simp; omega
  rw [e, List.getElem?_append_left h]
/-- What stands in an array, from a place on. -/
theorem subR {W : World} {gb n : Nat} {l : List UInt8} {T : TypeId} (hb : Blk W gb (B l) T) (hl : l.length = n) (lo : Nat) : Reads W 1 (.slice (some ⟨gb, lo, none⟩) (n - lo) (n - lo)) (n - lo) (B (l.drop lo)) := by
  refine ⟨by simp [B_length, hl], .inr ⟨_, _, rfl, fun j u hj => ?_⟩⟩
  rw [addr_add, hb.cell]
  have e : B (l.drop lo) = (B l).drop lo := by simp [B, List.map_drop]
  rw [e, List.getElem?_drop] at hj
  exact hj
theorem subR2 {W : World} {gb n : Nat} {l : List UInt8} {T : TypeId} (hb : Blk W gb (B l) T) (hl : l.length = n) (lo m c : Nat) (hm : lo + m ≤ n) : Reads W 1 (.slice (some ⟨gb, lo, none⟩) m c) m (B ((l.drop lo).take m)) := by
  refine ⟨by simp [B_length, hl]; omega, .inr ⟨_, _, rfl, fun j u hj => ?_⟩⟩
  have hjm : j < m := by
    have := (List.getElem?_eq_some_iff.1 hj).1
    simp [B_length, hl] at this
    omega
  rw [addr_add, hb.cell]
  have e : B ((l.drop lo).take m) = ((B l).drop lo).take m := by simp [B, List.map_drop, List.map_take]
  rw [e, List.getElem?_take_of_lt hjm, List.getElem?_drop] at hj
  exact hj
/-- A reader of counters that stands over the reader of a slice. -/
structure DR (w : World) (gd g bb c p : Nat) (cs : List Value) (bs : List UInt8) : Prop where
  blk : Blk w gd cs 122
  len : cs.length = 56
  mr : cs[5]? = some (.iface 71 (.pointer (some ⟨g, 0, none⟩)))
  rd : RR w g bb c p bs
  bd : bb ≠ gd
section
variable {w w' : World} {gd g bb c p q : Nat} {cs : List Value} {bs : List UInt8}
theorem DR.ne (h : DR w gd g bb c p cs bs) : gd ≠ g := fun e => h.blk.ne h.rd.blk (by decide) e
theorem DR.far (h : DR w gd g bb c p cs bs) (k : Keep Non w w') : DR w' gd g bb c p cs bs := ⟨h.blk.keep k (fun h => h), h.len, h.mr, h.rd.keep k (fun h => h) (fun h => h), h.bd⟩
theorem DR.keep {S : Nat → Prop} (h : DR w gd g bb c p cs bs) (k : Keep S w w') (h1 : ¬ S gd) (h2 : ¬ S g) (h3 : ¬ S bb) : DR w' gd g bb c p cs bs := ⟨h.blk.keep k h1, h.len, h.mr, h.rd.keep k h2 h3, h.bd⟩
theorem DR.drew (h : DR w gd g bb c p cs bs) : DR w.drew gd g bb c p cs bs := h.far (Keep.refl _ _).drew
theorem DR.move (h : DR w gd g bb c p cs bs) (k : Keep (At g) w w') (r : RR w' g bb c q bs) : DR w' gd g bb c q cs bs := ⟨h.blk.keep k h.ne, h.len, h.mr, r, h.bd⟩
theorem DR.move2 {S : Nat → Prop} (h : DR w gd g bb c p cs bs) (k : Keep S w w') (hs : ¬ S gd) (r : RR w' g bb c q bs) : DR w' gd g bb c q cs bs := ⟨h.blk.keep k hs, h.len, h.mr, r, h.bd⟩
theorem DR.set (h : DR w gd g bb c p cs bs) (i : Nat) (v : Value) (hi : i ≠ 5) : DR (w.setCell ⟨gd, i, none⟩ v) gd g bb c p (cs.set i v) bs :=
  ⟨h.blk.set i v, by rw [List.length_set]; exact h.len, by rw [List.getElem?_set_ne hi]; exact h.mr, h.rd.keep (Keep.one w gd i v) (fun e => h.ne (Eq.symm e)) (fun e => h.bd e), h.bd⟩
theorem DR.x5 (h : DR w gd g bb c p cs bs) : w.cell? ⟨gd, 5, none⟩ = some (.iface 71 (.pointer (some ⟨g, 0, none⟩))) := cell_of h.blk h.mr
theorem DR.at (h : DR w gd g bb c p cs bs) (i : Nat) (hi : i < 56) : ∃ v, w.cell? ⟨gd, i, none⟩ = some v := ⟨cs[i]'(by rw [h.len]; exact hi), by rw [h.blk.cell, List.getElem?_eq_getElem]⟩
end
def zeros16 : List Value := List.replicate 16 (.int .u8 0)
def zeros32 : List Value := List.replicate 32 (.int .u8 0)
/-- Behind a read of a head: the cells are these. -/
def RdP (gd g bb c p : Nat) (cs : List Value) (bs : List UInt8) (w : World) (e : Ending) (w' : World) : Prop :=
  e = .returned .nilIface ∧ DR w' gd g bb c p cs bs ∧ Keep (fun i => i = g ∨ i = gd) w w'
set_option maxRecDepth 100000 in
set_option maxHeartbeats 8000000 in
theorem shdrRead (gd g bb c p : Nat) (cs : List Value) (bs r : List UInt8) (fe st al : Nat) (w : World) (h : DR w gd g bb c p cs bs) (hbs : bs.drop p = shdrB fe st al ++ r) (hl : bs.length ≤ 1000000) (h1 : fe < 18446744073709551616) (h2 : st < 4294967296) (h3 : al < 4294967296) :
    Calls Tryz.prog 78 #[.pointer (some ⟨gd, 48, none⟩), .iface 71 (.pointer (some ⟨g, 0, none⟩))] w (RdP gd g bb c (p + 16) (((cs.set 48 (.int .u64 fe)).set 49 (.int .u32 st)).set 50 (.int .u32 al)) bs w) := by
  obtain ⟨W1, hW1⟩ : ∃ W1, W1 = w.alloc (.cells #[.int .u8 0, .int .u8 0, .int .u8 0, .int .u8 0, .int .u8 0, .int .u8 0, .int .u8 0, .int .u8 0, .int .u8 0, .int .u8 0, .int .u8 0, .int .u8 0, .int .u8 0, .int .u8 0, .int .u8 0, .int .u8 0] 22) := ⟨_, rfl⟩
  have hb1 : Blk W1 w.heap.size zeros16 22 := by rw [hW1]; exact Blk.new w zeros16 _
  have hk1 : Keep Non w W1 := by rw [hW1]; exact (Keep.refl _ _).alloc _
  have hfit : p + 16 ≤ bs.length := by
    have := congrArg List.length hbs
    simp [shdrB_length] at this
    omega
  have hgl : g < w.heap.size := h.rd.blk.lt
  have hDl : gd < w.heap.size := h.blk.lt
  have hbl : bb < w.heap.size := h.rd.data.blk (by omega) (by decide) bb rfl
  have HB1 := Lib.hid hb1
  have HD1 := Lib.hid (h.far hk1)
  have HK1 := Lib.hid hk1
  have HBS := Lib.hid hbs
  clear hb1 hk1 h hbs
  go_enter Tryz.func78, Tryz.ntmps78
  go_wp2_with fail
  rw [← hW1]
  clear hW1
  refine (readFull2 g bb c p w.heap.size 16 bs zeros16 22 W1 HD1.out.rd HB1.out rfl hl hfit (by omega) (by omega) (by decide)).mono ?_
  rintro e w2 ⟨rfl, h2', b2, k2⟩
  have hl16 : (bs.drop p).take 16 = shdrB fe st al := by rw [HBS.out, ← shdrB_length fe st al, List.take_left]
  rw [hl16] at b2
  have hD2 := HD1.out.move2 k2 (fun e => by rcases e with e | e; exact HD1.out.ne e; omega) h2'
  have hk : Keep (fun i => i = g ∨ i = gd) w w2 := (HK1.out.mono (fun _ _ h => h.elim)).trans k2 (fun i hi e => by rcases e with e | e; exact .inl e; omega)
  obtain ⟨gb, hgb⟩ : ∃ gb, gb = w.heap.size := ⟨_, rfl⟩
  rw [← hgb] at b2 ⊢
  have HGB : Hid (gb ≠ gd) := Lib.hid (by omega)
  have HD2 := Lib.hid hD2
  have HB2 := Lib.hid b2
  have HK2 := Lib.hid hk
  obtain ⟨l, hll⟩ : ∃ l, l = shdrB fe st al := ⟨_, rfl⟩
  rw [← hll] at HB2
  have hlen : l.length = 16 := by rw [hll, shdrB_length]
  have T0 : Hid ((l.drop 0).take 8 = leb 8 fe) := Lib.hid (by rw [hll]; rfl)
  have T8 : Hid ((l.drop 8).take 4 = leb 4 st) := Lib.hid (by rw [hll]; rfl)
  have T12 : Hid ((l.drop 12).take 4 = leb 4 al) := Lib.hid (by rw [hll]; rfl)
  have HLEN := Lib.hid hlen
  clear hll hlen h2' hD2 b2 k2 hk hgb hl16 HD1 HB1 HK1 hgl hDl hbl
  obtain ⟨v1, hv1⟩ := HD2.out.at 48 (by decide)
  obtain ⟨v2, hv2⟩ := HD2.out.at 49 (by decide)
  obtain ⟨v3, hv3⟩ := HD2.out.at 50 (by decide)
  have f1 := HD2.out.blk.free 48
  have f2 := HD2.out.blk.free 49
  have f3 := HD2.out.blk.free 50
  have k1 := wrap32 st h2
  have k2 := wrap32 al h3
  go_upto_region 5 with (fail)
  go_cut [] from 17 to 33 (fun wx => DR wx gd g bb c (p + 16) (((cs.set 48 (.int .u64 fe)).set 49 (.int .u32 st)).set 50 (.int .u32 al)) bs ∧ Keep (At gd) w2 wx)
  case first =>
    go_region_held3 (fun _ => True) (trivial)
      (first
        | (go_at_call_of 76 (Value.slice (some ⟨gb, 0, none⟩) 16 16); refine (ofT _ 16 8 _ fe _ (subR HB2.out.drew HLEN.out 0) (by decide) (by decide) T0.out (by omega) (by omega)).mono ?_; rintro e w3 ⟨rfl, rfl⟩)
        | (go_at_call_of 76 (Value.slice (some ⟨gb, 8, none⟩) 8 8); refine (ofT _ 8 4 _ st _ (subR HB2.out.drew HLEN.out 8) (by decide) (by decide) T8.out (by omega) (by omega)).mono ?_; rintro e w3 ⟨rfl, rfl⟩)
        | (go_at_call_of 76 (Value.slice (some ⟨gb, 12, none⟩) 4 4); refine (ofT _ 4 4 _ al _ (subR HB2.out.drew HLEN.out 12) (by decide) (by decide) T12.out (by omega) (by omega)).mono ?_; rintro e w3 ⟨rfl, rfl⟩))
    all_goals
      go_wp2_with fail
      go_meet
      case rel =>
        refine ⟨((HD2.out.drew.set 48 (.int .u64 fe) (by decide)).set 49 (.int .u32 st) (by decide)).set 50 (.int .u32 al) (by decide), ?_⟩
        exact (((Keep.refl _ _).drew.setAt _ _ _ (atSelf _)).setAt _ _ _ (atSelf _)).setAt _ _ _ (atSelf _)
  case rest =>
    obtain ⟨hD3, k3⟩ := hcut
    have HD3 := Lib.hid hD3
    have HK3 := Lib.hid k3
    clear hD3 k3 hv1 hv2 hv3 f1 f2 f3
    go_wp2_with fail
    go_ret
    exact ⟨rfl, HD3.out, HK2.out.trans HK3.out (fun i hi e => .inr e)⟩
end Go.Proofs.YtcpegoofbenoiaaGreatDoor
/-
  CONTRACTS: the foot of the file and the magic word are read.
-/
namespace Go.Proofs.YtcpegoofbenoiaaGreatDoor
open Go.RowKit
open Go.ChangeShapes Go.WideShapes Go.ChangeAt Go.Deep
open Plain (M64)

/-- All cells but n from lo on are as before. -/
structure SameBut (lo n : Nat) (cs cs' : List Value) : Prop where
  len : cs'.length = cs.length
  same : ∀ i, i < lo ∨ lo + n ≤ i → cs'[i]? = cs[i]?
theorem SameBut.trans {lo n : Nat} {a b c : List Value} (h : SameBut lo n a b) (h' : SameBut lo n b c) : SameBut lo n a c := ⟨by rw [h'.len, h.len], fun i hi => by rw [h'.same i hi, h.same i hi]⟩
theorem SameBut.set {lo n : Nat} (cs : List Value) (i : Nat) (v : Value) (h : lo ≤ i) (h2 : i < lo + n) : SameBut lo n cs (cs.set i v) := ⟨List.length_set, fun j hj => List.getElem?_set_ne (by omega)⟩
theorem SameBut.splice {lo n : Nat} (cs : List Value) (off : Nat) (ds : List Value) (h : lo ≤ off) (h2 : off + ds.length ≤ lo + n) (h3 : off + ds.length ≤ cs.length) : SameBut lo n cs (splice cs off ds) :=
  ⟨length_splice _ _ _ h3, fun j hj => splice_out _ _ _ _ (by omega) h3⟩
/-- The magic word stands from a place on. -/
structure MagAt (cs : List Value) (i : Nat) : Prop where
  m0 : cs[i]? = some (.int .u8 0)
  m1 : cs[i + 1]? = some (.int .u8 99)
  m2 : cs[i + 2]? = some (.int .u8 119)
  m3 : cs[i + 3]? = some (.int .u8 109)
theorem MagAt.set {cs : List Value} {i : Nat} (h : MagAt cs i) (j : Nat) (v : Value) (hj : j < i ∨ i + 4 ≤ j) : MagAt (cs.set j v) i :=
  ⟨by rw [List.getElem?_set_ne (by omega)]; exact h.m0, by rw [List.getElem?_set_ne (by omega)]; exact h.m1, by rw [List.getElem?_set_ne (by omega)]; exact h.m2, by rw [List.getElem?_set_ne (by omega)]; exact h.m3⟩
theorem MagAt.of {cs : List Value} (i : Nat) (h : i + 4 ≤ cs.length) : MagAt (splice cs i (B magicB)) i := by
  have e : ∀ k, k < 4 → (splice cs i (B magicB))[i + k]? = (B magicB)[k]? := fun k hk => splice_in _ _ _ _ hk (by exact h)
  exact ⟨e 0 (by decide), e 1 (by decide), e 2 (by decide), e 3 (by decide)⟩
theorem MagAt.splice {cs : List Value} {i : Nat} (h : MagAt cs i) (off : Nat) (ds : List Value) (hj : off + ds.length ≤ i ∨ i + 4 ≤ off) (h3 : off + ds.length ≤ cs.length) : MagAt (splice cs off ds) i :=
  ⟨by rw [splice_out _ _ _ _ (by omega) h3]; exact h.m0, by rw [splice_out _ _ _ _ (by omega) h3]; exact h.m1, by rw [splice_out _ _ _ _ (by omega) h3]; exact h.m2, by rw [splice_out _ _ _ _ (by omega) h3]; exact h.m3⟩
theorem DR.spl {w w' : World} {gd g bb c p : Nat} {cs : List Value} {bs : List UInt8} (h : DR w gd g bb c p cs bs) {off : Nat} {ds : List Value} (hb : Blk w' gd (splice cs off ds) 122) (k : Keep (At gd) w w') (h6 : 6 ≤ off) (h3 : off + ds.length ≤ 56) : DR w' gd g bb c p (splice cs off ds) bs :=
  ⟨hb, by rw [length_splice _ _ _ (by rw [h.len]; exact h3)]; exact h.len, by rw [splice_out _ _ _ _ (by omega) (by rw [h.len]; exact h3)]; exact h.mr, h.rd.keep k (fun e => h.ne (Eq.symm e)) (fun e => h.bd e), h.bd⟩
/-- Behind the foot's Read. -/
def FtrP (gd g bb c p n : Nat) (cs : List Value) (bs : List UInt8) (w : World) (e : Ending) (w' : World) : Prop :=
  e = .returned .nilIface ∧ ∃ cs', DR w' gd g bb c p cs' bs ∧ SameBut 35 13 cs cs' ∧ MagAt cs' 35 ∧ cs'[43]? = some (.int .u32 n) ∧ Keep (fun i => i = g ∨ i = gd) w w'
set_option maxRecDepth 100000 in
set_option maxHeartbeats 8000000 in
theorem ftrRead (gd g bb c p : Nat) (cs : List Value) (bs r : List UInt8) (n : Nat) (w : World) (h : DR w gd g bb c p cs bs) (hbs : bs.drop p = footB n ++ r) (hl : bs.length ≤ 1000000) (h1 : n < 4294967296) :
    Calls Tryz.prog 77 #[.pointer (some ⟨gd, 35, none⟩), .iface 71 (.pointer (some ⟨g, 0, none⟩))] w (FtrP gd g bb c (p + 16) n cs bs w) := by
  obtain ⟨W1, hW1⟩ : ∃ W1, W1 = w.alloc (.cells #[.int .u8 0, .int .u8 0, .int .u8 0, .int .u8 0, .int .u8 0, .int .u8 0, .int .u8 0, .int .u8 0, .int .u8 0, .int .u8 0, .int .u8 0, .int .u8 0, .int .u8 0, .int .u8 0, .int .u8 0, .int .u8 0] 22) := ⟨_, rfl⟩
  have hb1 : Blk W1 w.heap.size zeros16 22 := by rw [hW1]; exact Blk.new w zeros16 _
  have hk1 : Keep Non w W1 := by rw [hW1]; exact (Keep.refl _ _).alloc _
  have hfit : p + 16 ≤ bs.length := by
    have := congrArg List.length hbs
    simp [footB_length] at this
    omega
  have hgl : g < w.heap.size := h.rd.blk.lt
  have hDl : gd < w.heap.size := h.blk.lt
  have hbl : bb < w.heap.size := h.rd.data.blk (by omega) (by decide) bb rfl
  have HB1 := Lib.hid hb1
  have HD1 := Lib.hid (h.far hk1)
  have HK1 := Lib.hid hk1
  have HBS := Lib.hid hbs
  clear hb1 hk1 h hbs
  go_enter Tryz.func77, Tryz.ntmps77
  go_wp2_with fail
  rw [← hW1]
  clear hW1
  refine (readFull2 g bb c p w.heap.size 16 bs zeros16 22 W1 HD1.out.rd HB1.out rfl hl hfit (by omega) (by omega) (by decide)).mono ?_
  rintro e w2 ⟨rfl, h2', b2, k2⟩
  have hl16 : (bs.drop p).take 16 = footB n := by rw [HBS.out, ← footB_length n, List.take_left]
  rw [hl16] at b2
  have hD2 := HD1.out.move2 k2 (fun e => by rcases e with e | e; exact HD1.out.ne e; omega) h2'
  have hk : Keep (fun i => i = g ∨ i = gd) w w2 := (HK1.out.mono (fun _ _ h => h.elim)).trans k2 (fun i hi e => by rcases e with e | e; exact .inl e; omega)
  obtain ⟨gb, hgb⟩ : ∃ gb, gb = w.heap.size := ⟨_, rfl⟩
  rw [← hgb] at b2 ⊢
  have HGB : Hid (¬ At gd gb) := Lib.hid (fun e => by have e : gb = gd := e; omega)
  have HD2 := Lib.hid hD2
  have HB2 := Lib.hid b2
  have HK2 := Lib.hid hk
  obtain ⟨l, hll⟩ : ∃ l, l = footB n := ⟨_, rfl⟩
  rw [← hll] at HB2
  have hlen : l.length = 16 := by rw [hll, footB_length]
  have T0 : Hid ((l.drop 0).take 4 = magicB) := Lib.hid (by rw [hll]; rfl)
  have T8 : Hid ((l.drop 8).take 4 = leb 4 n) := Lib.hid (by rw [hll]; rfl)
  have HLEN := Lib.hid hlen
  clear hll hlen h2' hD2 b2 k2 hk hgb hl16 HD1 HB1 HK1 hgl hDl hbl
  go_upto_region 5 with (fail)
  go_cut [] from 17 to 22 (fun wx => ∃ cs', DR wx gd g bb c (p + 16) cs' bs ∧ SameBut 35 13 cs cs' ∧ MagAt cs' 35 ∧ Keep (At gd) w2 wx)
  case first =>
    have hu4 : Tryz.prog.underlying 115 = some (.array 4 5) := by kernel_rfl
    go_region_held3 (fun _ => True) (trivial)
      (first
        | (refine step_cp (n := 4) (T := 122) (cur := cs) (xs := B ((l.drop 0).take 4)) Tryz.underlying33 (by kernel_rfl) rfl _ _ rfl rfl rfl HD2.out.blk.drew (subR2 HB2.out.drew HLEN.out 0 4 _ (by decide)) (by decide) (by rw [HD2.out.len]; decide) (B_one _) ?_; intro w4 b4 k4))
    all_goals
      go_wp2_with fail
      go_meet
      case rel =>
        rw [T0.out] at b4
        have hk := k4.undrew
        exact ⟨_, HD2.out.spl b4 hk (by decide) (by decide), SameBut.splice _ _ _ (by decide) (by decide) (by rw [HD2.out.len]; decide), MagAt.of 35 (by rw [HD2.out.len]; decide), hk⟩
  case rest =>
    obtain ⟨cs3, hD3, hS3, hM3, k3⟩ := hcut
    have HD3 := Lib.hid hD3
    have HS3 := Lib.hid hS3
    have HM3 := Lib.hid hM3
    have HK3 := Lib.hid k3
    have HB3 := Lib.hid (HB2.out.keep k3 HGB.out)
    clear hD3 hS3 hM3 k3
    obtain ⟨v1, hv1⟩ := HD3.out.at 43 (by decide)
    have f1 := HD3.out.blk.free 43
    have k1 := wrap32 n h1
    go_wp2_with (go_at_call 76; refine (ofT _ 8 4 _ n _ (subR HB3.out HLEN.out 8) (by decide) (by decide) T8.out (by omega) (by omega)).mono ?_; rintro e w3 ⟨rfl, rfl⟩)
    go_ret
    exact ⟨rfl, _, HD3.out.set 43 _ (by decide), HS3.out.trans (SameBut.set _ _ _ (by decide) (by decide)), HM3.out.set 43 _ (by decide), by simp [HD3.out.len], HK2.out.trans (HK3.out.setAt _ _ _ (atSelf _)) (fun i hi e => .inr e)⟩
set_option maxRecDepth 100000 in
set_option maxHeartbeats 4000000 in
theorem checkMagicT (w : World) (h : Mag w) : Calls Tryz.prog 46 #[.agg #[.int .u8 0, .int .u8 99, .int .u8 119, .int .u8 109]] w fun e w' => e = .returned (.bool true) ∧ Keep Non w w' := by
  obtain ⟨W1, hW1⟩ : ∃ W1, W1 = w.alloc (.cells #[.int .u8 0, .int .u8 99, .int .u8 119, .int .u8 109] 115) := ⟨_, rfl⟩
  have hk1 : Keep Non w W1 := by rw [hW1]; exact (Keep.refl _ _).alloc _
  have hb1 : Blk W1 w.heap.size [.int .u8 0, .int .u8 99, .int .u8 119, .int .u8 109] 115 := by rw [hW1]; exact Blk.new w [.int .u8 0, .int .u8 99, .int .u8 119, .int .u8 109] _
  obtain ⟨m0, m1, m2, m3⟩ := h.far hk1
  have HK1 := Lib.hid hk1
  have HB1 := Lib.hid hb1
  clear h hk1 hb1
  go_enter Tryz.func46, Tryz.ntmps46
  go_upto_region 1 with (fail)
  rw [← hW1]
  clear hW1
  obtain ⟨g1, hg1⟩ : ∃ g, g = w.heap.size := ⟨_, rfl⟩
  rw [← hg1] at HB1 ⊢
  clear hg1
  obtain ⟨W2, hW2⟩ : ∃ W, W = W1.alloc (.cells #[.int .u8 0, .int .u8 99, .int .u8 119, .int .u8 109] 115) := ⟨_, rfl⟩
  have hb2 : Blk W2 W1.heap.size [.int .u8 0, .int .u8 99, .int .u8 119, .int .u8 109] 115 := by rw [hW2]; exact Blk.new W1 [.int .u8 0, .int .u8 99, .int .u8 119, .int .u8 109] _
  have hk2 : Keep Non W1 W2 := by rw [hW2]; exact (Keep.refl _ _).alloc _
  have hb1 := HB1.out.keep hk2 (fun h => h)
  go_upto_region 2 with (fail)
  rw [← hW2]
  have x0 : W2.cell? ⟨g1, 0, none⟩ = some (.int .u8 0) := by rw [hb1.cell]; rfl
  have x1 : W2.cell? ⟨g1, 1, none⟩ = some (.int .u8 99) := by rw [hb1.cell]; rfl
  have x2 : W2.cell? ⟨g1, 2, none⟩ = some (.int .u8 119) := by rw [hb1.cell]; rfl
  have x3 : W2.cell? ⟨g1, 3, none⟩ = some (.int .u8 109) := by rw [hb1.cell]; rfl
  have y0 : W2.cell? ⟨W1.heap.size, 0, none⟩ = some (.int .u8 0) := by rw [hb2.cell]; rfl
  have y1 : W2.cell? ⟨W1.heap.size, 1, none⟩ = some (.int .u8 99) := by rw [hb2.cell]; rfl
  have y2 : W2.cell? ⟨W1.heap.size, 2, none⟩ = some (.int .u8 119) := by rw [hb2.cell]; rfl
  have y3 : W2.cell? ⟨W1.heap.size, 3, none⟩ = some (.int .u8 109) := by rw [hb2.cell]; rfl
  have HK2 := Lib.hid hk2
  clear hW2 hb1 hb2 hk2
  go_wp2_with fail
  go_ret
  exact ⟨rfl, HK1.out.trans' HK2.out⟩
end Go.Proofs.YtcpegoofbenoiaaGreatDoor
/-
  CONTRACT: the head of the file is read.
-/
namespace Go.Proofs.YtcpegoofbenoiaaGreatDoor
open Go.RowKit
open Go.ChangeShapes Go.WideShapes Go.ChangeAt Go.Deep
open Plain (M64)

/-- Behind the head's Read. -/
def HdrP (gd g bb c p fl : Nat) (cs : List Value) (bs : List UInt8) (w : World) (e : Ending) (w' : World) : Prop :=
  e = .returned .nilIface ∧ ∃ cs', DR w' gd g bb c p cs' bs ∧ SameBut 6 29 cs cs' ∧ MagAt cs' 6 ∧ cs'[10]? = some (.int .u32 1) ∧ cs'[27]? = some (.int .u8 fl) ∧ cs'[28]? = some (.bool false) ∧ Keep (fun i => i = g ∨ i = gd) w w'
set_option maxRecDepth 100000 in
set_option maxHeartbeats 8000000 in
theorem hdrRead (gd g bb c p : Nat) (cs : List Value) (bs r hash : List UInt8) (fl : Nat) (w : World) (h : DR w gd g bb c p cs bs) (hbs : bs.drop p = headB hash fl ++ r) (hl : bs.length ≤ 1000000) (h1 : fl < 256) (hh : hash.length = 16) :
    Calls Tryz.prog 45 #[.pointer (some ⟨gd, 6, none⟩), .iface 71 (.pointer (some ⟨g, 0, none⟩))] w (HdrP gd g bb c (p + 32) fl cs bs w) := by
  obtain ⟨W1, hW1⟩ : ∃ W1, W1 = w.alloc (.cells #[.int .u8 0, .int .u8 0, .int .u8 0, .int .u8 0, .int .u8 0, .int .u8 0, .int .u8 0, .int .u8 0, .int .u8 0, .int .u8 0, .int .u8 0, .int .u8 0, .int .u8 0, .int .u8 0, .int .u8 0, .int .u8 0, .int .u8 0, .int .u8 0, .int .u8 0, .int .u8 0, .int .u8 0, .int .u8 0, .int .u8 0, .int .u8 0, .int .u8 0, .int .u8 0, .int .u8 0, .int .u8 0, .int .u8 0, .int .u8 0, .int .u8 0, .int .u8 0] 156) := ⟨_, rfl⟩
  have hb1 : Blk W1 w.heap.size zeros32 156 := by rw [hW1]; exact Blk.new w zeros32 _
  have hk1 : Keep Non w W1 := by rw [hW1]; exact (Keep.refl _ _).alloc _
  have hfit : p + 32 ≤ bs.length := by
    have := congrArg List.length hbs
    simp [headB_length hh] at this
    omega
  have hgl : g < w.heap.size := h.rd.blk.lt
  have hDl : gd < w.heap.size := h.blk.lt
  have hbl : bb < w.heap.size := h.rd.data.blk (by omega) (by decide) bb rfl
  have HB1 := Lib.hid hb1
  have HD1 := Lib.hid (h.far hk1)
  have HK1 := Lib.hid hk1
  have HBS := Lib.hid hbs
  have HH := Lib.hid hh
  clear hb1 hk1 h hbs hh
  go_enter Tryz.func45, Tryz.ntmps45
  go_wp2_with fail
  rw [← hW1]
  clear hW1
  refine (readFull2 g bb c p w.heap.size 32 bs zeros32 156 W1 HD1.out.rd HB1.out rfl hl hfit (by omega) (by omega) (by decide)).mono ?_
  rintro e w2 ⟨rfl, h2', b2, k2⟩
  have hl32 : (bs.drop p).take 32 = headB hash fl := by rw [HBS.out, ← headB_length HH.out fl, List.take_left]
  rw [hl32] at b2
  have hD2 := HD1.out.move2 k2 (fun e => by rcases e with e | e; exact HD1.out.ne e; omega) h2'
  have hk : Keep (fun i => i = g ∨ i = gd) w w2 := (HK1.out.mono (fun _ _ h => h.elim)).trans k2 (fun i hi e => by rcases e with e | e; exact .inl e; omega)
  obtain ⟨gb, hgb⟩ : ∃ gb, gb = w.heap.size := ⟨_, rfl⟩
  rw [← hgb] at b2 ⊢
  have HGB : Hid (¬ At gd gb) := Lib.hid (fun e => by have e : gb = gd := e; omega)
  have HD2 := Lib.hid hD2
  have HB2 := Lib.hid b2
  have HK2 := Lib.hid hk
  obtain ⟨l, hll⟩ : ∃ l, l = headB hash fl := ⟨_, rfl⟩
  rw [← hll] at HB2
  have hlen : l.length = 32 := by rw [hll, headB_length HH.out]
  obtain ⟨a0, a1, a2, a3, a4, a5, a6, a7, a8, a9, a10, a11, a12, a13, a14, a15, hdig⟩ := sixteen HH.out
  have T0 : Hid ((l.drop 0).take 4 = magicB) := Lib.hid (by rw [hll]; rfl)
  have T4 : Hid ((l.drop 4).take 4 = leb 4 1) := Lib.hid (by rw [hll]; rfl)
  have hu8 : (UInt8.ofNat fl).toNat = fl := by simp; omega
  have T24 : Hid ((B l)[24]? = some (.int .u8 (fl : Int))) := Lib.hid (by
    have e : (B l)[24]? = some (.int .u8 ((UInt8.ofNat fl).toNat : Int)) := by rw [hll, hdig]; rfl
    rw [e, hu8])
  have T25 : Hid ((B l)[25]? = some (.int .u8 0)) := Lib.hid (by rw [hll, hdig]; rfl)
  have HLEN := Lib.hid hlen
  clear hll hlen h2' hD2 b2 k2 hk hgb hl32 HD1 HB1 HK1 hgl hDl hbl hdig hu8
  go_upto_region 5 with (fail)
  go_cut [] from 17 to 22 (fun wx => ∃ cs', DR wx gd g bb c (p + 32) cs' bs ∧ SameBut 6 29 cs cs' ∧ MagAt cs' 6 ∧ Keep (At gd) w2 wx)
  case first =>
    have hu4 : Tryz.prog.underlying 115 = some (.array 4 5) := by kernel_rfl
    go_region_held3 (fun _ => True) (trivial)
      (first
        | (refine step_cp (n := 4) (T := 122) (cur := cs) (xs := B ((l.drop 0).take 4)) Tryz.underlying33 (by kernel_rfl) rfl _ _ rfl rfl rfl HD2.out.blk.drew (subR2 HB2.out.drew HLEN.out 0 4 _ (by decide)) (by decide) (by rw [HD2.out.len]; decide) (B_one _) ?_; intro w4 b4 k4))
    all_goals
      go_wp2_with fail
      go_meet
      case rel =>
        rw [T0.out] at b4
        have hk := k4.undrew
        exact ⟨_, HD2.out.spl b4 hk (by decide) (by decide), SameBut.splice _ _ _ (by decide) (by decide) (by rw [HD2.out.len]; decide), MagAt.of 6 (by rw [HD2.out.len]; decide), hk⟩
  case rest =>
    obtain ⟨cs3, hD3, hS3, hM3, k3⟩ := hcut
    have HD3 := Lib.hid hD3
    have HS3 := Lib.hid hS3
    have HM3 := Lib.hid hM3
    have HK3 := Lib.hid k3
    have HB3 := Lib.hid (HB2.out.keep k3 HGB.out)
    clear hD3 hS3 hM3 k3
    obtain ⟨v1, hv1⟩ := HD3.out.at 10 (by decide)
    have f1 := HD3.out.blk.free 10
    go_upto_region 7 with (go_at_call 76; refine (ofT _ 28 4 _ 1 _ (subR HB3.out HLEN.out 4) (by decide) (by decide) T4.out (by decide) (by decide)).mono ?_; rintro e w3 ⟨rfl, rfl⟩)
    have HD4 := Lib.hid (HD3.out.set 10 (.int .u32 1) (by decide))
    have HV4 : Hid ((cs3.set 10 (.int .u32 1))[10]? = some (.int .u32 1)) := Lib.hid (by simp [HD3.out.len])
    have HS4 := Lib.hid (HS3.out.trans (SameBut.set cs3 10 (.int .u32 1) (by decide) (by decide)))
    have HM4 := Lib.hid (HM3.out.set 10 (.int .u32 1) (by decide))
    have HK4 : Hid (Keep (At gd) w2 (w3.setCell ⟨gd, 10, none⟩ (.int .u32 1))) := Lib.hid (HK3.out.setAt _ _ _ (atSelf _))
    have HB4 := Lib.hid (HB3.out.keep (Keep.one w3 gd 10 (.int .u32 1)) HGB.out)
    clear HD3 HS3 HM3 HK3 HB3 hv1 f1
    generalize w3.setCell ⟨gd, 10, none⟩ (.int .u32 1) = W4 at *
    generalize cs3.set 10 (.int .u32 1) = cs4 at *
    go_cut [] from 29 to 34 (fun wx => ∃ cs', DR wx gd g bb c (p + 32) cs' bs ∧ SameBut 6 29 cs cs' ∧ MagAt cs' 6 ∧ cs'[10]? = some (.int .u32 1) ∧ Keep (At gd) W4 wx)
    case first =>
      have hu16 : Tryz.prog.underlying 22 = some (.array 16 5) := by kernel_rfl
      go_region_held3 (fun _ => True) (trivial)
        (first
          | (refine step_cp (n := 16) (T := 122) (cur := cs4) (xs := B ((l.drop 8).take 16)) Tryz.underlying33 (by kernel_rfl) rfl _ _ rfl rfl rfl HD4.out.blk.drew (subR2 HB4.out.drew HLEN.out 8 16 _ (by decide)) (by decide) (by rw [HD4.out.len]; decide) (B_one _) ?_; intro w4 b4 k4))
      all_goals
        go_wp2_with fail
        go_meet
        case rel =>
          have hl16 : ((B ((l.drop 8).take 16)).take (min 16 16)).length = 16 := by simp [B_length, HLEN.out]
          have hk := k4.undrew
          refine ⟨_, HD4.out.spl b4 hk (by decide) (by rw [hl16]; decide), HS4.out.trans (SameBut.splice _ _ _ (by decide) (by rw [hl16]; decide) (by rw [HD4.out.len, hl16]; decide)), HM4.out.splice _ _ (by omega) (by rw [HD4.out.len, hl16]; decide), ?_, hk⟩
          rw [splice_out _ _ _ _ (by omega) (by rw [HD4.out.len, hl16]; decide)]
          exact HV4.out
    case rest =>
      obtain ⟨cs5, hD5, hS5, hM5, hv5, k5⟩ := hcut
      have HD5 := Lib.hid hD5
      have HS5 := Lib.hid hS5
      have HM5 := Lib.hid hM5
      have HV5 := Lib.hid hv5
      have HK5 := Lib.hid (HK4.out.trans' k5)
      have HB5 := Lib.hid (HB4.out.keep k5 HGB.out)
      clear hD5 hS5 hM5 hv5 k5
      have x24 : wc.cell? ⟨gb, 24, none⟩ = some (.int .u8 (fl : Int)) := cell_of HB5.out T24.out
      have x25 : wc.cell? ⟨gb, 25, none⟩ = some (.int .u8 0) := cell_of HB5.out T25.out
      obtain ⟨v1, hv1⟩ := HD5.out.at 27 (by decide)
      obtain ⟨v2, hv2⟩ := HD5.out.at 28 (by decide)
      have f1 := HD5.out.blk.free 27
      have f2 := HD5.out.blk.free 28
      go_wp2_with fail
      go_ret
      have hl5 := HD5.out.len
      exact ⟨rfl, _, (HD5.out.set 27 (.int .u8 fl) (by decide)).set 28 (.bool false) (by decide), (HS5.out.trans (SameBut.set _ _ _ (by decide) (by decide))).trans (SameBut.set _ _ _ (by decide) (by decide)), (HM5.out.set 27 _ (by decide)).set 28 _ (by decide), by simpa using HV5.out, by simp [hl5], by simp [hl5], HK2.out.trans ((HK5.out.setAt _ _ _ (atSelf _)).setAt _ _ _ (atSelf _)) (fun i hi e => .inr e)⟩
end Go.Proofs.YtcpegoofbenoiaaGreatDoor
