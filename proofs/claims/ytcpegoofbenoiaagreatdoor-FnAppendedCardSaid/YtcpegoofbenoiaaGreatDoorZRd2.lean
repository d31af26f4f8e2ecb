/-
  CONTRACTS: numbers through the reader of counters; what a function's payload holds.
-/
import Derived.Test.YtcpegoofbenoiaaGreatDoorZRd1
import Derived.Test.YtcpegoofbenoiaaGreatDoorZNu
namespace Go.Proofs.YtcpegoofbenoiaaGreatDoor
open Go.RowKit
open Go.ChangeShapes Go.WideShapes Go.ChangeAt Go.Deep
open Plain (M64)

/-- Behind a number. -/
def NumC (gd g bb c p bu b8 fl nseg fc sc : Nat) (cs : List Value) (bs : List UInt8) (x : Nat) (w : World) (e : Ending) (w' : World) : Prop :=
  e = .returned (.tuple #[.int .u32 x, .nilIface]) ∧ CD w' gd g bb c p bu b8 fl nseg fc sc cs bs ∧ Keep (fun i => i = g ∨ i = b8 ∨ i = bu) w w'
section
variable {w w' : World} {gd g bb c p p' bu b8 fl nseg fc sc b2 x : Nat} {cs cs' : List Value} {bs r : List UInt8}
theorem CD.bx {cs' : List Value} (h : CD w gd g bb c p bu b8 fl nseg fc sc cs bs) (hb : Blk w b2 cs' 68) : ¬ (b2 = g ∨ b2 = b8 ∨ b2 = bu) ∧ b2 ≠ gd := by
  obtain ⟨_, _, hu⟩ := h.mu
  obtain ⟨_, _, h8⟩ := h.m8
  refine ⟨fun e => ?_, hb.ne h.d.blk (by decide)⟩
  rcases e with e | e | e
  · exact hb.ne h.d.rd.blk (by decide) e
  · exact hb.ne h8 (by decide) e
  · exact hb.ne hu (by decide) e
theorem numC1 (h : CD w gd g bb c p bu b8 fl nseg fc sc cs bs) (hb : Blk w b2 [.pointer (some ⟨gd, 0, none⟩)] 68) (hx : x < 4294967296) (hl : bs.length ≤ 1000000) (hp : bs.drop p = numB true x ++ r) :
    Calls Tryz.prog 50 #[.pointer (some ⟨b2, 0, none⟩)] w (NumC gd g bb c (p + (numB true x).length) bu b8 fl nseg fc sc cs bs x w) := by
  obtain ⟨n1, n2, n3, n4, n5⟩ := h.nn
  refine (num1T b2 gd g bb c p b8 x bs r w hb h.d.x5 (cell_of h.d.blk h.c52) h.d.rd h.m8 h.n8 n1 n2 hx hl hp).mono ?_
  rintro e w' ⟨rfl, r2, m2, k2⟩
  obtain ⟨us, hu1, hu⟩ := h.mu
  have k3 : Keep (fun i => i = g ∨ i = b8 ∨ i = bu) w w' := k2.mono (fun i _ e => by rcases e with e | e; exact .inl e; exact .inr (.inl e))
  exact ⟨rfl, ⟨h.d.move2 k2 (fun e => by rcases e with e | e; exact n1 e; exact n2 e) r2, h.c51, h.c52, ⟨us, hu1, hu.keep k2 (fun e => by rcases e with e | e; exact n5 e; exact h.ne e)⟩, m2, h.c27, h.c28, h.c43, h.c53, h.c54, h.ne, h.nu, h.n8⟩, k3⟩
theorem numC3 (h : CD w gd g bb c p bu b8 fl nseg fc sc cs bs) (hb : Blk w b2 [.pointer (some ⟨gd, 0, none⟩)] 68) (hx : x < 4294967296) (hl : bs.length ≤ 1000000) (hp : bs.drop p = numB false x ++ r) :
    Calls Tryz.prog 53 #[.pointer (some ⟨b2, 0, none⟩)] w (NumC gd g bb c (p + (numB false x).length) bu b8 fl nseg fc sc cs bs x w) := by
  obtain ⟨n1, n2, n3, n4, n5⟩ := h.nn
  have e4 : (numB false x).length = 4 := leb_length _ _
  rw [e4]
  refine (num3T b2 gd g bb c p bu x bs r w hb h.d.x5 (cell_of h.d.blk h.c51) h.d.rd h.mu h.nu n1 n3 hx hl hp).mono ?_
  rintro e w' ⟨rfl, r2, m2, k2⟩
  obtain ⟨us, hu1, hu⟩ := h.m8
  have k3 : Keep (fun i => i = g ∨ i = b8 ∨ i = bu) w w' := k2.mono (fun i _ e => by rcases e with e | e; exact .inl e; exact .inr (.inr e))
  exact ⟨rfl, ⟨h.d.move2 k2 (fun e => by rcases e with e | e; exact n1 e; exact n3 e) r2, h.c51, h.c52, m2, ⟨us, hu1, hu.keep k2 (fun e => by rcases e with e | e; exact n4 e; exact h.ne (Eq.symm e))⟩, h.c27, h.c28, h.c43, h.c53, h.c54, h.ne, h.nu, h.n8⟩, k3⟩
end
/-- A payload: its three cells, its counters' slice. -/
structure Pay (w : World) (gp n0 a b : Nat) (v : Value) (m : Nat) (xs : List Value) : Prop where
  blk : Blk w gp [.int .u32 a, .int .u32 b, v] 79
  row : Row w 36 1 v m xs
  own : ∀ b, v.ownBlock = some b → n0 ≤ b
  le : n0 ≤ gp
section
variable {w w' : World} {gp n0 a b m : Nat} {v : Value} {xs : List Value}
theorem Pay.keep {S : Nat → Prop} (h : Pay w gp n0 a b v m xs) (k : Keep S w w') (h1 : ¬ S gp) (h2 : ∀ b, v.ownBlock = some b → ¬ S b) : Pay w' gp n0 a b v m xs := ⟨h.blk.keep k h1, h.row.keep k h2, h.own, h.le⟩
theorem Pay.low {S : Nat → Prop} (h : Pay w gp n0 a b v m xs) (k : Keep S w w') (hS : ∀ i, S i → i < n0) : Pay w' gp n0 a b v m xs :=
  h.keep k (fun e => by have := hS _ e; have := h.le; omega) (fun b hb e => by have := hS _ e; have := h.own b hb; omega)
theorem Pay.ne (h : Pay w gp n0 a b v m xs) : v.ownBlock ≠ some gp := fun e => h.row.neBlk h.blk (by decide) e
theorem Pay.set0 (h : Pay w gp n0 a b v m xs) (x : Nat) : Pay (w.setCell ⟨gp, 0, none⟩ (.int .u32 x)) gp n0 x b v m xs := ⟨h.blk.set 0 _, h.row.setOther h.ne 0 _, h.own, h.le⟩
theorem Pay.set1 (h : Pay w gp n0 a b v m xs) (x : Nat) : Pay (w.setCell ⟨gp, 1, none⟩ (.int .u32 x)) gp n0 a x v m xs := ⟨h.blk.set 1 _, h.row.setOther h.ne 1 _, h.own, h.le⟩
/-- Another slice is stored. -/
theorem Pay.set2 {v' : Value} {m' : Nat} {xs' : List Value} (h : Blk w gp [.int .u32 a, .int .u32 b, v] 79) (hr : Row w 36 1 v' m' xs') (ho : ∀ b, v'.ownBlock = some b → n0 ≤ b) (hle : n0 ≤ gp) : Pay (w.setCell ⟨gp, 2, none⟩ v') gp n0 a b v' m' xs' :=
  ⟨h.set 2 _, hr.setOther (fun e => hr.neBlk h (by decide) e) 2 _, ho, hle⟩
theorem Pay.x0 (h : Pay w gp n0 a b v m xs) : w.cell? ⟨gp, 0, none⟩ = some (.int .u32 a) := cell_of h.blk rfl
theorem Pay.x1 (h : Pay w gp n0 a b v m xs) : w.cell? ⟨gp, 1, none⟩ = some (.int .u32 b) := cell_of h.blk rfl
theorem Pay.x2 (h : Pay w gp n0 a b v m xs) : w.cell? ⟨gp, 2, none⟩ = some v := cell_of h.blk rfl
end
theorem Row.shape2 {w : World} {e : TypeId} {size : Nat} {v : Value} {n : Nat} {xs : List Value} (h : Row w e size v n xs) : (v = .slice none 0 0 ∧ n = 0) ∨ ∃ g cap, v = .slice (some ⟨g, 0, none⟩) n cap ∧ n ≤ cap ∧ cap ≤ maxLen := by
  rcases h.2 with ⟨rfl, rfl⟩ | ⟨g, cap, cur, rfl, _, _, h1, h2, _⟩
  · exact .inl ⟨rfl, rfl⟩
  · exact .inr ⟨g, cap, rfl, h1, h2⟩
def capOf : Value → Nat
  | .slice _ _ c => c
  | _ => 0
/-- Blocks below a bound that the reader holds. -/
structure Low (n0 gd g bb bu b8 : Nat) : Prop where
  d : gd < n0
  g : g < n0
  b : bb < n0
  u : bu < n0
  e : b8 < n0
/-- Behind NextFunc, when there is one more. -/
def NextPost (f : Fc) (gd g bb c p bu b8 fl nseg fc sc gp n0 : Nat) (cs : List Value) (bs : List UInt8) (v : Value) (w : World) (e : Ending) (w' : World) : Prop :=
  ∃ v', e = .returned (.tuple #[.bool true, .nilIface]) ∧ CD w' gd g bb c p bu b8 fl nseg fc sc cs bs ∧ Pay w' gp n0 f.pkg f.fn v' f.cs.length (U32 f.cs) ∧ (∀ b, v'.ownBlock = some b → v.ownBlock = some b ∨ w.heap.size ≤ b) ∧
    Keep (fun i => i = g ∨ i = gd ∨ i = b8 ∨ i = bu ∨ i = gp ∨ v.ownBlock = some i) w w'
def U1024 : Obj := .cells (madeCells #[.int .u32 0] 1024) 36
theorem mk1024 (W : World) : (Instr.makeSlice 49 (.int .i64 0) (.int .i64 1024)).run Tryz.prog W = .ok (.slice (some ⟨W.heap.size, 0, none⟩) 0 1024) (W.alloc U1024) := by
  obtain ⟨i, hi, hz, hsz, hb⟩ := info_parts sliceU32.row
  have := run_make (P := Tryz.prog) W 49 36 i (.int .u32 0) sliceU32.und hi hz .i64 .i64 0 1024 (by decide) (by decide) (by rw [hb]; decide) (by decide)
  rw [hsz] at this
  exact this
theorem made1024 (W : World) : Row (W.alloc U1024) 36 1 (.slice (some ⟨W.heap.size, 0, none⟩) 0 1024) 0 [] := World.ownsRow_made W _ 1024 (Nat.zero_le _) (by unfold maxLen; decide) (size_madeCells _ _)
theorem fcB_cons (packed : Bool) (f : Fc) (r : List UInt8) : fcB packed f ++ r = numB packed f.cs.length ++ (numB packed f.pkg ++ (numB packed f.fn ++ (f.cs.flatMap (numB packed) ++ r))) := by
  simp only [fcB, List.append_assoc]
theorem drop_num {bs a r : List UInt8} {p : Nat} (h : bs.drop p = a ++ r) : bs.drop (p + a.length) = r := by
  rw [← List.drop_drop, h, List.drop_left]
theorem flat_step (packed : Bool) (l : List Nat) (k : Nat) (h : k < l.length) (r : List UInt8) : (l.drop k).flatMap (numB packed) ++ r = numB packed l[k] ++ ((l.drop (k + 1)).flatMap (numB packed) ++ r) := by
  rw [List.drop_eq_getElem_cons h, List.flatMap_cons, List.append_assoc]
theorem flat_take (packed : Bool) (l : List Nat) (k : Nat) (h : k < l.length) : ((l.take (k + 1)).flatMap (numB packed)).length = ((l.take k).flatMap (numB packed)).length + (numB packed l[k]).length := by
  rw [List.take_succ_eq_append_getElem h, List.flatMap_append, List.length_append]
  simp
set_option maxRecDepth 100000 in
set_option maxHeartbeats 8000000 in
/-- No more. -/
theorem doneT (gd g bb c p bu b8 fl nseg fc sc fe : Nat) (cs : List Value) (bs : List UInt8) (pp : Value) (w : World) (h : CD w gd g bb c p bu b8 fl nseg fc sc cs bs) (h48 : cs[48]? = some (.int .u64 fe)) (hfc : fe ≤ fc) (hfe : fe ≤ 1000) :
    Calls Tryz.prog 30 #[.pointer (some ⟨gd, 0, none⟩), pp] w fun e w' => e = .returned (.tuple #[.bool false, .nilIface]) ∧ Keep Non w w' := by
  have hw := wrap32 fe (by omega)
  have hle : (fe : Int) ≤ (fc : Int) := by omega
  obtain ⟨W1, hW1⟩ : ∃ W1, W1 = w.alloc (.cells #[.pointer (some ⟨gd, 0, none⟩)] 68) := ⟨_, rfl⟩
  have hb1 : Blk W1 w.heap.size [.pointer (some ⟨gd, 0, none⟩)] 68 := by rw [hW1]; exact Blk.new w [.pointer (some ⟨gd, 0, none⟩)] _
  have hk1 : Keep Non w W1 := by rw [hW1]; exact (Keep.refl _ _).alloc _
  have yb : W1.cell? ⟨w.heap.size, 0, none⟩ = some (.pointer (some ⟨gd, 0, none⟩)) := cell_of hb1 rfl
  have hC := h.far hk1
  have x53 := cell_of hC.d.blk hC.c53
  have x48 := cell_of hC.d.blk h48
  have HK := Lib.hid hk1
  clear h hC hb1 hk1
  go_enter Tryz.func30, Tryz.ntmps30
  go_upto_region 1 with (fail)
  rw [← hW1]
  clear hW1
  go_quiet (fail)
  go_wp2_with fail
  go_ret2
  exact ⟨rfl, HK.out.drewN nq⟩
end Go.Proofs.YtcpegoofbenoiaaGreatDoor
