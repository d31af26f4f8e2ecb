/-
  WHAT MEMORY HOLDS: words for proofs in which several objects live side by side. Nothing of the program is in sight.
-/
import Derived.WalkKit
import Derived.ProofKit
import Derived.Maps.AppendAt
import Derived.Laws.AppendOwnNone
import Derived.Laws.CopyOwn
import Derived.WalkSpells
import Derived.WalkLawsBesides
import Derived.Lib.Hide
import Derived.OpenShut
import Derived.Deep.Slices
import Derived.Deep.Fields
import Derived.ChangeSame
import Derived.Laws.Bits
import Derived.Laws.BitsAllLaws
import Derived.RowKit
import Derived.Lib.AppendZerosOnto
import Derived.Laws.OwnMore
import Derived.Deep.RegionLaw
import Derived.Deep.QuietTactic
import Derived.BigQuiet
import Derived.Lib.ConvBytes
import Derived.Deep.OwnRows
import Derived.Deep.MidRow
namespace Go.Proofs.YtcpegoofbenoiaaGreatDoor
open Go.RowKit

/-- But for the blocks of S, what was there is as it was; the streams are as they were; no block has gone. -/
structure Keep (S : Nat → Prop) (w w' : World) : Prop where
  os : w'.os = w.os
  tape : w'.tape = w.tape
  output : w'.output = w.output
  size : w.heap.size ≤ w'.heap.size
  block : ∀ k, k < w.heap.size → ¬ S k → w'.heap[k]? = w.heap[k]?

/-- No block. -/
def Non : Nat → Prop := fun _ => False
/-- The block of a slice's row. -/
def Own (v : Value) : Nat → Prop := fun k => v.ownBlock = some k
/-- One block. -/
def At (g : Nat) : Nat → Prop := fun k => k = g

theorem atSelf (g : Nat) : At g g := rfl
theorem Keep.refl (S : Nat → Prop) (w : World) : Keep S w w := ⟨rfl, rfl, rfl, Nat.le_refl _, fun _ _ _ => rfl⟩
theorem Keep.trans {S S' : Nat → Prop} {a b c : World} (h : Keep S a b) (k : Keep S' b c) (hs : ∀ i, i < a.heap.size → S' i → S i) : Keep S a c :=
  ⟨k.os.trans h.os, k.tape.trans h.tape, k.output.trans h.output, Nat.le_trans h.size k.size,
    fun i hi hn => (k.block i (Nat.lt_of_lt_of_le hi h.size) (fun e => hn (hs i hi e))).trans (h.block i hi hn)⟩
theorem Keep.trans' {S : Nat → Prop} {a b c : World} (h : Keep S a b) (k : Keep S b c) : Keep S a c := h.trans k fun _ _ h => h
theorem Keep.mono {S S' : Nat → Prop} {a b : World} (h : Keep S a b) (hs : ∀ i, i < a.heap.size → S i → S' i) : Keep S' a b :=
  ⟨h.os, h.tape, h.output, h.size, fun i hi hn => h.block i hi (fun e => hn (hs i hi e))⟩
theorem Keep.drew {S : Nat → Prop} {a w : World} (h : Keep S a w) : Keep S a w.drew := ⟨h.os, h.tape, h.output, h.size, h.block⟩
theorem Keep.drewN {S : Nat → Prop} {a w : World} (h : Keep S a w) (n : Nat) : Keep S a (w.drewN n) := h.trans' ⟨rfl, rfl, rfl, Nat.le_refl _, fun _ _ _ => rfl⟩
theorem Keep.alloc {S : Nat → Prop} {a w : World} (h : Keep S a w) (o : Obj) : Keep S a (w.alloc o) :=
  h.trans' ⟨rfl, rfl, rfl, by simp, fun k hk _ => Below.heap_alloc _ _ _ hk⟩
theorem Keep.setCell {S : Nat → Prop} {a w : World} (h : Keep S a w) {p : Addr} (hp : p.block < a.heap.size → S p.block) (u : Value) : Keep S a (w.setCell p u) :=
  ⟨h.os, h.tape, h.output, by simpa [World.setCell] using h.size, fun k hk hn => by
    rw [Below.heap_setCell _ _ _ _ (fun e => by subst e; exact hn (hp hk))]; exact h.block k hk hn⟩
theorem Keep.setAt {S : Nat → Prop} {a w : World} (h : Keep S a w) (g o : Nat) (u : Value) (hg : S g) : Keep S a (w.setCell ⟨g, o, none⟩ u) := h.setCell (fun _ => hg) u
theorem Keep.one (w : World) (g o : Nat) (u : Value) : Keep (At g) w (w.setCell ⟨g, o, none⟩ u) := (Keep.refl _ _).setAt g o u rfl
theorem Keep.of_grown {w w' : World} {row : Option Nat} (h : w.grownBy w' row) : Keep (fun k => row = some k) w w' :=
  ⟨h.os, h.tape, h.output, h.size, fun k hk hn => h.block k hk (fun e => hn e.symm)⟩
theorem Keep.grown {S : Nat → Prop} {a w w' : World} {row : Option Nat} (h : Keep S a w) (hg : w.grownBy w' row) (hr : ∀ k, k < a.heap.size → row = some k → S k) : Keep S a w' :=
  h.trans (Keep.of_grown hg) hr
theorem Keep.of_below {B : Nat} {w w' : World} (h : Below B w w') : Keep (fun k => B ≤ k) w w' :=
  ⟨h.os, h.tape, h.output, h.size, fun k _ hn => h.block k (by omega)⟩
theorem Keep.below {S : Nat → Prop} {w w' : World} (h : Keep S w w') {B : Nat} (hB : B ≤ w.heap.size) (hs : ∀ k, k < w.heap.size → S k → B ≤ k) : Below B w w' :=
  ⟨h.os, h.tape, h.output, h.size, fun k hk => h.block k (by omega) (fun e => by have := hs k (by omega) e; omega)⟩
theorem Below.keep {B : Nat} {S : Nat → Prop} {a w w' : World} (h : Below B a w) (k : Keep S w w') (hs : ∀ i, S i → B ≤ i) (hB : B ≤ w.heap.size) : Below B a w' :=
  h.trans (k.below hB fun i _ e => hs i e)
theorem Keep.cell {S : Nat → Prop} {w w' : World} (h : Keep S w w') {p : Addr} {v : Value} (hc : w.cell? p = some v) (hp : ¬ S p.block) : w'.cell? p = some v :=
  (World.cell?_of_block (h.block p.block (World.block_lt_of_cell? w p hc) hp)).trans hc

/-! ### A block known whole -/
def Blk (w : World) (g : Nat) (cs : List Value) (T : TypeId) : Prop := w.heap[g]? = some (.cells cs.toArray T (0, 0))
theorem Blk.lt {w : World} {g : Nat} {cs : List Value} {T : TypeId} (h : Blk w g cs T) : g < w.heap.size := (Array.getElem?_eq_some_iff.1 h).1
theorem Blk.cell {w : World} {g : Nat} {cs : List Value} {T : TypeId} (h : Blk w g cs T) (i : Nat) : w.cell? ⟨g, i, none⟩ = cs[i]? := by
  rw [cell_of_row w g i cs.toArray T (0, 0) h]; simp
theorem Blk.free {w : World} {g : Nat} {cs : List Value} {T : TypeId} (h : Blk w g cs T) (i : Nat) : w.frozen? ⟨g, i, none⟩ = false := frozen_of_row w g i cs.toArray T h
theorem Blk.set {w : World} {g : Nat} {cs : List Value} {T : TypeId} (h : Blk w g cs T) (i : Nat) (v : Value) : Blk (w.setCell ⟨g, i, none⟩ v) g (cs.set i v) T := by
  have := heap_setCell_same w g i cs.toArray T v h
  unfold Blk
  rw [this]; simp
theorem Blk.setOther {w : World} {g : Nat} {cs : List Value} {T : TypeId} (h : Blk w g cs T) {p : Addr} (hp : g ≠ p.block) (v : Value) : Blk (w.setCell p v) g cs T := by
  unfold Blk
  rw [heap_setCell_other _ _ _ _ hp]; exact h
theorem Blk.alloc {w : World} {g : Nat} {cs : List Value} {T : TypeId} (h : Blk w g cs T) (o : Obj) : Blk (w.alloc o) g cs T := by
  unfold Blk
  rw [Below.heap_alloc _ _ _ h.lt]; exact h
theorem Blk.new (w : World) (cs : List Value) (T : TypeId) : Blk (w.alloc (.cells cs.toArray T)) w.heap.size cs T := heap_alloc_new w _
theorem Blk.keep {S : Nat → Prop} {w w' : World} {g : Nat} {cs : List Value} {T : TypeId} (h : Blk w g cs T) (k : Keep S w w') (hg : ¬ S g) : Blk w' g cs T :=
  (k.block g h.lt hg).trans h
theorem Blk.drew {w : World} {g : Nat} {cs : List Value} {T : TypeId} (h : Blk w g cs T) : Blk w.drew g cs T := h

/-! ### A slice that the call itself owns -/
/-- The slice v, of n elements of type e ('size' cells each), owns the cells xs. -/
def Row (w : World) (e : TypeId) (size : Nat) (v : Value) (n : Nat) (xs : List Value) : Prop := w.ownsRow 0 e size v n xs
theorem Row.nil (w : World) (e : TypeId) (size : Nat) : Row w e size (.slice none 0 0) 0 [] := World.ownsRow_nil _ _ _ _
theorem Row.keep {S : Nat → Prop} {w w' : World} {e : TypeId} {size : Nat} {v : Value} {n : Nat} {xs : List Value} (h : Row w e size v n xs) (k : Keep S w w') (hs : ∀ g, v.ownBlock = some g → ¬ S g) : Row w' e size v n xs := by
  refine ⟨h.1, ?_⟩
  rcases h.2 with hn | ⟨g, cap, cur, rfl, hb, hg, r⟩
  · exact .inl hn
  · refine .inr ⟨g, cap, cur, rfl, hb, ?_, r⟩
    rw [k.block g (Array.getElem?_eq_some_iff.1 hg).1 (hs g rfl)]; exact hg
theorem Row.lt {w : World} {e : TypeId} {size : Nat} {v : Value} {n : Nat} {xs : List Value} (h : Row w e size v n xs) {g : Nat} (hg : v.ownBlock = some g) : g < w.heap.size := (World.ownsRow.lt h g hg).2
theorem Row.alloc {w : World} {e : TypeId} {size : Nat} {v : Value} {n : Nat} {xs : List Value} (h : Row w e size v n xs) (o : Obj) : Row (w.alloc o) e size v n xs := World.ownsRow.alloc h o
theorem Row.len {w : World} {e : TypeId} {size : Nat} {v : Value} {n : Nat} {xs : List Value} (h : Row w e size v n xs) : xs.length = n * size := h.1
theorem Row.shape {w : World} {e : TypeId} {size : Nat} {v : Value} {n : Nat} {xs : List Value} (h : Row w e size v n xs) :
    (v = .slice none 0 0 ∧ n = 0) ∨ ∃ g cap, v = .slice (some ⟨g, 0, none⟩) n cap ∧ n ≤ cap := by
  rcases h.2 with hn | ⟨g, cap, cur, rfl, _, _, hc, _⟩
  · exact .inl hn
  · exact .inr ⟨g, cap, rfl, hc⟩
/-- A slice literal, or what a make has laid. -/
theorem Row.lit (w : World) (e : TypeId) (size : Nat) (cs : List Value) (n : Nat) (hm : n ≤ maxLen) (hs : cs.length = n * size) :
    Row (w.alloc (.cells cs.toArray e)) e size (.slice (some ⟨w.heap.size, 0, none⟩) n n) n cs := by
  have := World.ownsRow_lit (size := size) (base := 0) (e := e) w cs.toArray n (Nat.zero_le _) hm (by simpa using hs)
  simpa [Row] using this
/-- v[:0]. -/
theorem Row.zero {w : World} {e : TypeId} {size : Nat} {g n cap : Nat} {xs : List Value} (h : Row w e size (.slice (some ⟨g, 0, none⟩) n cap) n xs) :
    Row w e size (.slice (some ⟨g, 0, none⟩) 0 cap) 0 [] := by
  refine ⟨by simp, ?_⟩
  rcases h.2 with ⟨h', _⟩ | ⟨g', cap', cur, h', hb, hg, hn, hm, hs, _⟩
  · simp at h'
  · simp only [Value.slice.injEq, Option.some.injEq, Addr.mk.injEq, and_true, true_and] at h'
    obtain ⟨rfl, rfl⟩ := h'
    exact .inr ⟨g, cap, cur, rfl, hb, hg, Nat.zero_le _, hm, hs, by simp⟩

/-! ### What a slice reads as, wherever it lies -/
/-- The slice v has n elements, of 'size' cells each, and these cells are xs. -/
def Reads (w : World) (size : Nat) (v : Value) (n : Nat) (xs : List Value) : Prop :=
  xs.length = n * size ∧ ((v = .slice none 0 0 ∧ n = 0) ∨ ∃ ad c, v = .slice (some ad) n c ∧ ∀ j u, xs[j]? = some u → w.cell? (ad.add j) = some u)
theorem Row.reads {w : World} {e : TypeId} {size : Nat} {v : Value} {n : Nat} {xs : List Value} (h : Row w e size v n xs) : Reads w size v n xs := by
  refine ⟨h.1, ?_⟩
  rcases h.2 with ⟨rfl, rfl⟩ | ⟨g, cap, cur, rfl, r⟩
  · exact .inl ⟨rfl, rfl⟩
  · exact .inr ⟨_, cap, rfl, fun j u hj => World.ownsRow.cells h (g := g) rfl j u hj⟩
theorem Reads.keep {S : Nat → Prop} {w w' : World} {size : Nat} {v : Value} {n : Nat} {xs : List Value} (h : Reads w size v n xs) (k : Keep S w w') (hs : ∀ g, v.ownBlock = some g → ¬ S g) : Reads w' size v n xs := by
  obtain ⟨hl, h | ⟨ad, c, rfl, hc⟩⟩ := h
  · exact ⟨hl, .inl h⟩
  · refine ⟨hl, .inr ⟨ad, c, rfl, fun j u hj => k.cell (hc j u hj) ?_⟩⟩
    have : (ad.add j).block = ad.block := by unfold Addr.add; split <;> rfl
    rw [this]
    exact hs _ rfl
theorem Reads.alloc {w : World} {size : Nat} {v : Value} {n : Nat} {xs : List Value} (h : Reads w size v n xs) (o : Obj) : Reads (w.alloc o) size v n xs :=
  h.keep (S := Non) ((Keep.refl _ _).alloc o) fun _ _ h => h
theorem Reads.drew {w : World} {size : Nat} {v : Value} {n : Nat} {xs : List Value} (h : Reads w size v n xs) : Reads w.drew size v n xs := h
theorem Row.drew {w : World} {e : TypeId} {size : Nat} {v : Value} {n : Nat} {xs : List Value} (h : Row w e size v n xs) : Row w.drew e size v n xs := h
theorem Reads.one (w : World) (u : Value) (T : TypeId) : Reads (w.alloc (.cells #[u] T)) 1 (.slice (some ⟨w.heap.size, 0, none⟩) 1 1) 1 [u] :=
  ⟨rfl, .inr ⟨_, 1, rfl, cell_one_new _ _ _⟩⟩

/-- Where there is an element the slice has an address. -/
theorem Reads.at {w : World} {size : Nat} {v : Value} {n : Nat} {xs : List Value} (h : Reads w size v n xs) (hn : 0 < n) (hs : 0 < size) :
    ∃ b off c, v = .slice (some ⟨b, off, none⟩) n c ∧ ∀ j u, xs[j]? = some u → w.cell? ⟨b, off + j, none⟩ = some u := by
  obtain ⟨hl, ⟨_, h0⟩ | ⟨⟨b, off, spot⟩, c, rfl, hc⟩⟩ := h
  · omega
  · have h0 : 0 < xs.length := by rw [hl]; exact Nat.mul_pos hn hs
    have hs := World.cell?_spot (hc 0 _ (List.getElem?_eq_getElem h0))
    simp [Addr.add] at hs
    subst hs
    refine ⟨b, off, c, rfl, fun j u hj => ?_⟩
    have := hc j u hj
    unfold Addr.add at this
    split at this
    · rename_i h; subst h; exact this
    · exact this
theorem Reads.slice {w : World} {size : Nat} {v : Value} {n : Nat} {xs : List Value} (h : Reads w size v n xs) : ∃ a c, v = .slice a n c := by
  obtain ⟨_, ⟨h, h0⟩ | ⟨ad, c, h, _⟩⟩ := h
  · exact ⟨none, 0, by rw [h, h0]⟩
  · exact ⟨_, _, h⟩
/-- A row that is not empty: its address, and its cells. -/
theorem Row.at {w : World} {e : TypeId} {size : Nat} {v : Value} {n : Nat} {xs : List Value} (h : Row w e size v n xs) (hn : 0 < n) :
    ∃ g c, v = .slice (some ⟨g, 0, none⟩) n c := by
  rcases h.shape with ⟨_, h0⟩ | ⟨g, c, h, _⟩
  · omega
  · exact ⟨g, c, h⟩
theorem Row.cell {w : World} {e : TypeId} {size : Nat} {n : Nat} {xs : List Value} {g c : Nat} (h : Row w e size (.slice (some ⟨g, 0, none⟩) n c) n xs) (j : Nat) (hj : j < n * size) : w.cell? ⟨g, j, none⟩ = xs[j]? :=
  World.ownsRow.cellAt h j hj
theorem Row.free {w : World} {e : TypeId} {size : Nat} {n : Nat} {xs : List Value} {g c : Nat} (h : Row w e size (.slice (some ⟨g, 0, none⟩) n c) n xs) (j : Nat) : w.frozen? ⟨g, j, none⟩ = false :=
  World.ownsRow.frozenAt h j
theorem Row.store {w : World} {e : TypeId} {size : Nat} {n : Nat} {xs : List Value} {g c : Nat} (h : Row w e size (.slice (some ⟨g, 0, none⟩) n c) n xs) (j : Nat) (u : Value) :
    Row (w.setCell ⟨g, j, none⟩ u) e size (.slice (some ⟨g, 0, none⟩) n c) n (xs.set j u) := (World.ownsRow.stored h j u).1
/-- A row of cells of one type is no row of cells of another. -/
theorem Row.ne {w : World} {e e' : TypeId} {size size' : Nat} {v v' : Value} {n n' : Nat} {xs xs' : List Value} (h : Row w e size v n xs) (h' : Row w e' size' v' n' xs') (he : e ≠ e') {g : Nat} (hg : v.ownBlock = some g) (hg' : v'.ownBlock = some g) : False := by
  rcases h.2 with ⟨rfl, _⟩ | ⟨a, _, _, rfl, _, ha, _⟩
  · simp [Value.ownBlock] at hg
  · rcases h'.2 with ⟨rfl, _⟩ | ⟨b, _, _, rfl, _, hb, _⟩
    · simp [Value.ownBlock] at hg'
    · simp [Value.ownBlock] at hg hg'
      subst hg; subst hg'
      rw [ha] at hb
      simp at hb
      exact he hb.2
theorem Row.neBlk {w : World} {e T : TypeId} {size : Nat} {v : Value} {n : Nat} {xs cs : List Value} (h : Row w e size v n xs) {g : Nat} (h' : Blk w g cs T) (he : e ≠ T) (hg : v.ownBlock = some g) : False := by
  rcases h.2 with ⟨rfl, _⟩ | ⟨a, _, _, rfl, _, ha, _⟩
  · simp [Value.ownBlock] at hg
  · simp [Value.ownBlock] at hg
    subst hg
    rw [Blk, ha] at h'
    simp at h'
    exact he h'.2

/-! ### The numbers of a type's row in the table -/
/-- t is a slice type; its elements are of type e, with zero value z, 'size' cells and 'bytes' bytes. -/
structure SliceT (P : Program) (t e : TypeId) (z : Value) (size bytes : Nat) : Prop where
  und : P.underlying t = some (.slice e)
  row : (P.info? e).map (fun i => (i.zero, i.size, i.bytes)) = some (some z, size, bytes)
  zs : z.cells.size = size
  pos : 0 < size

/-- What an append has done: the new slice lies where the old one did, or in a new block. -/
structure Grew (w w' : World) (v v' : Value) : Prop where
  grown : w.grownBy w' v.ownBlock
  loc : v'.ownBlock = v.ownBlock ∨ v'.ownBlock = some w.heap.size
theorem Grew.keep {w w' : World} {v v' : Value} (h : Grew w w' v v') : Keep (Own v) w w' := Keep.of_grown h.grown
theorem Grew.lies {w w' : World} {v v' : Value} (h : Grew w w' v v') {g : Nat} (hg : v'.ownBlock = some g) : v.ownBlock = some g ∨ g = w.heap.size := by
  rcases h.loc with h | h
  · exact .inl (h ▸ hg)
  · rw [h] at hg; simp at hg; exact .inr hg.symm

theorem wpList_app {P : Program} {w : World} {t e : TypeId} {z : Value} {size bytes : Nat} (T : SliceT P t e z size bytes)
    {ops : Array Oper} {rest : List Oper} {o : Oper} {a : Act} {Q : Exit → Act → World → Prop} (hgd : o.guard = none) (s x : Operand)
    (ho : o.op = .call { callee := .builtin .append, args := #[s, x], argTypes := #[t, t] })
    {v : Value} {n : Nat} {xs : List Value} (hs : a.eval s = v) (hown : Row w e size v n xs)
    {xv : Value} {m : Nat} {news : List Value} (hx : a.eval x = xv) (hr : Reads w size xv m news) (h1 : ∀ u ∈ news, u.oneCell' = true)
    (h63 : n + m ≤ maxLen) (hbytes : (n + m) * bytes ≤ 140737488355328)
    (h : ∀ v' w', Row w' e size v' (n + m) (xs ++ news) → Grew w w' v v' → (v' = .slice none 0 0 ↔ v = .slice none 0 0 ∧ m = 0) → wpList P ops Q rest (a.put o.dst v') w') :
    wpList P ops Q (o :: rest) a w := by
  obtain ⟨i, hi, hz, hsz, hb⟩ := info_parts T.row
  obtain ⟨hl, ⟨rfl, rfl⟩ | ⟨ad, c, rfl, hc⟩⟩ := hr
  · have hn : news = [] := List.eq_nil_of_length_eq_zero (by simpa using hl)
    subst hn
    refine wpList_append_own_none hgd s x t ho 0 e i size T.und hi v n xs hs hown hx ?_
    exact h v w (by simpa using hown) ⟨World.grownBy.refl _ _, .inl rfl⟩ (by simp)
  · exact wpList_append_own_at w hgd s x t ho 0 e i z size bytes T.und hi hz hsz hb T.zs T.pos v n xs hs hown ad m c news hx hl hc h1 h63 hbytes (Nat.zero_le _)
      fun v' w' h2 h3 h4 h5 => h v' w' h2 ⟨h3, h5⟩ h4

/-- What a call hands back that returns a slice in new memory and turns nothing else. -/
def Fresh (w : World) (e : TypeId) (size n : Nat) (xs : List Value) (en : Ending) (w' : World) : Prop :=
  ∃ v', en = .returned v' ∧ Row w' e size v' n xs ∧ Keep Non w w' ∧ (∀ g, v'.ownBlock = some g → w.heap.size ≤ g)

/-! ### Numbers of four bytes -/
def U32 (l : List Nat) : List Value := l.map fun b : Nat => .int .u32 (b : Int)
theorem U32_append (a b : List Nat) : U32 (a ++ b) = U32 a ++ U32 b := by simp [U32]
theorem U32_length (a : List Nat) : (U32 a).length = a.length := by simp [U32]
theorem U32_one (a : List Nat) : ∀ u ∈ U32 a, u.oneCell' = true := by
  intro u hu
  simp [U32] at hu
  obtain ⟨b, _, rfl⟩ := hu
  rfl
theorem U32_get (l : List Nat) (j : Nat) : (U32 l)[j]? = l[j]?.map fun b : Nat => Value.int .u32 (b : Int) := by simp [U32]
theorem U32_at {l : List Nat} {j : Nat} (h : j < l.length) : (U32 l)[j]? = some (Value.int .u32 ((l[j] : Nat) : Int)) := by
  rw [U32_get, List.getElem?_eq_getElem h]; rfl

/-! ### Bytes and strings -/
/-- Bytes as cells. -/
def B (l : List UInt8) : List Value := l.map fun b => .int .u8 (b.toNat : Int)
theorem B_append (a b : List UInt8) : B (a ++ b) = B a ++ B b := by simp [B]
theorem B_length (a : List UInt8) : (B a).length = a.length := by simp [B]
theorem B_one (a : List UInt8) : ∀ u ∈ B a, u.oneCell' = true := by
  intro u hu
  simp [B] at hu
  obtain ⟨b, _, rfl⟩ := hu
  rfl
theorem B_single (n : Nat) (h : n < 256) : B [UInt8.ofNat n] = [.int .u8 (n : Int)] := by
  simp [B]; omega
theorem B_get (l : List UInt8) (j : Nat) : (B l)[j]? = l[j]?.map fun b => Value.int .u8 (b.toNat : Int) := by simp [B]
/-- string(b). -/
theorem run_toString {P : Program} {w : World} {src dst e : TypeId} {v : Value} {n : Nat} {l : List UInt8} (hs : P.underlying src = some (.slice e)) (he : P.underlying e = some (.int .u8)) (hd : P.underlying dst = some .string)
    (h : Reads w 1 v n (B l)) : (convert src dst v).run P w = .ok (.string ⟨l.toArray⟩) w := by
  obtain ⟨hl, ⟨rfl, rfl⟩ | ⟨ad, c, rfl, hc⟩⟩ := h
  · have : l = [] := by simpa [B] using hl
    subst this
    exact run_convert_bytes_nil w src e hs he 0 0 dst hd
  · have hn : n = l.length := by rw [B_length] at hl; omega
    subst hn
    refine run_convert_bytes_back w src dst e ad c l hs he hd fun j hj => hc j _ ?_
    rw [B_get, List.getElem?_eq_getElem hj]; rfl
end Go.Proofs.YtcpegoofbenoiaaGreatDoor
/-
  HOW ARGUMENTS ARE OPENED: what a walk is told of a slice of integers that came in. Nothing of the program is in sight.
-/
namespace Go.Proofs.YtcpegoofbenoiaaGreatDoor
open Go.ChangeShapes Go.WideShapes Go.ChangeAt Go.RowKit

/-- The slice is nil; or it leads to a row of 'cap' cells, the numbers 'zs' (the first 'len' are its elements), each fitting its kind. -/
def IsRow (k : IntKind) (w : World) (a : Option Addr) (len cap : Nat) (zs : List Int) : Prop :=
  (a = none ∧ len = 0 ∧ cap = 0 ∧ zs = []) ∨
  ∃ x, a = some x ∧ len ≤ cap ∧ cap ≤ maxLen ∧ zs.length = cap ∧ (∀ i, i < zs.length → w.cell? (x.add i) = some (.int k (zs.getD i 0))) ∧ ∀ n ∈ zs, (Lit.int k n).wf = true

theorem isRow_open {H : Type} {enc : TypeId × Value → H} {P : Program} {W : World} {t e : TypeId} {k : IntKind} {a : Option Addr} {len cap : Nat} {d : DataW H} {ps : List MemPlace}
    (ht : P.underlying t = some (.slice e)) (he : P.underlying e = some (.int k)) (hc : P.cellsOf e = 1)
    (h : DataW.Trod enc P W 0 (fun _ => true) true t (.slice a len cap) d ps) : ∃ zs, IsRow k W a len cap zs := by
  obtain ⟨fuel, hf⟩ := h
  rcases open_ints ht he hc hf with ⟨hcs, _⟩ | ⟨x, l, c, zs, hcs, _, hl, hm, hz, _, hcell, hwz⟩
  · simp [Value.cells] at hcs
    obtain ⟨rfl, rfl, rfl⟩ := hcs
    exact ⟨[], .inl ⟨rfl, rfl, rfl, rfl⟩⟩
  · simp [Value.cells] at hcs
    obtain ⟨rfl, rfl, rfl⟩ := hcs
    exact ⟨zs, .inr ⟨_, rfl, hl, hm, by simpa using hz, hcell, hwz⟩⟩
/-- Bytes that came in. -/
theorem IsRow.bytes {w : World} {a : Option Addr} {len cap : Nat} {zs : List Int} (h : IsRow .u8 w a len cap zs) : ∃ l : List UInt8, l.length = len ∧ Reads w 1 (.slice a len cap) len (B l) := by
  rcases h with ⟨rfl, rfl, rfl, rfl⟩ | ⟨x, rfl, hl, hm, hz, hc, hw⟩
  · exact ⟨[], rfl, by simp [B], .inl ⟨rfl, rfl⟩⟩
  · refine ⟨(zs.take len).map fun z => UInt8.ofNat z.toNat, by simp; omega, by simp [B]; omega, .inr ⟨x, cap, rfl, fun j u hj => ?_⟩⟩
    have hjl : j < len := by
      have := (List.getElem?_eq_some_iff.1 hj).1
      simp [B] at this; omega
    have hjz : j < zs.length := by omega
    rw [hc j hjz]
    have hb := range_u8 hw j
    rw [B_get, List.getElem?_map, List.getElem?_take, if_pos hjl, List.getElem?_eq_getElem hjz] at hj
    rw [List.getElem?_eq_getElem hjz] at hb
    simp at hj hb
    subst hj
    rw [List.getD_eq_getElem?_getD, List.getElem?_eq_getElem hjz]
    simp
    omega
end Go.Proofs.YtcpegoofbenoiaaGreatDoor
/-
  HOW ARGUMENTS ARE OPENED, second part: slices of structs whose fields are of one cell each. Nothing of the program is in sight.
-/
namespace Go.Proofs.YtcpegoofbenoiaaGreatDoor
open Go.RowKit
open Go.ChangeShapes Go.WideShapes Go.ChangeAt Go.Deep

/-- One witness for each place: a list of them. -/
theorem list_of {α : Type} {Q : Nat → α → Prop} : ∀ n, (∀ i, i < n → ∃ s, Q i s) → ∃ l : List α, l.length = n ∧ ∀ i (h : i < l.length), Q i l[i]
  | 0, _ => ⟨[], rfl, fun i h => absurd h (by simp)⟩
  | n + 1, h => by
    obtain ⟨l, hl, hq⟩ := list_of n (fun i hi => h i (by omega))
    obtain ⟨s, hs⟩ := h n (by omega)
    refine ⟨l ++ [s], by simp [hl], fun i hi => ?_⟩
    by_cases e : i < l.length
    · rw [List.getElem_append_left e]; exact hq i e
    · have : i = n := by simp [hl] at hi; omega
      subst this
      rw [List.getElem_append_right (by omega)]
      simpa [hl] using hs

/-- The cells of a list of things, each of 'size' cells. -/
theorem flat_get {α : Type} {f : α → List Value} {size : Nat} (hf : ∀ s, (f s).length = size) : ∀ (l : List α) (i j : Nat) (hi : i < l.length), j < size → (l.flatMap f)[i * size + j]? = (f l[i])[j]?
  | [], i, j, hi, _ => absurd hi (by simp)
  | s :: l, 0, j, _, hj => by
    rw [List.flatMap_cons, List.getElem?_append_left (by rw [hf]; omega)]
    simp
  | s :: l, i + 1, j, hi, hj => by
    rw [List.flatMap_cons, List.getElem?_append_right (by rw [hf, Nat.add_mul]; omega)]
    have := flat_get hf l i j (by simpa using hi) hj
    rw [hf, show (i + 1) * size + j - size = i * size + j by rw [Nat.add_mul]; omega, this]
    simp
theorem flat_length {α : Type} {f : α → List Value} {size : Nat} (hf : ∀ s, (f s).length = size) (l : List α) : (l.flatMap f).length = l.length * size := by
  induction l with
  | nil => simp
  | cons s l ih => simp [ih, hf, Nat.add_mul]; omega

/-- Elements of 'size' cells each, one behind the other: what a slice of them reads as. -/
theorem reads_of {α : Type} {f : α → List Value} {size : Nat} {G : α → Prop} (hf : ∀ s, (f s).length = size) (hs : 0 < size) {w : World} {a : Option Addr} {len cap : Nat}
    (h : (a = none ∧ len = 0 ∧ cap = 0) ∨ ∃ ad, a = some ad ∧ ∀ i, i < len → ∃ s, G s ∧ ∀ j u, (f s)[j]? = some u → w.cell? (ad.add (i * size + j)) = some u) :
    ∃ l : List α, l.length = len ∧ Reads w size (.slice a len cap) len (l.flatMap f) ∧ ∀ s ∈ l, G s := by
  rcases h with ⟨rfl, rfl, rfl⟩ | ⟨ad, rfl, h⟩
  · exact ⟨[], rfl, ⟨by simp, .inl ⟨rfl, rfl⟩⟩, by simp⟩
  · obtain ⟨l, hl, hq⟩ := list_of len h
    refine ⟨l, hl, ⟨by rw [flat_length hf, hl], .inr ⟨ad, cap, rfl, fun j u hj => ?_⟩⟩, fun s hm => ?_⟩
    · have hjl : j < l.length * size := by rw [← flat_length hf]; exact (List.getElem?_eq_some_iff.1 hj).1
      have hi : j / size < l.length := by rw [Nat.div_lt_iff_lt_mul hs]; exact hjl
      have hd := Nat.div_add_mod j size
      rw [Nat.mul_comm] at hd
      have hm := Nat.mod_lt j hs
      have h2 := flat_get hf l (j / size) (j % size) hi hm
      rw [hd, hj] at h2
      have := (hq (j / size) hi).2 (j % size) u h2.symm
      rwa [hd] at this
    · obtain ⟨i, hi, rfl⟩ := List.getElem_of_mem hm
      exact (hq i hi).1

section
variable {H : Type} {enc : TypeId × Value → H} {P : Program} {w : World} {base : Nat} {spare : Nat → Bool} {held : Bool}
/-- A slice of structs that came in: for each element its cells, one a field, each with the field's own reading. -/
theorem structs_open {t e : TypeId} {fs : Array Field} {a : Option Addr} {len cap : Nat} {d : DataW H} {ps : List MemPlace} (ht : P.underlying t = some (.slice e)) (he : P.underlying e = some (.struct fs))
    (hone : oneCellFields P fs = true) (hC : P.cellsOf e = fs.size) (h : DataW.Trod enc P w base spare held t (.slice a len cap) d ps) :
    (a = none ∧ len = 0 ∧ cap = 0) ∨ ∃ ad, a = some ad ∧ len ≤ cap ∧ cap ≤ maxLen ∧ ∀ i, i < len → ∃ cs : List Value, cs.length = fs.size ∧ (∀ j u, cs[j]? = some u → w.cell? (ad.add (i * fs.size + j)) = some u) ∧
      ∀ (j : Nat) (f : Field), fs[j]? = some f → ∃ v y n, cs[j]? = some v ∧ DataW.trod enc P w base spare held n f.type [v] = some y := by
  obtain ⟨fuel, hf⟩ := h
  rcases open_slice ht hf with ⟨h0, _⟩ | ⟨ad, l, c, m, n, D, Pl, hcs, _, hl, hm, hmm, _, hi⟩
  · simp [Value.cells] at h0
    exact .inl h0
  · simp [Value.cells] at hcs
    obtain ⟨rfl, rfl, rfl⟩ := hcs
    refine .inr ⟨ad, rfl, hl, hm, fun i hil => ?_⟩
    have him : i < m := by rw [hmm]; split <;> omega
    obtain ⟨cs', hc, ht'⟩ := hi i him
    rw [hC] at hc
    obtain ⟨ys, n', _, _, hlen, hyl, hfd⟩ := DataW.trod_struct he ht'
    obtain ⟨_, hcl, hat⟩ := World.cells?_some hc
    refine ⟨cs', hcl, fun j u hj => ?_, fun j f hj => ?_⟩
    · have hjl : j < fs.size := by rw [← hcl]; exact (List.getElem?_eq_some_iff.1 hj).1
      rw [← Go.Deep.add_add, hat j hjl, hj]
    · obtain ⟨ho, hk⟩ := hone_of hone j f hj
      have hjl : j < fs.size := (Array.getElem?_eq_some_iff.1 hj).1
      have h1 := hfd j f hj
      rw [ho, hk, List.drop_eq_getElem_cons (by omega)] at h1
      exact ⟨cs'[j]'(by omega), ys[j]'(by omega), n', List.getElem?_eq_getElem _, by rw [List.getElem?_eq_getElem (show j < ys.length by omega)] at h1; exact h1⟩
end
end Go.Proofs.YtcpegoofbenoiaaGreatDoor
/-
  PLAIN LEMMAS: numbers, bits, lists. Nothing of the program is in sight.
-/
namespace Go.Proofs.YtcpegoofbenoiaaGreatDoor.Plain

/-! ### Numbers rounded to multiples of four -/

theorem nat_andNot3 (a : Nat) (h : a < 2 ^ 64) : a &&& (2 ^ 64 - (3 + 1)) = a / 4 * 4 := by
  apply Nat.eq_of_testBit_eq
  intro i
  have e4 : a / 4 * 4 = a / 2 ^ 2 * 2 ^ 2 := by rw [show (2 : Nat) ^ 2 = 4 from rfl]
  rw [e4, Nat.testBit_and, Nat.testBit_two_pow_sub_succ (by decide), Nat.testBit_mul_two_pow, Nat.testBit_div_two_pow]
  have h3 : (3 : Nat).testBit i = decide (i < 2) := by
    have := Nat.testBit_two_pow_sub_one 2 i
    simpa using this
  rw [h3]
  by_cases hi : i < 2
  · simp [hi, Nat.not_le.2 hi]
  · have h2 : 2 ≤ i := by omega
    by_cases h64 : i < 64
    · simp [hi, h64, h2]
    · have : a.testBit i = false := Nat.testBit_lt_two_pow (Nat.lt_of_lt_of_le h (Nat.pow_le_pow_right (by decide) (by omega)))
      simp [this, h2]

theorem wrap_i64_small (n : Int) (h0 : 0 ≤ n) (h1 : n < 9223372036854775808) : IntKind.i64.wrap n = n := by
  simp [IntKind.wrap, IntKind.bits, IntKind.signed]
  omega

theorem i64_andNot3 (a : Int) (h0 : 0 ≤ a) (h1 : a < 4611686018427387904) : bits .andNot .i64 a 3 = a / 4 * 4 := by
  obtain ⟨n, rfl⟩ := Int.eq_ofNat_of_zero_le h0
  have hn : n < 4611686018427387904 := by omega
  have e0 : (BitVec.ofInt 64 (n : Int)).toNat = n := by
    simp
    omega
  show IntKind.i64.wrap ((BitVec.ofInt 64 (n : Int) &&& ~~~BitVec.ofInt 64 3).toNat : Int) = _
  have h3 : (BitVec.ofInt 64 3).toNat = 3 := by decide
  rw [BitVec.toNat_and, BitVec.toNat_not, e0, h3, show 2 ^ 64 - 1 - 3 = 2 ^ 64 - (3 + 1) by decide, nat_andNot3 n (by omega)]
  rw [wrap_i64_small _ (by omega) (by omega)]
  omega

/-! ### The bits of numbers by seven bits -/
/-- 2 to the 64, behind a name. -/
@[irreducible] def M64 : Nat := 18446744073709551616
theorem and127 (c : Nat) (h : c < M64) : bits .and .u64 (c : Int) 127 = ((c % 128 : Nat) : Int) := by
  have := u64_and_nat c 127 (by unfold M64 at h; omega) (by omega)
  rw [show (127 : Int) = ((127 : Nat) : Int) from rfl, this, show 127 = 2 ^ 7 - 1 from rfl, Nat.and_two_pow_sub_one_eq_mod]
theorem and127u8 (c : Nat) (h : c < 256) : bits .and .u8 (c : Int) 127 = ((c % 128 : Nat) : Int) := by
  have := u8_and_nat c 127 h (by omega)
  rw [show (127 : Int) = ((127 : Nat) : Int) from rfl, this, show 127 = 2 ^ 7 - 1 from rfl, Nat.and_two_pow_sub_one_eq_mod]
theorem nat_and128 : ∀ c, c < 256 → c &&& 128 = c / 128 * 128 := by decide +kernel
theorem nat_or128 : ∀ c, c < 128 → c ||| 128 = c + 128 := by decide +kernel
theorem and128 (c : Nat) (h : c < 256) : bits .and .u8 (c : Int) 128 = ((c / 128 * 128 : Nat) : Int) := by
  have := u8_and_nat c 128 h (by omega)
  rw [show (128 : Int) = ((128 : Nat) : Int) from rfl, this, nat_and128 c h]
theorem or128 (c : Nat) (h : c < 128) : bits .or .u8 (c : Int) 128 = ((c + 128 : Nat) : Int) := by
  have := u8_or_nat c 128 (by omega) (by omega)
  rw [show (128 : Int) = ((128 : Nat) : Int) from rfl, this, nat_or128 c h]
theorem wrap_u64 (n : Int) (h0 : 0 ≤ n) (h1 : n < (M64 : Int)) : IntKind.u64.wrap n = n := by
  unfold M64 at h1
  simp [IntKind.wrap, IntKind.bits, IntKind.signed]
  omega
theorem wrap_u64_div (c : Nat) (h : c < M64) : IntKind.u64.wrap ((c : Int) / 128) = (c : Int) / 128 :=
  wrap_u64 _ (by omega) (by omega)
end Go.Proofs.YtcpegoofbenoiaaGreatDoor.Plain
/-
  WORDS without a program, and small laws. (taken by a program out of the texts of seat A.)
-/
namespace Go.Proofs.YtcpegoofbenoiaaGreatDoor
open Go.RowKit
open Go.ChangeShapes Go.WideShapes Go.ChangeAt Go.Deep
open Plain (M64)

theorem ret_int {k : IntKind} {a b : Int} (h : a = b) : Ending.returned (.int k a) = .returned (.int k b) := by rw [h]
theorem ret_bool {a b : Bool} (h : a = b) : Ending.returned (.bool a) = .returned (.bool b) := by rw [h]
/-- nil, or an error. -/
def ErrIf (ok : Bool) (r : Value) : Prop := if ok = true then r = .nilIface else ∃ t a, r = .iface t (.pointer (some a))
/-- Behind 'append([]T{}, xs...)'. -/
theorem Grew.copied {w w' : World} {v v' : Value} {T : TypeId} (g : Grew (w.alloc (.cells #[] T)) w' v v') (hv : v = .slice (some ⟨w.heap.size, 0, none⟩) 0 0) :
    Keep Non w w' ∧ ∀ g, v'.ownBlock = some g → w.heap.size ≤ g := by
  subst hv
  refine ⟨((Keep.refl _ _).alloc _).trans g.keep (fun i hi h => by simp [Own, Value.ownBlock] at h; omega), fun k hk => ?_⟩
  rcases g.lies hk with h | h
  · simp [Value.ownBlock] at h; omega
  · simp at h; omega
theorem Reads.two (w : World) (x y : Value) (T : TypeId) : Reads (w.alloc (.cells #[x, y] T)) 2 (.slice (some ⟨w.heap.size, 0, none⟩) 1 1) 1 [x, y] :=
  ⟨rfl, .inr ⟨_, 1, rfl, cell_two_new _ _ _ _⟩⟩
theorem ints2_one (k : IntKind) (x y : Int) : ∀ u ∈ [Value.int k x, .int k y], u.oneCell' = true := by
  intro u hu
  simp at hu
  rcases hu with rfl | rfl <;> rfl
theorem take_snoc_mem {α : Type} {l : List α} {k : Nat} (h : k < l.length) {Q : α → Prop} (h1 : ∀ x ∈ l.take k, Q x) (h2 : Q l[k]) : ∀ x ∈ l.take (k + 1), Q x := by
  intro x hx
  rw [List.take_succ_eq_append_getElem h] at hx
  rcases List.mem_append.1 hx with h | h
  · exact h1 x h
  · simp at h; subst h; exact h2
def Bs (l : List Bool) : List Value := l.map .bool
theorem Bs_append (a b : List Bool) : Bs (a ++ b) = Bs a ++ Bs b := by simp [Bs]
theorem bool_one (b : Bool) : ∀ u ∈ [Value.bool b], u.oneCell' = true := by
  intro u hu
  simp at hu
  subst hu; rfl
theorem Keep.setNew {S : Nat → Prop} {a w : World} (h : Keep S a w) {g : Nat} (hg : a.heap.size ≤ g) (o : Nat) (u : Value) : Keep S a (w.setCell ⟨g, o, none⟩ u) :=
  h.setCell (fun e => absurd e (Nat.not_lt.2 hg)) u
theorem Reads.oneAt {w : World} {u : Value} {T : TypeId} {g : Nat} (hg : g = w.heap.size) : Reads (w.alloc (.cells #[u] T)) 1 (.slice (some ⟨g, 0, none⟩) 1 1) 1 [u] := by
  subst hg; exact Reads.one _ _ _
theorem Row.setOther {w : World} {e : TypeId} {size : Nat} {v : Value} {n : Nat} {xs : List Value} (h : Row w e size v n xs) {g : Nat} (hg : v.ownBlock ≠ some g) (o : Nat) (u : Value) : Row (w.setCell ⟨g, o, none⟩ u) e size v n xs :=
  h.keep (Keep.one w g o u) (fun i hi e => hg (by rw [hi, e]))
def By (l : List Nat) : List Value := l.map fun x => Value.int .u8 (x : Nat)
def U64 (l : List Nat) : List Value := l.map fun x => Value.int .u64 (x : Nat)
def Ts (l : List ByteArray) : List Value := l.map .string
theorem U64_append (a b : List Nat) : U64 (a ++ b) = U64 a ++ U64 b := by simp [U64]
theorem Ts_append (a b : List ByteArray) : Ts (a ++ b) = Ts a ++ Ts b := by simp [Ts]
/-- The bytes of a number by seven bits, at the start of a list; at most so many. -/
def ulebAt : Nat → List Nat → Option (List Nat)
  | 0, _ => none
  | _, [] => none
  | n + 1, b :: l => if b < 128 then some [b] else (ulebAt n l).map (b :: ·)
theorem ulebAt_spec : ∀ n l ds, ulebAt n l = some ds → (∃ r, l = ds ++ r) ∧ 0 < ds.length ∧ ds.length ≤ n ∧ ∀ i (h : i < ds.length), (128 ≤ ds[i] ↔ i + 1 < ds.length)
  | 0, l, ds, h => by simp [ulebAt] at h
  | n + 1, [], ds, h => by simp [ulebAt] at h
  | n + 1, b :: l, ds, h => by
    rw [ulebAt] at h
    split at h
    · next hb =>
      simp only [Option.some.injEq] at h
      subst h
      refine ⟨⟨l, rfl⟩, by simp, by simp, fun i hi => ?_⟩
      have : i = 0 := by simpa using hi
      subst this
      simp; omega
    · next hb =>
      simp only [Option.map_eq_some_iff] at h
      obtain ⟨ds', h', rfl⟩ := h
      obtain ⟨⟨r, hr⟩, h0, hn, hh⟩ := ulebAt_spec n l ds' h'
      refine ⟨⟨r, by simp [hr]⟩, by simp, by simpa using hn, fun i hi => ?_⟩
      match i, hi with
      | 0, _ => simp; omega
      | i + 1, hi =>
        have := hh i (by simpa using hi)
        simpa using this
theorem drop_le {bs ds : List Nat} {p : Nat} (h : ∃ r, bs.drop p = ds ++ r) (h0 : 0 < ds.length) : p + ds.length ≤ bs.length := by
  obtain ⟨r, hr⟩ := h
  have := congrArg List.length hr
  simp at this
  omega
theorem drop_at {bs ds : List Nat} {p : Nat} (h : ∃ r, bs.drop p = ds ++ r) : ∀ i (hi : i < ds.length), bs[p + i]? = some ds[i] := by
  intro i hi
  obtain ⟨r, hr⟩ := h
  rw [← List.getElem?_drop, hr, List.getElem?_append_left hi, List.getElem?_eq_getElem hi]
theorem bytes_one (l : List Nat) : ∀ u ∈ By l, u.oneCell' = true := by
  intro u hu
  simp [By] at hu
  obtain ⟨x, _, rfl⟩ := hu
  rfl
theorem int_one (k : IntKind) (x : Int) : ∀ u ∈ [Value.int k x], u.oneCell' = true := by
  intro u hu
  simp at hu
  subst hu; rfl
/-- A number by seven bits, read. -/
def ulebVal : List Nat → Nat
  | [] => 0
  | b :: l => b % 128 + 128 * ulebVal l
theorem ulebVal_lt : ∀ l, ulebVal l < 2 ^ (7 * l.length)
  | [] => by simp [ulebVal]
  | b :: l => by
    have := ulebVal_lt l
    have e : 2 ^ (7 * (l.length + 1)) = 128 * 2 ^ (7 * l.length) := by rw [show 7 * (l.length + 1) = 7 * l.length + 7 by omega, Nat.pow_add]; omega
    simp only [ulebVal, List.length_cons, e]
    omega
theorem ulebVal_snoc (b : Nat) : ∀ l, ulebVal (l ++ [b]) = ulebVal l + b % 128 * 2 ^ (7 * l.length)
  | [] => by simp [ulebVal]
  | c :: l => by
    have e : 2 ^ (7 * (l.length + 1)) = 128 * 2 ^ (7 * l.length) := by rw [show 7 * (l.length + 1) = 7 * l.length + 7 by omega, Nat.pow_add]; omega
    rw [List.length_cons, e, List.cons_append, ulebVal, ulebVal_snoc b l, ulebVal, Nat.mul_left_comm (b % 128) 128]
    omega
theorem ulebVal_take_le : ∀ (l : List Nat) k, ulebVal (l.take k) ≤ ulebVal l
  | [], k => by simp [ulebVal]
  | b :: l, 0 => by simp [ulebVal]
  | b :: l, k + 1 => by
    have := ulebVal_take_le l k
    simp only [List.take_succ_cons, ulebVal]
    omega
theorem ulebVal_step {ds : List Nat} {k : Nat} (hk : k < ds.length) (hfit : ulebVal ds < M64) :
    bits .or .u64 ((ulebVal (ds.take k) : Nat) : Int) (IntKind.u64.wrap (((ds[k] : Nat) : Int) % 128 * 2 ^ (7 * k))) = ((ulebVal (ds.take (k + 1)) : Nat) : Int) := by
  have h1 := ulebVal_lt (ds.take k)
  have h2 := ulebVal_take_le ds (k + 1)
  have h3 := ulebVal_snoc ds[k] (ds.take k)
  rw [← List.take_succ_eq_append_getElem hk] at h3
  have hl : (ds.take k).length = k := by simp; omega
  rw [hl] at h1 h3
  generalize ulebVal (ds.take (k + 1)) = B at *
  generalize ulebVal (ds.take k) = A at *
  generalize ds[k] = x at *
  unfold M64 at hfit
  have e1 : ((x : Nat) : Int) % 128 * 2 ^ (7 * k) = ((x % 128 * 2 ^ (7 * k) : Nat) : Int) := by simp
  rw [e1]
  have e2 : IntKind.u64.wrap ((x % 128 * 2 ^ (7 * k) : Nat) : Int) = ((x % 128 * 2 ^ (7 * k) : Nat) : Int) := by
    simp [IntKind.wrap, IntKind.bits, IntKind.signed]
    omega
  rw [e2, u64_or_nat _ _ (by omega) (by omega)]
  have e3 := Nat.two_pow_add_eq_or_of_lt h1 (x % 128)
  rw [Nat.or_comm, Nat.mul_comm (x % 128), ← e3, h3, Nat.mul_comm (x % 128)]
  simp [Int.add_comm]
theorem addr_add (g o j : Nat) : (⟨g, o, none⟩ : Addr).add j = ⟨g, o + j, none⟩ := by
  unfold Addr.add
  split <;> simp_all
theorem Reads.sub {w : World} {g off n ca lo m c' : Nat} {xs : List Value} (h : Reads w 1 (.slice (some ⟨g, off, none⟩) n ca) n xs) (hm : lo + m ≤ n) : Reads w 1 (.slice (some ⟨g, off + lo, none⟩) m c') m ((xs.drop lo).take m) := by
  obtain ⟨hl, ⟨h, _⟩ | ⟨ad, c, h, hc⟩⟩ := h
  · cases h
  · cases h
    refine ⟨by simp; omega, .inr ⟨_, _, rfl, fun j u hj => ?_⟩⟩
    have hjm : j < m := by
      have := (List.getElem?_eq_some_iff.1 hj).1
      simp at this; omega
    rw [List.getElem?_take_of_lt hjm, List.getElem?_drop] at hj
    have := hc (lo + j) u hj
    rw [addr_add] at this ⊢
    rw [Nat.add_assoc]
    exact this
theorem By_get {l : List Nat} {i : Nat} (h : i < l.length) : (By l)[i]? = some (.int .u8 (l[i] : Nat)) := by simp [By, h]
theorem By_sub (l : List Nat) (p m : Nat) : ((By l).drop p).take m = By ((l.drop p).take m) := by simp [By, List.map_drop, List.map_take]
/-- A number, the least byte first. -/
def leVal : List Nat → Nat
  | [] => 0
  | b :: l => b + 256 * leVal l
theorem or_up (a b i : Nat) (h : a < 2 ^ i) : a ||| b * 2 ^ i = a + b * 2 ^ i := by
  rw [Nat.or_comm, Nat.mul_comm, ← Nat.two_pow_add_eq_or_of_lt h b, Nat.add_comm]
theorem or32 (a b i : Nat) (h : a < 2 ^ i) (hs : a + b * 2 ^ i < 4294967296) : bits .or .u32 (a : Int) ((b : Int) * ((2 ^ i : Nat) : Int)) = ((a + b * 2 ^ i : Nat) : Int) := by
  rw [show (b : Int) * ((2 ^ i : Nat) : Int) = ((b * 2 ^ i : Nat) : Int) by simp, u32_or_nat _ _ (by omega) (by omega), or_up a b i h]
theorem or64 (a b i : Nat) (h : a < 2 ^ i) (hs : a + b * 2 ^ i < 18446744073709551616) : bits .or .u64 (a : Int) ((b : Int) * ((2 ^ i : Nat) : Int)) = ((a + b * 2 ^ i : Nat) : Int) := by
  rw [show (b : Int) * ((2 ^ i : Nat) : Int) = ((b * 2 ^ i : Nat) : Int) by simp, u64_or_nat _ _ (by omega) (by omega), or_up a b i h]
theorem or4 {b0 b1 b2 b3 : Nat} (h0 : b0 < 256) (h1 : b1 < 256) (h2 : b2 < 256) (h3 : b3 < 256) :
    bits .or .u32 (bits .or .u32 (bits .or .u32 (b0 : Int) ((b1 : Int) * 256)) ((b2 : Int) * 65536)) ((b3 : Int) * 16777216) = ((leVal [b0, b1, b2, b3] : Nat) : Int) := by
  have e1 := or32 b0 b1 8 (by omega) (by omega)
  have e2 := or32 (b0 + b1 * 2 ^ 8) b2 16 (by omega) (by omega)
  have e3 := or32 (b0 + b1 * 2 ^ 8 + b2 * 2 ^ 16) b3 24 (by omega) (by omega)
  rw [show ((2 ^ 8 : Nat) : Int) = 256 from rfl] at e1
  rw [show ((2 ^ 16 : Nat) : Int) = 65536 from rfl] at e2
  rw [show ((2 ^ 24 : Nat) : Int) = 16777216 from rfl] at e3
  rw [e1, e2, e3]
  simp only [leVal]
  congr 1
  omega
theorem four {l : List Nat} (h : l.length = 4) : ∃ b0 b1 b2 b3, l = [b0, b1, b2, b3] := by
  match l, h with
  | [b0, b1, b2, b3], _ => exact ⟨b0, b1, b2, b3, rfl⟩
theorem eight {l : List Nat} (h : l.length = 8) : ∃ b0 b1 b2 b3 b4 b5 b6 b7, l = [b0, b1, b2, b3, b4, b5, b6, b7] := by
  match l, h with
  | [b0, b1, b2, b3, b4, b5, b6, b7], _ => exact ⟨b0, b1, b2, b3, b4, b5, b6, b7, rfl⟩
/-- Numbers of bytes, as bytes. -/
def bytes8 (l : List Nat) : List UInt8 := l.map UInt8.ofNat
theorem By_bytes8 {l : List Nat} (h : ∀ x ∈ l, x < 256) : By l = B (bytes8 l) := by
  simp only [By, B, bytes8, List.map_map]
  refine List.map_congr_left fun x hx => ?_
  have := h x hx
  simp
  omega
/-- 's[lo:lo+m]' of a slice of bytes. -/
def subV (bb lo m c : Nat) : Value := .slice (some ⟨bb, if c = lo then 0 else lo, none⟩) m (c - lo)
theorem subV_reads {w : World} {bb n c lo m : Nat} {bs : List Nat} (h : Reads w 1 (.slice (some ⟨bb, 0, none⟩) n c) n (By bs)) (hm : lo + m ≤ n) (hc : n ≤ c) : Reads w 1 (subV bb lo m c) m (By ((bs.drop lo).take m)) := by
  have h' := h.sub (lo := lo) (m := m) (c' := c - lo) hm
  rw [By_sub, Nat.zero_add] at h'
  unfold subV
  by_cases he : c = lo
  · have hm0 : m = 0 := by omega
    subst hm0
    exact ⟨by simp [By], .inr ⟨_, _, rfl, fun j u hj => by simp [By] at hj⟩⟩
  · rw [if_neg he]; exact h'
/-- A text of some bytes. -/
def txt (l : List Nat) : ByteArray := ⟨(bytes8 l).toArray⟩
theorem str_one (s : ByteArray) : ∀ u ∈ [Value.string s], u.oneCell' = true := by
  intro u hu
  simp at hu
  subst hu; rfl
theorem Keep.setRow (w : World) (g : Nat) (cs : Array Value) : Keep (At g) w (w.setRow g cs) :=
  ⟨rfl, rfl, rfl, by simp [World.setRow], fun k _ hk => setRow_other w g k cs (fun e => hk e)⟩
/-- copy: what is copied lies over the cells of the block. -/
theorem wpList_cp {P : Program} {w : World} {ops : Array Oper} {rest : List Oper} {o : Oper} {a : Act} {Q : Exit → Act → World → Prop} {t e : TypeId} (ht : P.underlying t = some (.slice e)) (hsz : (P.info? e).map (·.size) = some 1) (hgd : o.guard = none) (d s : Operand)
    (ho : o.op = .call { callee := .builtin .copy, args := #[d, s], argTypes := #[t, t] })
    {g off dLen dCap n : Nat} {sv : Value} {cur xs : List Value} {T : TypeId} (hd : a.eval d = .slice (some ⟨g, off, none⟩) dLen dCap) (hs : a.eval s = sv) (hb : Blk w g cur T) (hr : Reads w 1 sv n xs) (hfit : off + min n dLen ≤ cur.length) (h1 : ∀ v ∈ xs, v.oneCell' = true)
    (h : ∀ w', Blk w' g (splice cur off (xs.take (min n dLen))) T → Keep (At g) w w' → wpList P ops Q rest (a.put o.dst (goInt (min n dLen : Nat))) w') : wpList P ops Q (o :: rest) a w := by
  obtain ⟨hl, hv⟩ := hr
  have hxl : (xs.take (min n dLen)).length = min n dLen := by simp; omega
  by_cases h0 : min n dLen = 0
  · have hh := h w (by rw [h0]; simpa [splice] using hb) (Keep.refl _ _)
    rw [h0] at hh
    obtain ⟨sp, sc, rfl⟩ : ∃ sp sc, sv = .slice sp n sc := by
      rcases hv with ⟨rfl, rfl⟩ | ⟨ad, c, rfl, _⟩
      · exact ⟨none, 0, rfl⟩
      · exact ⟨some ad, c, rfl⟩
    exact wpList_copy_nothing hgd d s t t ho e ht hsz (some ⟨g, off, none⟩) sp dLen dCap n sc hd hs h0 hh
  · rcases hv with ⟨rfl, rfl⟩ | ⟨ad, c, rfl, hc⟩
    · simp at h0
    · refine wpList_copy_own hgd d s t t ho e ht hsz g off dLen dCap ad n c hd hs cur.toArray T hb (xs.take (min n dLen)) hxl (fun j v hj => hc j v ?_) (by rw [hxl]; simpa using hfit) (fun v hv => h1 v (List.mem_of_mem_take hv)) ?_
      · have hjl := (List.getElem?_eq_some_iff.1 hj).1
        rw [List.getElem?_take_of_lt (by omega)] at hj
        exact hj
      · rw [hxl]
        refine h _ ?_ (Keep.setRow _ _ _)
        have := setRow_heap w g cur.toArray (splice cur off (xs.take (min n dLen))).toArray T (0, 0) hb
        simpa [splice, hxl, Blk] using this
theorem Reads.keep0 {w w' : World} {size : Nat} {v : Value} {xs : List Value} (h : Reads w size v 0 xs) : Reads w' size v 0 xs := by
  obtain ⟨hl, h | ⟨ad, c, h, _⟩⟩ := h
  · exact ⟨hl, .inl h⟩
  · refine ⟨hl, .inr ⟨ad, c, h, fun j u hj => ?_⟩⟩
    have : xs = [] := List.eq_nil_of_length_eq_zero (by simpa using hl)
    subst this
    cases hj
theorem Reads.keepIf {S : Nat → Prop} {w w' : World} {size : Nat} {v : Value} {n : Nat} {xs : List Value} (h : Reads w size v n xs) (k : Keep S w w') (hs : 0 < n → ∀ g, v.ownBlock = some g → ¬ S g) : Reads w' size v n xs := by
  by_cases h0 : 0 < n
  · exact h.keep k (hs h0)
  · obtain rfl : n = 0 := by omega
    exact h.keep0
/-- Where there is an element the slice's block is there. -/
theorem Reads.blk {w : World} {size : Nat} {v : Value} {n : Nat} {xs : List Value} (h : Reads w size v n xs) (h0 : 0 < n) (hs : 0 < size) : ∀ g, v.ownBlock = some g → g < w.heap.size := by
  intro g hg
  obtain ⟨b, off, c, rfl, hc⟩ := h.at h0 hs
  have hl : 0 < xs.length := by rw [h.1]; exact Nat.mul_pos h0 hs
  have := hc 0 _ (List.getElem?_eq_getElem hl)
  have := World.block_lt_of_cell? w _ this
  simp [Value.ownBlock] at hg
  subst hg
  exact this
theorem Blk.drewN {w : World} {g : Nat} {cs : List Value} {T : TypeId} (h : Blk w g cs T) (n : Nat) : Blk (w.drewN n) g cs T := h.keep ((Keep.refl Non _).drewN n) (fun h => h)
theorem Reads.drewN {w : World} {size : Nat} {v : Value} {n : Nat} {xs : List Value} (h : Reads w size v n xs) (k : Nat) : Reads (w.drewN k) size v n xs := h.keep ((Keep.refl Non _).drewN k) (fun _ _ h => h)
theorem Row.drewN {w : World} {e : TypeId} {size : Nat} {v : Value} {n : Nat} {xs : List Value} (h : Row w e size v n xs) (k : Nat) : Row (w.drewN k) e size v n xs := h.keep ((Keep.refl Non _).drewN k) (fun _ _ h => h)
theorem step_app {P : Program} {w : World} {t e : TypeId} {z : Value} {size bytes : Nat} (T : SliceT P t e z size bytes)
    {ops : Array Oper} {o : Oper} {a : Act} {K : Act → World → Prop} {Q : Exit → Act → World → Prop} {E : Prop} (hgd : o.guard = none) (s x : Operand)
    (ho : o.op = .call { callee := .builtin .append, args := #[s, x], argTypes := #[t, t] })
    {v : Value} {n : Nat} {xs : List Value} (hs : a.eval s = v) (hown : Row w e size v n xs)
    {xv : Value} {m : Nat} {news : List Value} (hx : a.eval x = xv) (hr : Reads w size xv m news) (hm : 0 < m) (h1 : ∀ u ∈ news, u.oneCell' = true)
    (h63 : n + m ≤ maxLen) (hbytes : (n + m) * bytes ≤ 140737488355328)
    (h : ∀ v' w', Row w' e size v' (n + m) (xs ++ news) → Grew w w' v v' → K (a.put o.dst v') w') :
    if Region.wanted o (yielded ops a.tmps) = true then Oper.wp P o a w K Q else E := by
  obtain ⟨i, hi, hz, hsz, hb⟩ := info_parts T.row
  obtain ⟨hl, ⟨rfl, rfl⟩ | ⟨ad, c, rfl, hc⟩⟩ := hr
  · omega
  · have hw : Region.wanted o (yielded ops a.tmps) = true := by simp [Region.wanted, hgd]
    rw [if_pos hw]
    obtain ⟨v', w', hr, h2, h3, _, h5⟩ := run_append_own_at (P := P) w 0 t o.type e i z size bytes T.und hi hz hsz hb T.zs T.pos v n xs hown ad m c news hl hc h1 h63 hbytes (Nat.zero_le _)
    unfold Oper.wp execOp
    simp only [ho, resolve, invoke, builtin, Sem.run_bind, Sem.run_pure, Result.andThen_ok, List.map_toArray, List.map_cons, List.map_nil, hs, hx, hr]
    exact h v' w' h2 ⟨h3, h5⟩
theorem run_append_room_zeros {P : Program} (w : World) (t tn ty e : TypeId) (i : TypeInfo) (z : Value) (k kn : IntKind) (ht : P.underlying t = some (.slice e)) (htn : P.underlying tn = some (.int kn)) (hi : P.info? e = some i) (hz : i.zero = some z) (hsz : i.size = 1) (hz1 : z.cells = #[z]) (ho : z.oneCell' = true)
    (g sLen sCap : Nat) (cur : Array Value) (hg : w.heap[g]? = some (.cells cur e (0, 0))) (m : Nat) (hm : 0 < m) (h63 : (m : Int) ≤ 9223372036854775807) (h48 : m * i.bytes ≤ 281474976710656) (hroom : sLen + m ≤ sCap) (hfit : sLen + m ≤ cur.size) :
    (Builtin.append_ #[t, tn] ty #[.slice (some ⟨g, 0, none⟩) sLen sCap, .int k m]).run P w =
      .ok (.slice (some ⟨g, 0, none⟩) (sLen + m) sCap) (w.setRow g (cur.toList.take sLen ++ List.replicate m z ++ cur.toList.drop (sLen + m)).toArray) := by
  have hw : IntKind.i64.wrap (m : Int) = m := by rw [IntKind.wrap_i64]; omega
  have h48i : ¬ (281474976710656 < (m : Int) * (i.bytes : Int)) := by
    rw [← Int.natCast_mul]; omega
  have hneg : ¬ ((m : Int) < 0) := by omega
  have hzc : Builtin.zeroCells z.cells m = (List.replicate m z).toArray := by
    rw [hz1]
    apply Array.ext'
    simp only [Builtin.zeroCells, List.size_toArray, List.length_cons, List.length_nil]
    apply List.ext_getElem
    · simp
    · intro j h1 h2
      simp [Nat.mod_one]
  have hst := run_storeCells_at P g (sLen * i.size) e (List.replicate m z) 0 cur w hg (by rw [hsz]; simpa using hfit) (by intro u hu; rw [List.eq_of_mem_replicate hu]; exact ho)
  simp only [Nat.add_zero, hsz, Nat.mul_one, List.length_replicate] at hst
  have hm0 : m ≠ 0 := by omega
  simp [Builtin.append_, run_underlying ht, run_underlying htn, sizeOf, typeInfo, zeroValue, hi, hz, asInt, asIntOf, hw, hneg, h48i, hroom, hsz, hm0, hzc, Addr.add_lit, hst]
theorem wpList_appZ {P : Program} {w : World} {t tn e : TypeId} {z : Value} {bytes : Nat} {kn k : IntKind} (T : SliceT P t e z 1 bytes) (htn : P.underlying tn = some (.int kn)) (hz1 : z.cells = #[z]) (ho1 : z.oneCell' = true)
    {ops : Array Oper} {rest : List Oper} {o : Oper} {a : Act} {Q : Exit → Act → World → Prop} (hgd : o.guard = none) (s x : Operand)
    (ho : o.op = .call { callee := .builtin .append, args := #[s, x], argTypes := #[t, tn] })
    {v : Value} {n m : Nat} {xs : List Value} (hs : a.eval s = v) (hown : Row w e 1 v n xs) {mi : Int} (hx : a.eval x = .int k mi) (hmi : mi = (m : Int)) (hm : 0 < m)
    (h63 : n + m ≤ maxLen) (hbytes : (n + m) * bytes ≤ 140737488355328)
    (h : ∀ v' w', Row w' e 1 v' (n + m) (xs ++ List.replicate m z) → Grew w w' v v' → wpList P ops Q rest (a.put o.dst v') w') :
    wpList P ops Q (o :: rest) a w := by
  subst hmi
  obtain ⟨i, hi, hz, hsz, hb⟩ := info_parts T.row
  have h63' : n + m ≤ 9223372036854775807 := by unfold maxLen at h63; omega
  have hmb : m * i.bytes ≤ 281474976710656 := by
    have : m * bytes ≤ (n + m) * bytes := Nat.mul_le_mul_right _ (by omega)
    rw [hb]; omega
  have zc : ∀ m, Builtin.zeroCells z.cells m = (List.replicate m z).toArray := by
    intro m
    rw [hz1]
    apply Array.ext'
    simp only [Builtin.zeroCells, List.size_toArray, List.length_cons, List.length_nil]
    apply List.ext_getElem
    · simp
    · intro j h1 h2
      simp [Nat.mod_one]
  have hxl : xs.length = n := by simpa using hown.1
  -- the new row where it grows
  have grown : ∀ (old : Nat), old < n + m → ∀ (row : Option Nat),
      Row (w.drew.alloc (.cells (xs.toArray ++ (List.replicate m z).toArray ++ (List.replicate (grownCap w (n + m) old e - (n + m)) z).toArray) e)) e 1 (.slice (some ⟨w.heap.size, 0, none⟩) (n + m) (grownCap w (n + m) old e)) (n + m) (xs ++ List.replicate m z) ∧
      w.grownBy (w.drew.alloc (.cells (xs.toArray ++ (List.replicate m z).toArray ++ (List.replicate (grownCap w (n + m) old e - (n + m)) z).toArray) e)) row := by
    intro old ho' row
    have hge := grownCap_ge w (n + m) old e
    have hcm : grownCap w (n + m) old e ≤ maxLen := grownCap_le_maxLen w (n + m) old e h63
    refine ⟨⟨by simp [hxl], .inr ⟨w.heap.size, _, _, rfl, Nat.zero_le _, heap_alloc_new w.drew _, hge, hcm, ?_, ?_⟩⟩, ⟨rfl, rfl, rfl, by simp, fun k hk _ => Below.heap_alloc _ _ _ hk⟩⟩
    · simp [hxl]; omega
    · simp only [Array.toList_append, List.append_assoc, Nat.mul_one]
      rw [← List.append_assoc]
      have : (xs ++ List.replicate m z).length = n + m := by simp [hxl]
      rw [← this]
      exact List.take_left
  have key : ∃ v' w', (Builtin.append_ #[t, tn] o.type #[v, .int k m]).run P w = .ok v' w' ∧ Row w' e 1 v' (n + m) (xs ++ List.replicate m z) ∧ Grew w w' v v' := by
    rcases hown.2 with ⟨rfl, rfl⟩ | ⟨g, cap, cur, rfl, hbg, hg, hnc, hcm, hcs, htake⟩
    · have hx0 : xs = [] := List.eq_nil_of_length_eq_zero hxl
      subst hx0
      have hr := Lib.run_append_nil_zeros (P := P) w t tn o.type e i z k kn T.und htn hi hz m hm (by omega) (by omega) hmb
      rw [zc, zc] at hr
      have hgr := grown 0 (by omega) (Value.ownBlock (.slice none 0 0))
      simp only [Nat.zero_add, List.nil_append, Array.empty_append] at hgr hr ⊢
      exact ⟨_, _, hr, hgr.1, hgr.2, .inr rfl⟩
    · have hcs' : cur.size = cap := by simpa using hcs
      by_cases hroom : n + m ≤ cap
      · have hr := run_append_room_zeros (P := P) w t tn o.type e i z k kn T.und htn hi hz (by omega) hz1 ho1 g n cap cur hg m hm (by omega) hmb hroom (by omega)
        have ht : cur.toList.take n = xs := by simpa using htake
        rw [ht] at hr
        refine ⟨_, _, hr, ⟨by simp [hxl], .inr ⟨g, cap, _, rfl, Nat.zero_le _, setRow_heap w g cur _ e _ hg, hroom, hcm, ?_, ?_⟩⟩, ⟨rfl, rfl, rfl, by simp, fun k _ hk => setRow_other w g k _ (fun e => hk (by simp [Value.ownBlock, e]))⟩, .inl rfl⟩
        · simp [hxl]; omega
        · have : (xs ++ List.replicate m z).length = (n + m) * 1 := by simp [hxl]
          rw [← this]
          exact List.take_left
      · have holds : ∀ j u, xs[j]? = some u → w.cell? ((⟨g, 0, none⟩ : Addr).add j) = some u := World.ownsRow.cells hown (g := g) rfl
        have hfit : Builtin.nextslicecap (n + m) cap * i.bytes ≤ 281474976710656 := growslice_fits (by omega) (by rw [hb]; exact hbytes)
        have hr := Lib.run_append_grow_zeros (P := P) w t tn o.type e i z k kn T.und htn hi hz (some ⟨g, 0, none⟩) n cap xs (run_firstCells_some (P := P) w.drew i.size n ⟨g, 0, none⟩ n cap xs (by rw [hsz]; exact hown.1) (by simpa using holds)) m hm (by omega) (by omega) (by omega) hmb hfit
        rw [zc, zc] at hr
        have hgr := grown cap (by omega) (Value.ownBlock (.slice (some ⟨g, 0, none⟩) n cap))
        exact ⟨_, _, hr, hgr.1, hgr.2, .inr rfl⟩
  obtain ⟨v', w', hr, h2, h3⟩ := key
  refine wpList_plain hgd fun K hK => ?_
  unfold Oper.wp execOp
  simp only [ho, resolve, invoke, builtin, Sem.run_bind, Sem.run_pure, Result.andThen_ok, List.map_toArray, List.map_cons, List.map_nil, hs, hx, hr]
  exact hK _ _ (h v' w' h2 h3)
/-- What stands in a writer: the bytes, and the place. -/
def wcells (v : Value) (p : Nat) : List Value := [v, .int .i64 p]
/-- What writing over bytes makes of them. -/
def wrote (bs : List UInt8) (p : Nat) (ds : List UInt8) : List UInt8 := bs.take p ++ ds ++ bs.drop (p + ds.length)
theorem wrote_length {bs ds : List UInt8} {p : Nat} (hp : p ≤ bs.length) : (wrote bs p ds).length = max bs.length (p + ds.length) := by
  simp [wrote]; omega
/-- The row's whole block. -/
theorem Row.whole {w : World} {e : TypeId} {g n cap : Nat} {xs : List Value} (h : Row w e 1 (.slice (some ⟨g, 0, none⟩) n cap) n xs) : ∃ cur, Blk w g cur e ∧ cur.length = cap ∧ cur.take n = xs ∧ n ≤ cap ∧ cap ≤ maxLen := by
  rcases h.2 with ⟨h', _⟩ | ⟨g', cap', cur, h', _, hg, hnc, hcm, hcs, ht⟩
  · cases h'
  · cases h'
    exact ⟨cur.toList, by simpa [Blk] using hg, by simpa using hcs, by simpa using ht, hnc, hcm⟩
theorem Row.ofWhole {w : World} {e : TypeId} {g n cap : Nat} {cur : List Value} (h : Blk w g cur e) (hl : cur.length = cap) (hn : n ≤ cap) (hc : cap ≤ maxLen) : Row w e 1 (.slice (some ⟨g, 0, none⟩) n cap) n (cur.take n) :=
  ⟨by simp; omega, .inr ⟨g, cap, cur.toArray, rfl, Nat.zero_le _, h, hn, hc, by simpa using hl, by simp⟩⟩
theorem wrote_grow {bs ds : List UInt8} {p m : Nat} (hp : p ≤ bs.length) (hm : bs.length + m = p + ds.length) : (bs ++ List.replicate m 0).take p ++ ds = wrote bs p ds := by
  rw [wrote, List.drop_of_length_le (by omega), List.append_nil, List.take_append_of_le_length hp]
theorem splice_take {cur : List Value} {bs ds : List UInt8} {p : Nat} (ht : cur.take bs.length = B bs) (hl : bs.length ≤ cur.length) (hf : p + ds.length ≤ bs.length) : (splice cur p (B ds)).take bs.length = B (wrote bs p ds) := by
  have e1 : cur.take p = B (bs.take p) := by
    have : cur.take p = (cur.take bs.length).take p := by rw [List.take_take, Nat.min_eq_left (by omega)]
    rw [this, ht]; simp [B]
  have e2 : (cur.drop (p + ds.length)).take (bs.length - (p + ds.length)) = B (bs.drop (p + ds.length)) := by
    rw [← List.drop_take, ht]; simp [B]
  have hl1 : (cur.take p).length = p := by simp; omega
  have hl2 : (B ds).length = ds.length := B_length ds
  have e3 : splice cur p (B ds) = (cur.take p ++ B ds) ++ cur.drop (p + ds.length) := by rw [splice, hl2, List.append_assoc]
  have hl3 : (cur.take p ++ B ds).length = p + ds.length := by rw [List.length_append, hl1, hl2]
  rw [e3, List.take_append, List.take_of_length_le (l := cur.take p ++ B ds) (by omega), hl3, e2, e1]
  simp [wrote, B_append]
theorem wrote_zeros {bs ds : List UInt8} {p m : Nat} (hp : p ≤ bs.length) (hm : bs.length + m = p + ds.length) : wrote (bs ++ List.replicate m 0) p ds = wrote bs p ds := by
  rw [wrote, wrote, List.take_append_of_le_length hp, List.drop_of_length_le (by simp; omega), List.drop_of_length_le (by omega)]
theorem B_zeros (bs : List UInt8) (m : Nat) : B bs ++ List.replicate m (.int .u8 0) = B (bs ++ List.replicate m 0) := by simp [B]
def I64s (l : List Int) : List Value := l.map (.int .i64)
theorem I64s_append (a b : List Int) : I64s (a ++ b) = I64s a ++ I64s b := by simp [I64s]
/-- Writing one more byte. -/
theorem wrote_snoc {out ds : List UInt8} {p j : Nat} (hp : p ≤ out.length) (hj : j < ds.length) :
    wrote out p (ds.take (j + 1)) = if p + j < (wrote out p (ds.take j)).length then (wrote out p (ds.take j)).set (p + j) ds[j] else wrote out p (ds.take j) ++ [ds[j]] := by
  have hl : (ds.take j).length = j := by simp; omega
  have hl1 : (ds.take (j + 1)).length = j + 1 := by simp; omega
  have hw := wrote_length (ds := ds.take j) hp
  rw [hl] at hw
  have hpl : (out.take p ++ ds.take j).length = p + j := by rw [List.length_append, hl]; simp; omega
  split
  · next h =>
    rw [hw] at h
    have hlt : p + j < out.length := by omega
    have e1 : wrote out p (ds.take j) = (out.take p ++ ds.take j) ++ (out[p + j] :: out.drop (p + j + 1)) := by
      rw [wrote, hl, List.drop_eq_getElem_cons hlt]
    rw [e1, List.set_append_right _ _ (by omega), hpl, Nat.sub_self, List.set_cons_zero, wrote, hl1, List.take_succ_eq_append_getElem hj]
    simp only [List.append_assoc, List.cons_append, List.nil_append, Nat.add_assoc]
  · next h =>
    rw [hw] at h
    rw [wrote, wrote, hl, hl1, List.drop_of_length_le (by omega), List.drop_of_length_le (by omega), List.take_succ_eq_append_getElem hj]
    simp
theorem B_set (out : List UInt8) (i : Nat) (x : UInt8) : (B out).set i (.int .u8 (x.toNat : Int)) = B (out.set i x) := by simp [B, List.map_set]
theorem B_one1 (x : UInt8) : [Value.int .u8 (x.toNat : Int)] = B [x] := rfl
theorem Grew.undrew {w w' : World} {v v' : Value} (g : Grew w.drew w' v v') : Grew w w' v v' :=
  ⟨⟨g.grown.os, g.grown.tape, g.grown.output, g.grown.size, g.grown.block⟩, g.loc⟩
theorem Reads.threeAt {w : World} {x y z : Value} {T : TypeId} {g : Nat} (hg : g = w.heap.size) : Reads (w.alloc (.cells #[x, y, z] T)) 3 (.slice (some ⟨g, 0, none⟩) 1 1) 1 [x, y, z] := by
  subst hg
  refine ⟨rfl, .inr ⟨_, 1, rfl, fun j u hj => ?_⟩⟩
  have hb := Blk.new w [x, y, z] T
  rw [addr_add, Nat.zero_add, hb.cell]
  exact hj
theorem I64s_at {l : List Int} {k : Nat} (h : k < l.length) : (I64s l)[k]? = some (.int .i64 l[k]) := by simp [I64s, h]
def nat8 (l : List UInt8) : List Nat := l.map UInt8.toNat
theorem By_nat8 (l : List UInt8) : By (nat8 l) = B l := by simp [By, nat8, B]
theorem nat8_append (a b : List UInt8) : nat8 (a ++ b) = nat8 a ++ nat8 b := by simp [nat8]
theorem nat8_length (a : List UInt8) : (nat8 a).length = a.length := by simp [nat8]
theorem nat8_lt (l : List UInt8) : ∀ x ∈ nat8 l, x < 256 := by
  intro x hx
  simp [nat8] at hx
  obtain ⟨b, _, rfl⟩ := hx
  exact b.toNat_lt
theorem U64_at {l : List Nat} {k : Nat} (h : k < l.length) : (U64 l)[k]? = some (.int .u64 (l[k] : Nat)) := by simp [U64, h]
theorem Ts_at {l : List ByteArray} {k : Nat} (h : k < l.length) : (Ts l)[k]? = some (.string l[k]) := by simp [Ts, h]
theorem Reads.twoAt2 {w : World} {x y : Value} {T : TypeId} {g : Nat} (hg : g = w.heap.size) : Reads (w.alloc (.cells #[x, y] T)) 2 (.slice (some ⟨g, 0, none⟩) 1 1) 1 [x, y] := by
  subst hg; exact Reads.two _ _ _ _
end Go.Proofs.YtcpegoofbenoiaaGreatDoor
/-
  LAWS without a program: copy and store as a step of a drawn region; ranges of cells.
-/
namespace Go.Proofs.YtcpegoofbenoiaaGreatDoor
open Go.RowKit
open Go.ChangeShapes Go.WideShapes Go.ChangeAt Go.Deep
open Plain (M64)

theorem step_cp {P : Program} {w : World} {ops : Array Oper} {o : Oper} {a : Act} {K : Act → World → Prop} {Q : Exit → Act → World → Prop} {E : Prop} {t e : TypeId} (ht : P.underlying t = some (.slice e)) (hsz : (P.info? e).map (·.size) = some 1) (hgd : o.guard = none) (d s : Operand)
    (ho : o.op = .call { callee := .builtin .copy, args := #[d, s], argTypes := #[t, t] })
    {g off dLen dCap n : Nat} {sv : Value} {cur xs : List Value} {T : TypeId} (hd : a.eval d = .slice (some ⟨g, off, none⟩) dLen dCap) (hs : a.eval s = sv) (hb : Blk w g cur T) (hr : Reads w 1 sv n xs) (hm : 0 < n) (hfit : off + min n dLen ≤ cur.length) (h1 : ∀ v ∈ xs, v.oneCell' = true)
    (h : ∀ w', Blk w' g (splice cur off (xs.take (min n dLen))) T → Keep (At g) w w' → K (a.put o.dst (goInt (min n dLen : Nat))) w') : if Region.wanted o (yielded ops a.tmps) = true then Oper.wp P o a w K Q else E := by
  obtain ⟨hl, ⟨_, h0⟩ | ⟨ad, c, rfl, hc⟩⟩ := hr
  · omega
  · have hw : Region.wanted o (yielded ops a.tmps) = true := by simp [Region.wanted, hgd]
    rw [if_pos hw]
    have hxl : (xs.take (min n dLen)).length = min n dLen := by simp; omega
    have hrun := run_copy_row (P := P) w t t o.type e g off dLen dCap ad n c cur.toArray T (xs.take (min n dLen)) ht hsz hb hxl (fun j v hj => hc j v (by
      have hjl := (List.getElem?_eq_some_iff.1 hj).1
      rw [List.getElem?_take_of_lt (by omega)] at hj
      exact hj)) (by rw [hxl]; simpa using hfit) (fun v hv => h1 v (List.mem_of_mem_take hv))
    have e : (cur.toArray.toList.take off ++ xs.take (min n dLen) ++ cur.toArray.toList.drop (off + (xs.take (min n dLen)).length)).toArray = (splice cur off (xs.take (min n dLen))).toArray := by simp [splice, hxl]
    rw [e, hxl] at hrun
    unfold Oper.wp execOp
    simp only [ho, resolve, invoke, builtin, Sem.run_bind, Sem.run_pure, Result.andThen_ok, List.map_toArray, List.map_cons, List.map_nil, hd, hs, hrun]
    refine h (w.setRow g (splice cur off (xs.take (min n dLen))).toArray) ?_ (Keep.setRow _ _ _)
    have := setRow_heap w g cur.toArray (splice cur off (xs.take (min n dLen))).toArray T (0, 0) hb
    simpa [Blk] using this
theorem Blk.range {w : World} {g : Nat} {cs : List Value} {T : TypeId} (h : Blk w g cs T) : w.rangeAt g 0 cs := fun j v hj => by rw [Nat.zero_add, h.cell]; exact hj
theorem range_keep {S : Nat → Prop} {w w' : World} {b o : Nat} {cs : List Value} (h : w.rangeAt b o cs) (k : Keep S w w') (hb : ¬ S b) : w'.rangeAt b o cs := fun j v hj => k.cell (h j v hj) hb
theorem wp_store_any {P : Program} {op : Oper} {a : Act} {w w' : World} {K : Act → World → Prop} {Q : Exit → Act → World → Prop} (ty : TypeId) (x y : Operand) (ho : op.op = .store ty x y) {pv v : Value} (hx : a.eval x = pv) (hy : a.eval y = v) (hrun : (Instr.storeAt ty pv v).run P w = .ok () w') (h : K (a.put op.dst undef) w') : op.wp P a w K Q := by
  unfold Oper.wp execOp
  simp only [ho, hx, hy, Sem.run_bind, Sem.run_pure, Result.andThen_ok, hrun]
  exact h
end Go.Proofs.YtcpegoofbenoiaaGreatDoor
/-
  HOW ARGUMENTS ARE OPENED, third part: slices of texts. Nothing of the program is in sight.
-/
namespace Go.Proofs.YtcpegoofbenoiaaGreatDoor
open Go.RowKit
open Go.ChangeShapes Go.WideShapes Go.ChangeAt Go.Deep

theorem flat_Ts (l : List ByteArray) : l.flatMap (fun s => [Value.string s]) = Ts l := by
  induction l with
  | nil => rfl
  | cons s l ih =>
    simp [Ts] at ih ⊢
    exact ih
theorem strs_open {H : Type} {enc : TypeId × Value → H} {P : Program} {w : World} {base : Nat} {spare : Nat → Bool} {held : Bool} {t e : TypeId} {a : Option Addr} {len cap : Nat} {d : DataW H} {ps : List MemPlace} (ht : P.underlying t = some (.slice e)) (he : P.underlying e = some .string)
    (hC : P.cellsOf e = 1) (h : DataW.Trod enc P w base spare held t (.slice a len cap) d ps) :
    ∃ l : List ByteArray, l.length = len ∧ Reads w 1 (.slice a len cap) len (Ts l) ∧ (∀ s ∈ l, s.size ≤ maxLen) ∧ len ≤ maxLen := by
  obtain ⟨fuel, hf⟩ := h
  have key : (a = none ∧ len = 0 ∧ cap = 0) ∨ ∃ ad, a = some ad ∧ len ≤ maxLen ∧ ∀ i, i < len → ∃ s : ByteArray, s.size ≤ maxLen ∧ ∀ j u, ([Value.string s] : List Value)[j]? = some u → w.cell? (ad.add (i * 1 + j)) = some u := by
    rcases open_slice ht hf with ⟨h0, _⟩ | ⟨ad, l, c, m, n, D, Pl, hcs, _, hl, hm, hmm, _, hi⟩
    · simp [Value.cells] at h0
      exact .inl h0
    · simp [Value.cells] at hcs
      obtain ⟨rfl, rfl, rfl⟩ := hcs
      refine .inr ⟨ad, rfl, by omega, fun i hil => ?_⟩
      have him : i < m := by rw [hmm]; split <;> omega
      obtain ⟨cs', hc, ht'⟩ := hi i him
      rw [hC] at hc
      obtain ⟨s, e', _, hs⟩ := DataW.trod_string he ht'
      obtain ⟨_, hcl, hat⟩ := World.cells?_some hc
      refine ⟨s, hs, fun j u hj => ?_⟩
      rw [e'] at hat hcl
      have hj0 : j = 0 := by
        have := (List.getElem?_eq_some_iff.1 hj).1
        simpa using this
      subst hj0
      have := hat 0 (by omega)
      rw [hj] at this
      simpa [Go.Deep.add_add] using this
  have hlen : len ≤ maxLen := by
    rcases key with ⟨_, h, _⟩ | ⟨_, _, h, _⟩
    · omega
    · exact h
  obtain ⟨l, h1, h2, h3⟩ := reads_of (f := fun s : ByteArray => [Value.string s]) (G := fun s => s.size ≤ maxLen) (size := 1) (cap := cap) (w := w) (a := a) (len := len) (fun _ => rfl) (by decide) (by
    rcases key with h | ⟨ad, h1, _, h3⟩
    · exact .inl h
    · exact .inr ⟨ad, h1, h3⟩)
  rw [flat_Ts] at h2
  exact ⟨l, h1, h2, h3, hlen⟩
end Go.Proofs.YtcpegoofbenoiaaGreatDoor
