/-
  WHAT MEMORY HOLDS: words for proofs in which several objects live side by side. Nothing of the program is in sight.
-/
import Derived.WalkKit
import Derived.ProofKit
import Derived.Maps.AppendAt
import Derived.Laws.AppendOwnNone
import Derived.Laws.CopyOwn
import Derived.WalkSpells
import Derived.WalkLawsBesides
import Derived.Lib.Hide
namespace Go.Proofs.YtbmidlaakbpnlaaDoor
open Go.RowKit

/-- But for the blocks of S, what was there is as it was; the streams are as they were; no block has gone. -/
structure Keep (S : Nat → Prop) (w w' : World) : Prop where
  os : w'.os = w.os
  tape : w'.tape = w.tape
  output : w'.output = w.output
  size : w.heap.size ≤ w'.heap.size
  block : ∀ k, k < w.heap.size → ¬ S k → w'.heap[k]? = w.heap[k]?

/-- No block. -/
def Non : Nat → Prop := fun _ => False
/-- The block of a slice's row. -/
def Own (v : Value) : Nat → Prop := fun k => v.ownBlock = some k
/-- One block. -/
def At (g : Nat) : Nat → Prop := fun k => k = g

theorem atSelf (g : Nat) : At g g := rfl
theorem Keep.refl (S : Nat → Prop) (w : World) : Keep S w w := ⟨rfl, rfl, rfl, Nat.le_refl _, fun _ _ _ => rfl⟩
theorem Keep.trans {S S' : Nat → Prop} {a b c : World} (h : Keep S a b) (k : Keep S' b c) (hs : ∀ i, i < a.heap.size → S' i → S i) : Keep S a c :=
  ⟨k.os.trans h.os, k.tape.trans h.tape, k.output.trans h.output, Nat.le_trans h.size k.size,
    fun i hi hn => (k.block i (Nat.lt_of_lt_of_le hi h.size) (fun e => hn (hs i hi e))).trans (h.block i hi hn)⟩
theorem Keep.trans' {S : Nat → Prop} {a b c : World} (h : Keep S a b) (k : Keep S b c) : Keep S a c := h.trans k fun _ _ h => h
theorem Keep.mono {S S' : Nat → Prop} {a b : World} (h : Keep S a b) (hs : ∀ i, i < a.heap.size → S i → S' i) : Keep S' a b :=
  ⟨h.os, h.tape, h.output, h.size, fun i hi hn => h.block i hi (fun e => hn (hs i hi e))⟩
theorem Keep.drew {S : Nat → Prop} {a w : World} (h : Keep S a w) : Keep S a w.drew := ⟨h.os, h.tape, h.output, h.size, h.block⟩
theorem Keep.drewN {S : Nat → Prop} {a w : World} (h : Keep S a w) (n : Nat) : Keep S a (w.drewN n) := h.trans' ⟨rfl, rfl, rfl, Nat.le_refl _, fun _ _ _ => rfl⟩
theorem Keep.alloc {S : Nat → Prop} {a w : World} (h : Keep S a w) (o : Obj) : Keep S a (w.alloc o) :=
  h.trans' ⟨rfl, rfl, rfl, by simp, fun k hk _ => Below.heap_alloc _ _ _ hk⟩
theorem Keep.setCell {S : Nat → Prop} {a w : World} (h : Keep S a w) {p : Addr} (hp : p.block < a.heap.size → S p.block) (u : Value) : Keep S a (w.setCell p u) :=
  ⟨h.os, h.tape, h.output, by simpa [World.setCell] using h.size, fun k hk hn => by
    rw [Below.heap_setCell _ _ _ _ (fun e => by subst e; exact hn (hp hk))]; exact h.block k hk hn⟩
theorem Keep.setAt {S : Nat → Prop} {a w : World} (h : Keep S a w) (g o : Nat) (u : Value) (hg : S g) : Keep S a (w.setCell ⟨g, o, none⟩ u) := h.setCell (fun _ => hg) u
theorem Keep.one (w : World) (g o : Nat) (u : Value) : Keep (At g) w (w.setCell ⟨g, o, none⟩ u) := (Keep.refl _ _).setAt g o u rfl
theorem Keep.of_grown {w w' : World} {row : Option Nat} (h : w.grownBy w' row) : Keep (fun k => row = some k) w w' :=
  ⟨h.os, h.tape, h.output, h.size, fun k hk hn => h.block k hk (fun e => hn e.symm)⟩
theorem Keep.grown {S : Nat → Prop} {a w w' : World} {row : Option Nat} (h : Keep S a w) (hg : w.grownBy w' row) (hr : ∀ k, k < a.heap.size → row = some k → S k) : Keep S a w' :=
  h.trans (Keep.of_grown hg) hr
theorem Keep.of_below {B : Nat} {w w' : World} (h : Below B w w') : Keep (fun k => B ≤ k) w w' :=
  ⟨h.os, h.tape, h.output, h.size, fun k _ hn => h.block k (by omega)⟩
theorem Keep.below {S : Nat → Prop} {w w' : World} (h : Keep S w w') {B : Nat} (hB : B ≤ w.heap.size) (hs : ∀ k, k < w.heap.size → S k → B ≤ k) : Below B w w' :=
  ⟨h.os, h.tape, h.output, h.size, fun k hk => h.block k (by omega) (fun e => by have := hs k (by omega) e; omega)⟩
theorem Below.keep {B : Nat} {S : Nat → Prop} {a w w' : World} (h : Below B a w) (k : Keep S w w') (hs : ∀ i, S i → B ≤ i) (hB : B ≤ w.heap.size) : Below B a w' :=
  h.trans (k.below hB fun i _ e => hs i e)
theorem Keep.cell {S : Nat → Prop} {w w' : World} (h : Keep S w w') {p : Addr} {v : Value} (hc : w.cell? p = some v) (hp : ¬ S p.block) : w'.cell? p = some v :=
  (World.cell?_of_block (h.block p.block (World.block_lt_of_cell? w p hc) hp)).trans hc

/-! ### A block known whole -/
def Blk (w : World) (g : Nat) (cs : List Value) (T : TypeId) : Prop := w.heap[g]? = some (.cells cs.toArray T (0, 0))
theorem Blk.lt {w : World} {g : Nat} {cs : List Value} {T : TypeId} (h : Blk w g cs T) : g < w.heap.size := (Array.getElem?_eq_some_iff.1 h).1
theorem Blk.cell {w : World} {g : Nat} {cs : List Value} {T : TypeId} (h : Blk w g cs T) (i : Nat) : w.cell? ⟨g, i, none⟩ = cs[i]? := by
  rw [cell_of_row w g i cs.toArray T (0, 0) h]; simp
theorem Blk.free {w : World} {g : Nat} {cs : List Value} {T : TypeId} (h : Blk w g cs T) (i : Nat) : w.frozen? ⟨g, i, none⟩ = false := frozen_of_row w g i cs.toArray T h
theorem Blk.set {w : World} {g : Nat} {cs : List Value} {T : TypeId} (h : Blk w g cs T) (i : Nat) (v : Value) : Blk (w.setCell ⟨g, i, none⟩ v) g (cs.set i v) T := by
  have := heap_setCell_same w g i cs.toArray T v h
  unfold Blk
  rw [this]; simp
theorem Blk.setOther {w : World} {g : Nat} {cs : List Value} {T : TypeId} (h : Blk w g cs T) {p : Addr} (hp : g ≠ p.block) (v : Value) : Blk (w.setCell p v) g cs T := by
  unfold Blk
  rw [heap_setCell_other _ _ _ _ hp]; exact h
theorem Blk.alloc {w : World} {g : Nat} {cs : List Value} {T : TypeId} (h : Blk w g cs T) (o : Obj) : Blk (w.alloc o) g cs T := by
  unfold Blk
  rw [Below.heap_alloc _ _ _ h.lt]; exact h
theorem Blk.new (w : World) (cs : List Value) (T : TypeId) : Blk (w.alloc (.cells cs.toArray T)) w.heap.size cs T := heap_alloc_new w _
theorem Blk.keep {S : Nat → Prop} {w w' : World} {g : Nat} {cs : List Value} {T : TypeId} (h : Blk w g cs T) (k : Keep S w w') (hg : ¬ S g) : Blk w' g cs T :=
  (k.block g h.lt hg).trans h
theorem Blk.drew {w : World} {g : Nat} {cs : List Value} {T : TypeId} (h : Blk w g cs T) : Blk w.drew g cs T := h

/-! ### A slice that the call itself owns -/
/-- The slice v, of n elements of type e ('size' cells each), owns the cells xs. -/
def Row (w : World) (e : TypeId) (size : Nat) (v : Value) (n : Nat) (xs : List Value) : Prop := w.ownsRow 0 e size v n xs
theorem Row.nil (w : World) (e : TypeId) (size : Nat) : Row w e size (.slice none 0 0) 0 [] := World.ownsRow_nil _ _ _ _
theorem Row.keep {S : Nat → Prop} {w w' : World} {e : TypeId} {size : Nat} {v : Value} {n : Nat} {xs : List Value} (h : Row w e size v n xs) (k : Keep S w w') (hs : ∀ g, v.ownBlock = some g → ¬ S g) : Row w' e size v n xs := by
  refine ⟨h.1, ?_⟩
  rcases h.2 with hn | ⟨g, cap, cur, rfl, hb, hg, r⟩
  · exact .inl hn
  · refine .inr ⟨g, cap, cur, rfl, hb, ?_, r⟩
    rw [k.block g (Array.getElem?_eq_some_iff.1 hg).1 (hs g rfl)]; exact hg
theorem Row.lt {w : World} {e : TypeId} {size : Nat} {v : Value} {n : Nat} {xs : List Value} (h : Row w e size v n xs) {g : Nat} (hg : v.ownBlock = some g) : g < w.heap.size := (World.ownsRow.lt h g hg).2
theorem Row.alloc {w : World} {e : TypeId} {size : Nat} {v : Value} {n : Nat} {xs : List Value} (h : Row w e size v n xs) (o : Obj) : Row (w.alloc o) e size v n xs := World.ownsRow.alloc h o
theorem Row.len {w : World} {e : TypeId} {size : Nat} {v : Value} {n : Nat} {xs : List Value} (h : Row w e size v n xs) : xs.length = n * size := h.1
theorem Row.shape {w : World} {e : TypeId} {size : Nat} {v : Value} {n : Nat} {xs : List Value} (h : Row w e size v n xs) :
    (v = .slice none 0 0 ∧ n = 0) ∨ ∃ g cap, v = .slice (some ⟨g, 0, none⟩) n cap ∧ n ≤ cap := by
  rcases h.2 with hn | ⟨g, cap, cur, rfl, _, _, hc, _⟩
  · exact .inl hn
  · exact .inr ⟨g, cap, rfl, hc⟩
/-- A slice literal, or what a make has laid. -/
theorem Row.lit (w : World) (e : TypeId) (size : Nat) (cs : List Value) (n : Nat) (hm : n ≤ maxLen) (hs : cs.length = n * size) :
    Row (w.alloc (.cells cs.toArray e)) e size (.slice (some ⟨w.heap.size, 0, none⟩) n n) n cs := by
  have := World.ownsRow_lit (size := size) (base := 0) (e := e) w cs.toArray n (Nat.zero_le _) hm (by simpa using hs)
  simpa [Row] using this
/-- v[:0]. -/
theorem Row.zero {w : World} {e : TypeId} {size : Nat} {g n cap : Nat} {xs : List Value} (h : Row w e size (.slice (some ⟨g, 0, none⟩) n cap) n xs) :
    Row w e size (.slice (some ⟨g, 0, none⟩) 0 cap) 0 [] := by
  refine ⟨by simp, ?_⟩
  rcases h.2 with ⟨h', _⟩ | ⟨g', cap', cur, h', hb, hg, hn, hm, hs, _⟩
  · simp at h'
  · simp only [Value.slice.injEq, Option.some.injEq, Addr.mk.injEq, and_true, true_and] at h'
    obtain ⟨rfl, rfl⟩ := h'
    exact .inr ⟨g, cap, cur, rfl, hb, hg, Nat.zero_le _, hm, hs, by simp⟩

/-! ### What a slice reads as, wherever it lies -/
/-- The slice v has n elements, of 'size' cells each, and these cells are xs. -/
def Reads (w : World) (size : Nat) (v : Value) (n : Nat) (xs : List Value) : Prop :=
  xs.length = n * size ∧ ((v = .slice none 0 0 ∧ n = 0) ∨ ∃ ad c, v = .slice (some ad) n c ∧ ∀ j u, xs[j]? = some u → w.cell? (ad.add j) = some u)
theorem Row.reads {w : World} {e : TypeId} {size : Nat} {v : Value} {n : Nat} {xs : List Value} (h : Row w e size v n xs) : Reads w size v n xs := by
  refine ⟨h.1, ?_⟩
  rcases h.2 with ⟨rfl, rfl⟩ | ⟨g, cap, cur, rfl, r⟩
  · exact .inl ⟨rfl, rfl⟩
  · exact .inr ⟨_, cap, rfl, fun j u hj => World.ownsRow.cells h (g := g) rfl j u hj⟩
theorem Reads.keep {S : Nat → Prop} {w w' : World} {size : Nat} {v : Value} {n : Nat} {xs : List Value} (h : Reads w size v n xs) (k : Keep S w w') (hs : ∀ g, v.ownBlock = some g → ¬ S g) : Reads w' size v n xs := by
  obtain ⟨hl, h | ⟨ad, c, rfl, hc⟩⟩ := h
  · exact ⟨hl, .inl h⟩
  · refine ⟨hl, .inr ⟨ad, c, rfl, fun j u hj => k.cell (hc j u hj) ?_⟩⟩
    have : (ad.add j).block = ad.block := by unfold Addr.add; split <;> rfl
    rw [this]
    exact hs _ rfl
theorem Reads.alloc {w : World} {size : Nat} {v : Value} {n : Nat} {xs : List Value} (h : Reads w size v n xs) (o : Obj) : Reads (w.alloc o) size v n xs :=
  h.keep (S := Non) ((Keep.refl _ _).alloc o) fun _ _ h => h
theorem Reads.drew {w : World} {size : Nat} {v : Value} {n : Nat} {xs : List Value} (h : Reads w size v n xs) : Reads w.drew size v n xs := h
theorem Row.drew {w : World} {e : TypeId} {size : Nat} {v : Value} {n : Nat} {xs : List Value} (h : Row w e size v n xs) : Row w.drew e size v n xs := h
theorem Reads.one (w : World) (u : Value) (T : TypeId) : Reads (w.alloc (.cells #[u] T)) 1 (.slice (some ⟨w.heap.size, 0, none⟩) 1 1) 1 [u] :=
  ⟨rfl, .inr ⟨_, 1, rfl, cell_one_new _ _ _⟩⟩

/-- Where there is an element the slice has an address. -/
theorem Reads.at {w : World} {size : Nat} {v : Value} {n : Nat} {xs : List Value} (h : Reads w size v n xs) (hn : 0 < n) (hs : 0 < size) :
    ∃ b off c, v = .slice (some ⟨b, off, none⟩) n c ∧ ∀ j u, xs[j]? = some u → w.cell? ⟨b, off + j, none⟩ = some u := by
  obtain ⟨hl, ⟨_, h0⟩ | ⟨⟨b, off, spot⟩, c, rfl, hc⟩⟩ := h
  · omega
  · have h0 : 0 < xs.length := by rw [hl]; exact Nat.mul_pos hn hs
    have hs := World.cell?_spot (hc 0 _ (List.getElem?_eq_getElem h0))
    simp [Addr.add] at hs
    subst hs
    refine ⟨b, off, c, rfl, fun j u hj => ?_⟩
    have := hc j u hj
    unfold Addr.add at this
    split at this
    · rename_i h; subst h; exact this
    · exact this
theorem Reads.slice {w : World} {size : Nat} {v : Value} {n : Nat} {xs : List Value} (h : Reads w size v n xs) : ∃ a c, v = .slice a n c := by
  obtain ⟨_, ⟨h, h0⟩ | ⟨ad, c, h, _⟩⟩ := h
  · exact ⟨none, 0, by rw [h, h0]⟩
  · exact ⟨_, _, h⟩
/-- A row that is not empty: its address, and its cells. -/
theorem Row.at {w : World} {e : TypeId} {size : Nat} {v : Value} {n : Nat} {xs : List Value} (h : Row w e size v n xs) (hn : 0 < n) :
    ∃ g c, v = .slice (some ⟨g, 0, none⟩) n c := by
  rcases h.shape with ⟨_, h0⟩ | ⟨g, c, h, _⟩
  · omega
  · exact ⟨g, c, h⟩
theorem Row.cell {w : World} {e : TypeId} {size : Nat} {n : Nat} {xs : List Value} {g c : Nat} (h : Row w e size (.slice (some ⟨g, 0, none⟩) n c) n xs) (j : Nat) (hj : j < n * size) : w.cell? ⟨g, j, none⟩ = xs[j]? :=
  World.ownsRow.cellAt h j hj
theorem Row.free {w : World} {e : TypeId} {size : Nat} {n : Nat} {xs : List Value} {g c : Nat} (h : Row w e size (.slice (some ⟨g, 0, none⟩) n c) n xs) (j : Nat) : w.frozen? ⟨g, j, none⟩ = false :=
  World.ownsRow.frozenAt h j
theorem Row.store {w : World} {e : TypeId} {size : Nat} {n : Nat} {xs : List Value} {g c : Nat} (h : Row w e size (.slice (some ⟨g, 0, none⟩) n c) n xs) (j : Nat) (u : Value) :
    Row (w.setCell ⟨g, j, none⟩ u) e size (.slice (some ⟨g, 0, none⟩) n c) n (xs.set j u) := (World.ownsRow.stored h j u).1
/-- A row of cells of one type is no row of cells of another. -/
theorem Row.ne {w : World} {e e' : TypeId} {size size' : Nat} {v v' : Value} {n n' : Nat} {xs xs' : List Value} (h : Row w e size v n xs) (h' : Row w e' size' v' n' xs') (he : e ≠ e') {g : Nat} (hg : v.ownBlock = some g) (hg' : v'.ownBlock = some g) : False := by
  rcases h.2 with ⟨rfl, _⟩ | ⟨a, _, _, rfl, _, ha, _⟩
  · simp [Value.ownBlock] at hg
  · rcases h'.2 with ⟨rfl, _⟩ | ⟨b, _, _, rfl, _, hb, _⟩
    · simp [Value.ownBlock] at hg'
    · simp [Value.ownBlock] at hg hg'
      subst hg; subst hg'
      rw [ha] at hb
      simp at hb
      exact he hb.2
theorem Row.neBlk {w : World} {e T : TypeId} {size : Nat} {v : Value} {n : Nat} {xs cs : List Value} (h : Row w e size v n xs) {g : Nat} (h' : Blk w g cs T) (he : e ≠ T) (hg : v.ownBlock = some g) : False := by
  rcases h.2 with ⟨rfl, _⟩ | ⟨a, _, _, rfl, _, ha, _⟩
  · simp [Value.ownBlock] at hg
  · simp [Value.ownBlock] at hg
    subst hg
    rw [Blk, ha] at h'
    simp at h'
    exact he h'.2

/-! ### The numbers of a type's row in the table -/
/-- t is a slice type; its elements are of type e, with zero value z, 'size' cells and 'bytes' bytes. -/
structure SliceT (P : Program) (t e : TypeId) (z : Value) (size bytes : Nat) : Prop where
  und : P.underlying t = some (.slice e)
  row : (P.info? e).map (fun i => (i.zero, i.size, i.bytes)) = some (some z, size, bytes)
  zs : z.cells.size = size
  pos : 0 < size

/-- What an append has done: the new slice lies where the old one did, or in a new block. -/
structure Grew (w w' : World) (v v' : Value) : Prop where
  grown : w.grownBy w' v.ownBlock
  loc : v'.ownBlock = v.ownBlock ∨ v'.ownBlock = some w.heap.size
theorem Grew.keep {w w' : World} {v v' : Value} (h : Grew w w' v v') : Keep (Own v) w w' := Keep.of_grown h.grown
theorem Grew.lies {w w' : World} {v v' : Value} (h : Grew w w' v v') {g : Nat} (hg : v'.ownBlock = some g) : v.ownBlock = some g ∨ g = w.heap.size := by
  rcases h.loc with h | h
  · exact .inl (h ▸ hg)
  · rw [h] at hg; simp at hg; exact .inr hg.symm

theorem wpList_app {P : Program} {w : World} {t e : TypeId} {z : Value} {size bytes : Nat} (T : SliceT P t e z size bytes)
    {ops : Array Oper} {rest : List Oper} {o : Oper} {a : Act} {Q : Exit → Act → World → Prop} (hgd : o.guard = none) (s x : Operand)
    (ho : o.op = .call { callee := .builtin .append, args := #[s, x], argTypes := #[t, t] })
    {v : Value} {n : Nat} {xs : List Value} (hs : a.eval s = v) (hown : Row w e size v n xs)
    {xv : Value} {m : Nat} {news : List Value} (hx : a.eval x = xv) (hr : Reads w size xv m news) (h1 : ∀ u ∈ news, u.oneCell' = true)
    (h63 : n + m ≤ maxLen) (hbytes : (n + m) * bytes ≤ 140737488355328)
    (h : ∀ v' w', Row w' e size v' (n + m) (xs ++ news) → Grew w w' v v' → (v' = .slice none 0 0 ↔ v = .slice none 0 0 ∧ m = 0) → wpList P ops Q rest (a.put o.dst v') w') :
    wpList P ops Q (o :: rest) a w := by
  obtain ⟨i, hi, hz, hsz, hb⟩ := info_parts T.row
  obtain ⟨hl, ⟨rfl, rfl⟩ | ⟨ad, c, rfl, hc⟩⟩ := hr
  · have hn : news = [] := List.eq_nil_of_length_eq_zero (by simpa using hl)
    subst hn
    refine wpList_append_own_none hgd s x t ho 0 e i size T.und hi v n xs hs hown hx ?_
    exact h v w (by simpa using hown) ⟨World.grownBy.refl _ _, .inl rfl⟩ (by simp)
  · exact wpList_append_own_at w hgd s x t ho 0 e i z size bytes T.und hi hz hsz hb T.zs T.pos v n xs hs hown ad m c news hx hl hc h1 h63 hbytes (Nat.zero_le _)
      fun v' w' h2 h3 h4 h5 => h v' w' h2 ⟨h3, h5⟩ h4

/-- What a call hands back that returns a slice in new memory and turns nothing else. -/
def Fresh (w : World) (e : TypeId) (size n : Nat) (xs : List Value) (en : Ending) (w' : World) : Prop :=
  ∃ v', en = .returned v' ∧ Row w' e size v' n xs ∧ Keep Non w w' ∧ (∀ g, v'.ownBlock = some g → w.heap.size ≤ g)

/-! ### Numbers of four bytes -/
def U32 (l : List Nat) : List Value := l.map fun b : Nat => .int .u32 (b : Int)
theorem U32_append (a b : List Nat) : U32 (a ++ b) = U32 a ++ U32 b := by simp [U32]
theorem U32_length (a : List Nat) : (U32 a).length = a.length := by simp [U32]
theorem U32_one (a : List Nat) : ∀ u ∈ U32 a, u.oneCell' = true := by
  intro u hu
  simp [U32] at hu
  obtain ⟨b, _, rfl⟩ := hu
  rfl
theorem U32_get (l : List Nat) (j : Nat) : (U32 l)[j]? = l[j]?.map fun b : Nat => Value.int .u32 (b : Int) := by simp [U32]
theorem U32_at {l : List Nat} {j : Nat} (h : j < l.length) : (U32 l)[j]? = some (Value.int .u32 ((l[j] : Nat) : Int)) := by
  rw [U32_get, List.getElem?_eq_getElem h]; rfl

/-! ### Bytes and strings -/
/-- Bytes as cells. -/
def B (l : List UInt8) : List Value := l.map fun b => .int .u8 (b.toNat : Int)
theorem B_append (a b : List UInt8) : B (a ++ b) = B a ++ B b := by simp [B]
theorem B_length (a : List UInt8) : (B a).length = a.length := by simp [B]
theorem B_one (a : List UInt8) : ∀ u ∈ B a, u.oneCell' = true := by
  intro u hu
  simp [B] at hu
  obtain ⟨b, _, rfl⟩ := hu
  rfl
theorem B_single (n : Nat) (h : n < 256) : B [UInt8.ofNat n] = [.int .u8 (n : Int)] := by
  simp [B]; omega
theorem B_get (l : List UInt8) (j : Nat) : (B l)[j]? = l[j]?.map fun b => Value.int .u8 (b.toNat : Int) := by simp [B]
/-- string(b). -/
theorem run_toString {P : Program} {w : World} {src dst e : TypeId} {v : Value} {n : Nat} {l : List UInt8} (hs : P.underlying src = some (.slice e)) (he : P.underlying e = some (.int .u8)) (hd : P.underlying dst = some .string)
    (h : Reads w 1 v n (B l)) : (convert src dst v).run P w = .ok (.string ⟨l.toArray⟩) w := by
  obtain ⟨hl, ⟨rfl, rfl⟩ | ⟨ad, c, rfl, hc⟩⟩ := h
  · have : l = [] := by simpa [B] using hl
    subst this
    exact run_convert_bytes_nil w src e hs he 0 0 dst hd
  · have hn : n = l.length := by rw [B_length] at hl; omega
    subst hn
    refine run_convert_bytes_back w src dst e ad c l hs he hd fun j hj => hc j _ ?_
    rw [B_get, List.getElem?_eq_getElem hj]; rfl
end Go.Proofs.YtbmidlaakbpnlaaDoor
