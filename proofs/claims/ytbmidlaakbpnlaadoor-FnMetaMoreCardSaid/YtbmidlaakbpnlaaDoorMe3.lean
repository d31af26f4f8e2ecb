/-
  WHAT A BUILDER OF DESCRIPTIONS HOLDS, and what its parts' contracts do to it.
-/
import Derived.Test.YtbmidlaakbpnlaaDoorMe2
namespace Go.Proofs.YtbmidlaakbpnlaaDoor
open Go.RowKit
open Go.ChangeShapes Go.WideShapes Go.ChangeAt Go.Deep
open Plain (M64)

/-- The type of a block's cells; none: no cells. -/
def Kd (w : World) (i : Nat) : Option TypeId :=
  match w.heap[i]? with
  | some (.cells _ T _) => some T
  | _ => none
theorem Blk.kd {w : World} {g : Nat} {cs : List Value} {T : TypeId} (h : Blk w g cs T) : Kd w g = some T := by
  unfold Blk at h
  simp [Kd, h]
theorem Row.kd {w : World} {e : TypeId} {size : Nat} {v : Value} {n : Nat} {xs : List Value} (h : Row w e size v n xs) {g : Nat} (hg : v.ownBlock = some g) : Kd w g = some e := by
  rcases h.2 with ⟨rfl, _⟩ | ⟨a, _, _, rfl, _, ha, _⟩
  · simp [Value.ownBlock] at hg
  · simp [Value.ownBlock] at hg
    subst hg
    simp [Kd, ha]
theorem OwnsTab.kd {w : World} {mb : Nat} {all : List ByteArray} (h : OwnsTab w mb all) : Kd w mb = none := by
  obtain ⟨D, ⟨es, clock, he, _⟩, _⟩ := h
  simp [Kd, he]
theorem kd_false {w : World} {i : Nat} {a b : Option TypeId} (h1 : Kd w i = a) (h2 : Kd w i = b) (hne : a ≠ b) : False := hne (h1.symm.trans h2)
theorem kd_at {w : World} {g b : Nat} {a : Option TypeId} (e : At g b) (h : Kd w g = a) : Kd w b = a := by
  have e : b = g := e
  rw [e]; exact h
/-- A field behind the table's. -/
theorem Tab.setRest {w : World} {g : Nat} {T : TypeId} {rest : List Value} {mb : Nat} {st tm : Value} {fz : Bool} {all : List ByteArray} (h : Tab w g T rest mb st tm fz all) (hT : 9 ≠ T) (hT2 : 5 ≠ T) (i : Nat) (u : Value) : Tab (w.setCell ⟨g, 4 + i, none⟩ u) g T (rest.set i u) mb st tm fz all := by
  obtain ⟨n0, bs0, r0, hn⟩ := h.tmp
  have k := Keep.one w g (4 + i) u
  refine ⟨?_, h.map.keep k (fun e => h.map.neBlk h.blk e), h.strs.keep k (fun b hb e => h.strs.neBlk h.blk hT (by rw [hb]; exact congrArg some e)), ⟨n0, bs0, r0.keep k (fun b hb e => r0.neBlk h.blk hT2 (by rw [hb]; exact congrArg some e)), hn⟩, h.shape, h.short⟩
  have := h.blk.set (4 + i) u
  simpa [tcells, List.set_append, show 4 + i = i + 4 by omega] using this
theorem Tab.kd {w : World} {g : Nat} {T : TypeId} {rest : List Value} {mb : Nat} {st tm : Value} {fz : Bool} {all : List ByteArray} (h : Tab w g T rest mb st tm fz all) {i : Nat} (hi : TabF g mb st tm i) : Kd w i = some T ∨ Kd w i = none ∨ Kd w i = some 9 ∨ tm.ownBlock = some i := by
  rcases hi with rfl | rfl | hi | hi
  · exact .inl h.blk.kd
  · exact .inr (.inl h.map.kd)
  · exact .inr (.inr (.inl (h.strs.kd hi)))
  · exact .inr (.inr (.inr hi))
/-- The cells behind the table's. -/
def brest (fv bt : Value) (gh p q m : Nat) : List Value := [fv, bt, .pointer (some ⟨gh, 0, none⟩), .int .u32 p, .int .u32 q, .int .u32 m, .bool false, .nilIface]
/-- The functions' cells. -/
def Evs (E : List (Value × List UInt8)) : List Value := E.map (·.1)
/-- The blocks of a builder. -/
def BdF (g gh mb : Nat) (st tm fv bt : Value) (E : List (Value × List UInt8)) (i : Nat) : Prop := TabF g mb st tm i ∨ i = gh ∨ fv.ownBlock = some i ∨ bt.ownBlock = some i ∨ ∃ e ∈ E, e.1.ownBlock = some i
/-- A builder. Q: the blocks that may be touched: its own, and all new ones. -/
structure Bd (Q : Nat → Prop) (w : World) (g gh mb : Nat) (st tm fv bt : Value) (n : Nat) (xs : List Value) (p q m : Nat) (all : List ByteArray) (h : Nat × Nat) (E : List (Value × List UInt8)) : Prop where
  tab : Tab w g 87 (brest fv bt gh p q m) mb st tm false all
  hash : Blk w gh [.int .u64 h.1, .int .u64 h.2] 124
  l1 : h.1 < 18446744073709551616
  l2 : h.2 < 18446744073709551616
  row : Row w 5 1 bt n xs
  shape : ∃ b c, bt = .slice (some ⟨b, 0, none⟩) n c
  fns : Row w 93 1 fv E.length (Evs E)
  encs : ∀ e ∈ E, Row w 5 1 e.1 e.2.length (B e.2)
  sep : ∀ b, tm.ownBlock = some b → bt.ownBlock ≠ some b
  sepE : ∀ e ∈ E, ∀ b, e.1.ownBlock = some b → bt.ownBlock ≠ some b ∧ tm.ownBlock ≠ some b
  ok : ∀ i, BdF g gh mb st tm fv bt E i → Q i
  fresh : ∀ i, w.heap.size ≤ i → Q i
section
variable {Q : Nat → Prop} {w w' : World} {g gh mb : Nat} {st tm fv bt : Value} {n : Nat} {xs : List Value} {p q m : Nat} {all : List ByteArray} {h : Nat × Nat} {E : List (Value × List UInt8)}
theorem Bd.lt (H : Bd Q w g gh mb st tm fv bt n xs p q m all h E) {i : Nat} (hi : BdF g gh mb st tm fv bt E i) : i < w.heap.size := by
  rcases hi with hi | rfl | hi | hi | ⟨e, he, hi⟩
  · exact H.tab.lt i hi
  · exact H.hash.lt
  · exact H.fns.lt hi
  · exact H.row.lt hi
  · exact (H.encs e he).lt hi
theorem Bd.keep {S : Nat → Prop} (H : Bd Q w g gh mb st tm fv bt n xs p q m all h E) (k : Keep S w w') (hs : ∀ i, BdF g gh mb st tm fv bt E i → ¬ S i) : Bd Q w' g gh mb st tm fv bt n xs p q m all h E where
  tab := H.tab.keep k (fun i hi => hs i (.inl hi))
  hash := H.hash.keep k (hs gh (.inr (.inl rfl)))
  l1 := H.l1
  l2 := H.l2
  row := H.row.keep k (fun b hb => hs b (.inr (.inr (.inr (.inl hb)))))
  shape := H.shape
  fns := H.fns.keep k (fun b hb => hs b (.inr (.inr (.inl hb))))
  encs := fun e he => (H.encs e he).keep k (fun b hb => hs b (.inr (.inr (.inr (.inr ⟨e, he, hb⟩)))))
  sep := H.sep
  sepE := H.sepE
  ok := H.ok
  fresh := fun i hi => H.fresh i (Nat.le_trans k.size hi)
theorem Bd.far (H : Bd Q w g gh mb st tm fv bt n xs p q m all h E) (k : Keep Non w w') : Bd Q w' g gh mb st tm fv bt n xs p q m all h E := H.keep k (fun _ _ h => h)
theorem Bd.drew (H : Bd Q w g gh mb st tm fv bt n xs p q m all h E) : Bd Q w.drew g gh mb st tm fv bt n xs p q m all h E := H.far (Keep.refl _ _).drew
theorem Bd.narrow {Q' : Nat → Prop} (H : Bd Q w g gh mb st tm fv bt n xs p q m all h E) (h1 : ∀ i, BdF g gh mb st tm fv bt E i → Q' i) (h2 : ∀ i, w.heap.size ≤ i → Q' i) : Bd Q' w g gh mb st tm fv bt n xs p q m all h E :=
  ⟨H.tab, H.hash, H.l1, H.l2, H.row, H.shape, H.fns, H.encs, H.sep, H.sepE, h1, h2⟩
/-- The types of a builder's blocks. -/
theorem Bd.kd (H : Bd Q w g gh mb st tm fv bt n xs p q m all h E) {i : Nat} (hi : BdF g gh mb st tm fv bt E i) : Kd w i = some 87 ∨ Kd w i = none ∨ Kd w i = some 9 ∨ Kd w i = some 124 ∨ Kd w i = some 93 ∨ Kd w i = some 5 := by
  rcases hi with hi | rfl | hi | hi | ⟨e, he, hi⟩
  · rcases H.tab.kd hi with h | h | h | h
    · exact .inl h
    · exact .inr (.inl h)
    · exact .inr (.inr (.inl h))
    · obtain ⟨_, _, r0, _⟩ := H.tab.tmp
      exact .inr (.inr (.inr (.inr (.inr (r0.kd h)))))
  · exact .inr (.inr (.inr (.inl H.hash.kd)))
  · exact .inr (.inr (.inr (.inr (.inl (H.fns.kd hi)))))
  · exact .inr (.inr (.inr (.inr (.inr (H.row.kd hi)))))
  · exact .inr (.inr (.inr (.inr (.inr ((H.encs e he).kd hi)))))
/-- Its scratch is another one. -/
theorem Bd.laid {bt' : Value} {n' c' b' : Nat} {ys : List Value} (H : Bd Q w g gh mb st tm fv bt n xs p q m all h E) (k : Keep (Own bt) w w') (hv : bt' = .slice (some ⟨b', 0, none⟩) n' c') (r : Row w' 5 1 bt' n' ys)
    (l : ∀ b, bt'.ownBlock = some b → bt.ownBlock = some b ∨ w.heap.size ≤ b) :
    Blk w' g (tcells mb st tm false (brest fv bt gh p q m)) 87 ∧ Bd Q (w'.setCell ⟨g, 5, none⟩ bt') g gh mb st tm fv bt' n' ys p q m all h E ∧ Keep Q w (w'.setCell ⟨g, 5, none⟩ bt') := by
  have hbk : ∀ b, bt.ownBlock = some b → Kd w b = some 5 := fun b hb => H.row.kd hb
  have t1 : Tab w' g 87 (brest fv bt gh p q m) mb st tm false all := H.tab.keep k (fun i hi e => by
    have e := hbk i e
    rcases H.tab.kd hi with h | h | h | h
    · exact kd_false h e (by decide)
    · exact kd_false h e (by decide)
    · exact kd_false h e (by decide)
    · exact H.sep i h (by assumption))
  have hh : Blk w' gh [.int .u64 h.1, .int .u64 h.2] 124 := H.hash.keep k (fun e => kd_false H.hash.kd (hbk _ e) (by decide))
  have hf : Row w' 93 1 fv E.length (Evs E) := H.fns.keep k (fun b hb e => kd_false (H.fns.kd hb) (hbk _ e) (by decide))
  have he : ∀ e ∈ E, Row w' 5 1 e.1 e.2.length (B e.2) := fun e he => (H.encs e he).keep k (fun b hb e' => (H.sepE e he b hb).1 e')
  have t2 := t1.setRest (by decide) (by decide) 1 bt'
  have k2 := Keep.one w' g 5 bt'
  have hg := t1.blk.kd
  refine ⟨t1.blk, ⟨t2, hh.keep k2 (fun e => ?_), H.l1, H.l2, r.keep k2 (fun b hb e => ?_), ⟨b', c', hv⟩, hf.keep k2 (fun b hb e => ?_), fun e he' => (he e he').keep k2 (fun b hb e => ?_), ?_, ?_, ?_, ?_⟩, ?_⟩
  · exact kd_false hh.kd (kd_at e hg) (by decide)
  · exact kd_false (r.kd hb) (kd_at e hg) (by decide)
  · exact kd_false (hf.kd hb) (kd_at e hg) (by decide)
  · exact kd_false ((he _ he').kd hb) (kd_at e hg) (by decide)
  · intro b hb e
    rcases l b e with h | h
    · exact H.sep b hb h
    · have := H.tab.lt b (.inr (.inr (.inr hb))); omega
  · intro e he' b hb
    refine ⟨fun e' => ?_, (H.sepE e he' b hb).2⟩
    rcases l b e' with h | h
    · exact (H.sepE e he' b hb).1 h
    · have := (H.encs e he').lt hb; omega
  · intro i hi
    rcases hi with hi | hi | hi | hi | hi
    · exact H.ok i (.inl hi)
    · exact H.ok i (.inr (.inl hi))
    · exact H.ok i (.inr (.inr (.inl hi)))
    · rcases l i hi with h | h
      · exact H.ok i (.inr (.inr (.inr (.inl h))))
      · exact H.fresh i h
    · exact H.ok i (.inr (.inr (.inr (.inr hi))))
  · intro i hi
    exact H.fresh i (Nat.le_trans k.size (by simpa using hi))
  · exact (k.mono (fun i _ e => H.ok i (.inr (.inr (.inr (.inl e)))))).setAt _ _ _ (H.ok g (.inl (.inl rfl)))
/-- A text was looked up. -/
theorem Bd.look {st' : Value} {s : ByteArray} (H : Bd Q w g gh mb st tm fv bt n xs p q m all h E) (ht : Tab w' g 87 (brest fv bt gh p q m) mb st' tm false (added all s)) (k : Keep (fun i => i = g ∨ i = mb ∨ st.ownBlock = some i) w w')
    (l : ∀ b, st'.ownBlock = some b → st.ownBlock = some b ∨ w.heap.size ≤ b) : Bd Q w' g gh mb st' tm fv bt n xs p q m (added all s) h E ∧ Keep Q w w' := by
  have hS : ∀ i, (i = g ∨ i = mb ∨ st.ownBlock = some i) → Kd w i = some 87 ∨ Kd w i = none ∨ Kd w i = some 9 := by
    intro i hi
    rcases hi with rfl | rfl | hi
    · exact .inl H.tab.blk.kd
    · exact .inr (.inl H.tab.map.kd)
    · exact .inr (.inr (H.tab.strs.kd hi))
  have hne : ∀ i (T : TypeId), Kd w i = some T → T ≠ 87 → T ≠ 9 → ¬ (i = g ∨ i = mb ∨ st.ownBlock = some i) := by
    intro i T hT h1 h2 hi
    rcases hS i hi with h | h | h
    · rw [hT] at h; simp at h; exact h1 h
    · rw [hT] at h; cases h
    · rw [hT] at h; simp at h; exact h2 h
  refine ⟨⟨ht, H.hash.keep k (hne _ _ H.hash.kd (by decide) (by decide)), H.l1, H.l2, H.row.keep k (fun b hb => hne _ _ (H.row.kd hb) (by decide) (by decide)), H.shape, H.fns.keep k (fun b hb => hne _ _ (H.fns.kd hb) (by decide) (by decide)),
    fun e he => (H.encs e he).keep k (fun b hb => hne _ _ ((H.encs e he).kd hb) (by decide) (by decide)), H.sep, H.sepE, ?_, fun i hi => H.fresh i (Nat.le_trans k.size hi)⟩, k.mono (fun i _ e => ?_)⟩
  · intro i hi
    rcases hi with hi | hi | hi | hi | hi
    · rcases hi with hi | hi | hi | hi
      · exact H.ok i (.inl (.inl hi))
      · exact H.ok i (.inl (.inr (.inl hi)))
      · rcases l i hi with h | h
        · exact H.ok i (.inl (.inr (.inr (.inl h))))
        · exact H.fresh i h
      · exact H.ok i (.inl (.inr (.inr (.inr hi))))
    · exact H.ok i (.inr (.inl hi))
    · exact H.ok i (.inr (.inr (.inl hi)))
    · exact H.ok i (.inr (.inr (.inr (.inl hi))))
    · exact H.ok i (.inr (.inr (.inr (.inr hi))))
  · rcases e with e | e | e
    · exact H.ok i (.inl (.inl e))
    · exact H.ok i (.inl (.inr (.inl e)))
    · exact H.ok i (.inl (.inr (.inr (.inl e))))
/-- Something was hashed. -/
theorem Bd.hashed {b c : Nat} {h' : Nat × Nat} (H : Bd Q w g gh mb st tm fv (.slice (some ⟨b, 0, none⟩) n c) n xs p q m all h E) (hs : HS w' gh b n c h') (k : Keep (fun i => i = gh ∨ i = b) w w') :
    (∃ ys, Bd Q w' g gh mb st tm fv (.slice (some ⟨b, 0, none⟩) n c) n ys p q m all h' E) ∧ Keep Q w w' := by
  obtain ⟨ys, r⟩ := hs.row
  have hbk : Kd w b = some 5 := H.row.kd rfl
  refine ⟨⟨ys, ⟨H.tab.keep k (fun i hi e => ?_), hs.blk, hs.l1, hs.l2, r, ⟨_, _, rfl⟩, H.fns.keep k (fun i hi e => ?_), fun e he => (H.encs e he).keep k (fun i hi e' => ?_), H.sep, H.sepE, H.ok, fun i hi => H.fresh i (Nat.le_trans k.size hi)⟩⟩, k.mono (fun i _ e => ?_)⟩
  · rcases e with rfl | rfl
    · rcases H.tab.kd hi with h | h | h | h
      · exact kd_false h H.hash.kd (by decide)
      · exact kd_false h H.hash.kd (by decide)
      · exact kd_false h H.hash.kd (by decide)
      · obtain ⟨_, _, r0, _⟩ := H.tab.tmp
        exact kd_false (r0.kd h) H.hash.kd (by decide)
    · rcases H.tab.kd hi with h | h | h | h
      · exact kd_false h hbk (by decide)
      · exact kd_false h hbk (by decide)
      · exact kd_false h hbk (by decide)
      · exact H.sep _ h rfl
  · rcases e with rfl | rfl
    · exact kd_false (H.fns.kd hi) H.hash.kd (by decide)
    · exact kd_false (H.fns.kd hi) hbk (by decide)
  · rcases e' with rfl | rfl
    · exact kd_false ((H.encs e he).kd hi) H.hash.kd (by decide)
    · exact (H.sepE e he _ hi).1 rfl
  · rcases e with rfl | rfl
    · exact H.ok _ (.inr (.inl rfl))
    · exact H.ok _ (.inr (.inr (.inr (.inl rfl))))
/-- A function more. -/
theorem Bd.more {fv' ev : Value} {l : List UInt8} (H : Bd Q w g gh mb st tm fv bt n xs p q m all h E) (k : Keep (Own fv) w w') (r : Row w' 93 1 fv' (E.length + 1) (Evs E ++ [ev])) (lf : ∀ b, fv'.ownBlock = some b → fv.ownBlock = some b ∨ w.heap.size ≤ b)
    (re : Row w 5 1 ev l.length (B l)) (hne : ∀ b, ev.ownBlock = some b → bt.ownBlock ≠ some b ∧ tm.ownBlock ≠ some b) (hq : ∀ b, ev.ownBlock = some b → Q b) :
    Bd Q (w'.setCell ⟨g, 4, none⟩ fv') g gh mb st tm fv' bt n xs p q m all h (E ++ [(ev, l)]) ∧ Keep Q w (w'.setCell ⟨g, 4, none⟩ fv') ∧ Blk w' g (tcells mb st tm false (brest fv bt gh p q m)) 87 := by
  have hbk : ∀ b, fv.ownBlock = some b → Kd w b = some 93 := fun b hb => H.fns.kd hb
  have t1 : Tab w' g 87 (brest fv bt gh p q m) mb st tm false all := H.tab.keep k (fun i hi e => by
    have e := hbk i e
    rcases H.tab.kd hi with h | h | h | h
    · exact kd_false h e (by decide)
    · exact kd_false h e (by decide)
    · exact kd_false h e (by decide)
    · obtain ⟨_, _, r0, _⟩ := H.tab.tmp
      exact kd_false (r0.kd h) e (by decide))
  have hh : Blk w' gh [.int .u64 h.1, .int .u64 h.2] 124 := H.hash.keep k (fun e => kd_false H.hash.kd (hbk _ e) (by decide))
  have hr : Row w' 5 1 bt n xs := H.row.keep k (fun b hb e => kd_false (H.row.kd hb) (hbk _ e) (by decide))
  have he : ∀ e ∈ E ++ [(ev, l)], Row w' 5 1 e.1 e.2.length (B e.2) := fun e he => by
    rcases List.mem_append.1 he with he | he
    · exact (H.encs e he).keep k (fun b hb e' => kd_false ((H.encs e he).kd hb) (hbk _ e') (by decide))
    · simp at he; subst he
      exact re.keep k (fun b hb e' => kd_false (re.kd hb) (hbk _ e') (by decide))
  have t2 := t1.setRest (by decide) (by decide) 0 fv'
  have k2 := Keep.one w' g 4 fv'
  have hg := t1.blk.kd
  refine ⟨⟨t2, hh.keep k2 (fun e => ?_), H.l1, H.l2, hr.keep k2 (fun b hb e => ?_), H.shape, ?_, fun e he' => (he e he').keep k2 (fun b hb e => ?_), H.sep, ?_, ?_, ?_⟩, ?_, t1.blk⟩
  · exact kd_false hh.kd (kd_at e hg) (by decide)
  · exact kd_false (hr.kd hb) (kd_at e hg) (by decide)
  · have := r.keep k2 (fun b hb e => kd_false (r.kd hb) (kd_at e hg) (by decide))
    simpa [Evs] using this
  · exact kd_false ((he _ he').kd hb) (kd_at e hg) (by decide)
  · intro e he' b hb
    rcases List.mem_append.1 he' with h | h
    · exact H.sepE e h b hb
    · simp at h; subst h
      exact hne b hb
  · intro i hi
    rcases hi with hi | hi | hi | hi | ⟨e, he', hi⟩
    · exact H.ok i (.inl hi)
    · exact H.ok i (.inr (.inl hi))
    · rcases lf i hi with h | h
      · exact H.ok i (.inr (.inr (.inl h)))
      · exact H.fresh i h
    · exact H.ok i (.inr (.inr (.inr (.inl hi))))
    · rcases List.mem_append.1 he' with h | h
      · exact H.ok i (.inr (.inr (.inr (.inr ⟨e, h, hi⟩))))
      · simp at h; subst h
        exact hq i hi
  · intro i hi
    exact H.fresh i (Nat.le_trans k.size (by simpa using hi))
  · exact (k.mono (fun i _ e => H.ok i (.inr (.inr (.inl e))))).setAt _ _ _ (H.ok g (.inl (.inl rfl)))
end
end Go.Proofs.YtbmidlaakbpnlaaDoor
