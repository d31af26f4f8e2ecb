/-
  WHAT A BUILDER WRITES: words; a builder beside a writer of bytes.
-/
import Derived.Test.YtbmidlaakbpnlaaDoorMe5
import Derived.Test.YtbmidlaakbpnlaaDoorKc
namespace Go.Proofs.YtbmidlaakbpnlaaDoor
open Go.RowKit
open Go.ChangeShapes Go.WideShapes Go.ChangeAt Go.Deep
open Plain (M64)

/-- What functions make of a builder. -/
structure Ms where
  all : List ByteArray
  hash : Nat × Nat
  es : List (List UInt8)
def Ms.step (s : Ms) (d : Dsc) : Ms := ⟨added (added s.all d.name) d.file, fnvs s.hash d.hash, s.es ++ [encF s.all d]⟩
def Ms.start (path name mod : ByteArray) : Ms := ⟨tabN path name mod, hashN path name mod, []⟩
def Ms.run (path name mod : ByteArray) (l : List Dsc) : Ms := l.foldl Ms.step (Ms.start path name mod)
theorem Ms.run_snoc {path name mod : ByteArray} {l : List Dsc} {k : Nat} (h : k < l.length) : Ms.run path name mod (l.take (k + 1)) = (Ms.run path name mod (l.take k)).step l[k] := by
  rw [List.take_succ_eq_append_getElem h, Ms.run, List.foldl_append]
  rfl
theorem encF_len (all : List ByteArray) (d : Dsc) (hf : ∀ u ∈ d.units, u.fit) (hul : d.units.length ≤ 1000) (hal : all.length ≤ 900) : (encF all d).length ≤ 40 + 50 * d.units.length ∧ 4 ≤ (encF all d).length := by
  have hp1 := place_le all d.name
  have hp2 := place_le (added all d.name) d.file
  have ha1 := added_length all d.name
  have hlU := uleb_len64 (v := d.units.length) (by unfold M64; omega)
  have hlN := uleb_len64 (v := place all d.name) (by unfold M64; omega)
  have hlF := uleb_len64 (v := place (added all d.name) d.file) (by unfold M64; omega)
  have hll := litN_lt d.lit
  have hlL := uleb_len64 (v := litN d.lit) (by unfold M64; omega)
  have h1 := List.length_pos_iff.2 (uleb_ne d.units.length)
  have h2 := List.length_pos_iff.2 (uleb_ne (place all d.name))
  have h3 := List.length_pos_iff.2 (uleb_ne (place (added all d.name) d.file))
  have h4 := List.length_pos_iff.2 (uleb_ne (litN d.lit))
  have hu := ulebs_len d.units hf d.units.length
  rw [List.take_of_length_le (Nat.le_refl _)] at hu
  unfold encF
  simp only [List.length_append]
  omega
theorem Ms.run_len (path name mod : ByteArray) (l : List Dsc) (hl : l.length ≤ 100) (hu : ∀ d ∈ l, d.units.length ≤ 1000 ∧ ∀ u ∈ d.units, u.fit) : ∀ k, k ≤ l.length →
    (Ms.run path name mod (l.take k)).all.length ≤ 4 + 2 * k ∧ (Ms.run path name mod (l.take k)).es.length = k ∧ ∀ e ∈ (Ms.run path name mod (l.take k)).es, e.length ≤ 60000
  | 0, _ => by
    have := tabN_len path name mod
    simp [Ms.run, Ms.start]
    omega
  | k + 1, hk => by
    obtain ⟨h1, h2, h3⟩ := Ms.run_len path name mod l hl hu k (by omega)
    have hk' : k < l.length := hk
    rw [Ms.run_snoc hk']
    generalize Ms.run path name mod (l.take k) = s at *
    have a1 := added_length s.all l[k].name
    have a2 := added_length (added s.all l[k].name) l[k].file
    obtain ⟨u1, u2⟩ := hu l[k] (List.getElem_mem _)
    have he := encF_len s.all l[k] u2 u1 (by omega)
    refine ⟨by simp [Ms.step]; omega, by simp [Ms.step, h2], fun e hm => ?_⟩
    simp [Ms.step] at hm
    rcases hm with hm | rfl
    · exact h3 e hm
    · omega
theorem flatten_len {b : Nat} : ∀ l : List (List UInt8), (∀ e ∈ l, e.length ≤ b) → l.flatten.length ≤ b * l.length
  | [], _ => by simp
  | x :: l, h => by
    have := flatten_len l (fun e he => h e (by simp [he]))
    have := h x (by simp)
    rw [List.flatten_cons, List.length_append, List.length_cons, Nat.mul_succ]
    omega
theorem flatten_take_le (l : List (List UInt8)) (k : Nat) : (l.take k).flatten.length ≤ l.flatten.length := by
  have : l.flatten = (l.take k).flatten ++ (l.drop k).flatten := by rw [← List.flatten_append, List.take_append_drop]
  rw [this]; simp
theorem flatten_snoc {l : List (List UInt8)} {k : Nat} (h : k < l.length) : (l.take (k + 1)).flatten = (l.take k).flatten ++ l[k] := by
  rw [List.take_succ_eq_append_getElem h, List.flatten_append, List.flatten_cons, List.flatten_nil, List.append_nil]
/-- Where the functions' bytes begin. -/
def offs : Nat → List (List UInt8) → List UInt8
  | _, [] => []
  | o, e :: l => leB 4 o ++ offs (o + e.length) l
theorem offs_length : ∀ (l : List (List UInt8)) o, (offs o l).length = 4 * l.length
  | [], _ => rfl
  | e :: l, o => by simp [offs, leB_length, offs_length l]; omega
theorem offs_append : ∀ (l : List (List UInt8)) o e, offs o (l ++ [e]) = offs o l ++ leB 4 (o + l.flatten.length)
  | [], o, e => by simp [offs]
  | x :: l, o, e => by
    rw [List.cons_append, offs, offs_append l, offs]
    simp [Nat.add_assoc]
theorem offs_snoc {l : List (List UInt8)} {k : Nat} (o : Nat) (h : k < l.length) : offs o (l.take (k + 1)) = offs o (l.take k) ++ leB 4 (o + (l.take k).flatten.length) := by
  rw [List.take_succ_eq_append_getElem h, offs_append]
/-- The head. -/
def mhead (len p q m : Nat) (dig : List UInt8) (nf nn : Nat) : List UInt8 := leB 4 len ++ leB 4 q ++ leB 4 p ++ leB 4 m ++ dig ++ [0, 0, 0, 0] ++ leB 4 nf ++ leB 4 nn
theorem mhead_length (len p q m : Nat) (dig : List UInt8) (nf nn : Nat) (hd : dig.length = 16) : (mhead len p q m dig nf nn).length = 44 := by simp [mhead, leB_length, hd]
def mbase (s : Ms) : Nat := 44 + (tbytes s.all).length + 4 * s.es.length
def mtail (s : Ms) : List UInt8 := offs (mbase s) s.es ++ tbytes s.all ++ s.es.flatten
/-- All bytes. -/
def mbytes (s : Ms) (len p q m : Nat) : List UInt8 := mhead len p q m (digest s.hash) s.all.length s.es.length ++ mtail s
def mtotal (s : Ms) : Nat := mbase s + s.es.flatten.length
theorem mbytes_length (s : Ms) (len p q m : Nat) : (mbytes s len p q m).length = mtotal s := by
  rw [mbytes, List.length_append, mhead_length _ _ _ _ _ _ _ (digest_length _), mtail, mtotal, mbase]
  simp only [List.length_append, offs_length]
  omega
theorem mbytes_patch (s : Ms) (len p q m : Nat) : wrote (mbytes s 0 p q m) 0 (leB 4 len) = mbytes s len p q m := by
  rw [wrote, leB_length, List.take_zero, mbytes, mhead, mbytes, mhead]
  simp [leB]
/-- A builder, and a writer of bytes beside it. -/
structure EW (Q : Nat → Prop) (w : World) (g gh mb : Nat) (st tm fv bt : Value) (n : Nat) (xs : List Value) (p q m : Nat) (all : List ByteArray) (h : Nat × Nat) (E : List (Value × List UInt8)) (gw : Nat) (pv : Value) (pos : Nat) (bs : List UInt8) : Prop where
  bd : Bd Q w g gh mb st tm fv bt n xs p q m all h E
  wr : Wr w gw pv pos bs
  sep : ∀ b, pv.ownBlock = some b → ¬ BdF g gh mb st tm fv bt E b
  qg : Q gw
  qp : ∀ b, pv.ownBlock = some b → Q b
section
variable {Q : Nat → Prop} {w w' : World} {g gh mb gw : Nat} {st tm fv bt pv : Value} {n pos : Nat} {xs : List Value} {p q m : Nat} {all : List ByteArray} {h : Nat × Nat} {E : List (Value × List UInt8)} {bs : List UInt8}
theorem EW.ngw (H : EW Q w g gh mb st tm fv bt n xs p q m all h E gw pv pos bs) : ¬ BdF g gh mb st tm fv bt E gw := fun hi => by
  rcases H.bd.kd hi with h | h | h | h | h | h <;> exact kd_false h H.wr.blk.kd (by decide)
theorem EW.far (H : EW Q w g gh mb st tm fv bt n xs p q m all h E gw pv pos bs) (k : Keep Non w w') : EW Q w' g gh mb st tm fv bt n xs p q m all h E gw pv pos bs :=
  ⟨H.bd.far k, ⟨H.wr.blk.keep k (fun h => h), H.wr.row.keep k (fun _ _ h => h), H.wr.le⟩, H.sep, H.qg, H.qp⟩
theorem EW.drew (H : EW Q w g gh mb st tm fv bt n xs p q m all h E gw pv pos bs) : EW Q w.drew g gh mb st tm fv bt n xs p q m all h E gw pv pos bs := H.far (Keep.refl _ _).drew
/-- Something was written. -/
theorem EW.write {pv' : Value} {pos' : Nat} {bs' : List UInt8} (H : EW Q w g gh mb st tm fv bt n xs p q m all h E gw pv pos bs) (hw : Wr w' gw pv' pos' bs') (k : Keep (fun i => i = gw ∨ pv.ownBlock = some i) w w') (l : ∀ b, pv'.ownBlock = some b → pv.ownBlock = some b ∨ w.heap.size ≤ b) :
    EW Q w' g gh mb st tm fv bt n xs p q m all h E gw pv' pos' bs' ∧ Keep Q w w' := by
  refine ⟨⟨H.bd.keep k (fun i hi e => ?_), hw, fun b hb e => ?_, H.qg, fun b hb => ?_⟩, k.mono (fun i _ e => ?_)⟩
  · rcases e with rfl | e
    · exact H.ngw hi
    · exact H.sep i e hi
  · rcases l b hb with h | h
    · exact H.sep b h e
    · have := H.bd.lt e; omega
  · rcases l b hb with h | h
    · exact H.qp b h
    · exact H.bd.fresh b h
  · rcases e with rfl | e
    · exact H.qg
    · exact H.qp i e
/-- Its scratch is another one. -/
theorem EW.laid {bt' : Value} {n' c' b' : Nat} {ys : List Value} (H : EW Q w g gh mb st tm fv bt n xs p q m all h E gw pv pos bs) (k : Keep (Own bt) w w') (hv : bt' = .slice (some ⟨b', 0, none⟩) n' c') (r : Row w' 5 1 bt' n' ys)
    (l : ∀ b, bt'.ownBlock = some b → bt.ownBlock = some b ∨ w.heap.size ≤ b) :
    Blk w' g (tcells mb st tm false (brest fv bt gh p q m)) 87 ∧ EW Q (w'.setCell ⟨g, 5, none⟩ bt') g gh mb st tm fv bt' n' ys p q m all h E gw pv pos bs ∧ Keep Q w (w'.setCell ⟨g, 5, none⟩ bt') := by
  obtain ⟨t, b, q1⟩ := H.bd.laid k hv r l
  have hgw : gw ≠ g := fun e => H.ngw (by rw [e]; exact .inl (.inl rfl))
  have hpg : ∀ b, pv.ownBlock = some b → b ≠ g := fun b hb e => H.sep b hb (by rw [e]; exact .inl (.inl rfl))
  refine ⟨t, ⟨b, ⟨(H.wr.blk.keep k (fun e => H.ngw (.inr (.inr (.inr (.inl e)))))).setOther hgw _, (H.wr.row.keep k (fun b hb e => H.sep b hb (.inr (.inr (.inr (.inl e)))))).keep (Keep.one w' g 5 _) (fun b hb e => hpg b hb e), H.wr.le⟩, fun b hb e => ?_, H.qg, H.qp⟩, q1⟩
  rcases e with e | e | e | e | e
  · exact H.sep b hb (.inl e)
  · exact H.sep b hb (.inr (.inl e))
  · exact H.sep b hb (.inr (.inr (.inl e)))
  · rcases l b e with h | h
    · exact H.sep b hb (.inr (.inr (.inr (.inl h))))
    · have := H.wr.row.lt hb; omega
  · exact H.sep b hb (.inr (.inr (.inr (.inr e))))
/-- Its table's scratch is another one, and more was written. -/
theorem EW.tabw {tm' pv' : Value} {bs' : List UInt8} (H : EW Q w g gh mb st tm fv bt n xs p q m all h E gw pv bs.length bs) (t : TE w' g 87 (brest fv bt gh p q m) mb st tm' false all gw pv' bs') (k : Keep (TWF g gw tm pv) w w')
    (l1 : ∀ b, tm'.ownBlock = some b → tm.ownBlock = some b ∨ w.heap.size ≤ b) (l2 : ∀ b, pv'.ownBlock = some b → pv.ownBlock = some b ∨ w.heap.size ≤ b) :
    EW Q w' g gh mb st tm' fv bt n xs p q m all h E gw pv' bs'.length bs' ∧ Keep Q w w' := by
  obtain ⟨_, _, r0, _⟩ := H.bd.tab.tmp
  have hS : ∀ i, TWF g gw tm pv i → Kd w i = some 87 ∨ Kd w i = some 5 ∨ Kd w i = some 66 := by
    intro i hi
    rcases hi with rfl | hi | rfl | hi
    · exact .inl H.bd.tab.blk.kd
    · exact .inr (.inl (r0.kd hi))
    · exact .inr (.inr H.wr.blk.kd)
    · exact .inr (.inl (H.wr.row.kd hi))
  have hne : ∀ i (T : TypeId), Kd w i = some T → T ≠ 87 → T ≠ 5 → T ≠ 66 → ¬ TWF g gw tm pv i := by
    intro i T hT h1 h2 h3 hi
    rcases hS i hi with h | h | h <;> (rw [hT] at h; simp at h)
    · exact h1 h
    · exact h2 h
    · exact h3 h
  have h8 : ∀ i, Kd w i = some 5 → tm.ownBlock ≠ some i → pv.ownBlock ≠ some i → ¬ TWF g gw tm pv i := by
    intro i hT h1 h2 hi
    rcases hi with rfl | hi | rfl | hi
    · exact kd_false hT H.bd.tab.blk.kd (by decide)
    · exact h1 hi
    · exact kd_false hT H.wr.blk.kd (by decide)
    · exact h2 hi
  have hbt : ∀ b, bt.ownBlock = some b → ¬ TWF g gw tm pv b := fun b hb => h8 b (H.bd.row.kd hb) (fun e => H.bd.sep b e hb) (fun e => H.sep b e (.inr (.inr (.inr (.inl hb)))))
  have hen : ∀ e ∈ E, ∀ b, e.1.ownBlock = some b → ¬ TWF g gw tm pv b := fun e he b hb => h8 b ((H.bd.encs e he).kd hb) (H.bd.sepE e he b hb).2 (fun e' => H.sep b e' (.inr (.inr (.inr (.inr ⟨e, he, hb⟩)))))
  have htl : ∀ b, tm.ownBlock = some b → b < w.heap.size := fun b hb => r0.lt hb
  refine ⟨⟨⟨t.tab, H.bd.hash.keep k (hne _ _ H.bd.hash.kd (by decide) (by decide) (by decide)), H.bd.l1, H.bd.l2, H.bd.row.keep k hbt, H.bd.shape, H.bd.fns.keep k (fun b hb => hne _ _ (H.bd.fns.kd hb) (by decide) (by decide) (by decide)), fun e he => (H.bd.encs e he).keep k (hen e he), fun b hb e => ?_, fun e he b hb => ⟨(H.bd.sepE e he b hb).1, fun e' => ?_⟩, fun i hi => ?_, fun i hi => H.bd.fresh i (Nat.le_trans k.size hi)⟩, t.wr, fun b hb e => ?_, H.qg, fun b hb => ?_⟩, k.mono (fun i _ e => ?_)⟩
  · rcases l1 b hb with h | h
    · exact H.bd.sep b h e
    · have := H.bd.row.lt e; omega
  · rcases l1 b e' with h | h
    · exact (H.bd.sepE e he b hb).2 h
    · have := (H.bd.encs e he).lt hb; omega
  · rcases hi with (hi | hi | hi | hi) | hi | hi | hi | hi
    · exact H.bd.ok i (.inl (.inl hi))
    · exact H.bd.ok i (.inl (.inr (.inl hi)))
    · exact H.bd.ok i (.inl (.inr (.inr (.inl hi))))
    · rcases l1 i hi with h | h
      · exact H.bd.ok i (.inl (.inr (.inr (.inr h))))
      · exact H.bd.fresh i h
    · exact H.bd.ok i (.inr (.inl hi))
    · exact H.bd.ok i (.inr (.inr (.inl hi)))
    · exact H.bd.ok i (.inr (.inr (.inr (.inl hi))))
    · exact H.bd.ok i (.inr (.inr (.inr (.inr hi))))
  · have hb2 : ∀ i, (BdF g gh mb st tm fv bt E i) → pv.ownBlock = some b ∨ w.heap.size ≤ b → i ≠ b := fun i hi hl e => by
      subst e
      rcases hl with h | h
      · exact H.sep _ h hi
      · have := H.bd.lt hi; omega
    rcases e with (e | e | e | e) | e | e | e | e
    · exact hb2 b (.inl (.inl e)) (l2 b hb) rfl
    · exact hb2 b (.inl (.inr (.inl e))) (l2 b hb) rfl
    · exact hb2 b (.inl (.inr (.inr (.inl e)))) (l2 b hb) rfl
    · exact t.sep b e hb
    · exact hb2 b (.inr (.inl e)) (l2 b hb) rfl
    · exact hb2 b (.inr (.inr (.inl e))) (l2 b hb) rfl
    · exact hb2 b (.inr (.inr (.inr (.inl e)))) (l2 b hb) rfl
    · exact hb2 b (.inr (.inr (.inr (.inr e)))) (l2 b hb) rfl
  · rcases l2 b hb with h | h
    · exact H.qp b h
    · exact H.bd.fresh b h
  · rcases e with rfl | e | rfl | e
    · exact H.bd.ok i (.inl (.inl rfl))
    · exact H.bd.ok i (.inl (.inr (.inr (.inr e))))
    · exact H.qg
    · exact H.qp i e
/-- The table's scratch is another one. -/
theorem EW.tabs {tm' : Value} (H : EW Q w g gh mb st tm fv bt n xs p q m all h E gw pv bs.length bs) (t : Tab w' g 87 (brest fv bt gh p q m) mb st tm' false all) (k : Keep (fun i => i = g ∨ tm.ownBlock = some i) w w')
    (l1 : ∀ b, tm'.ownBlock = some b → tm.ownBlock = some b ∨ w.heap.size ≤ b) :
    EW Q w' g gh mb st tm' fv bt n xs p q m all h E gw pv bs.length bs ∧ Keep Q w w' := by
  have k' : Keep (TWF g gw tm pv) w w' := k.mono (fun i _ e => e.elim .inl (fun e => .inr (.inl e)))
  have hgw : ¬ (gw = g ∨ tm.ownBlock = some gw) := fun e => by
    rcases e with e | e
    · exact H.ngw (.inl (.inl e))
    · exact H.ngw (.inl (.inr (.inr (.inr e))))
  have hpv : ∀ b, pv.ownBlock = some b → ¬ (b = g ∨ tm.ownBlock = some b) := fun b hb e => by
    rcases e with e | e
    · exact H.sep b hb (.inl (.inl e))
    · exact H.sep b hb (.inl (.inr (.inr (.inr e))))
  refine H.tabw (bs' := bs) ⟨t, ⟨H.wr.blk.keep k hgw, H.wr.row.keep k hpv, H.wr.le⟩, fun b hb e => ?_⟩ k' l1 (fun b hb => .inl hb)
  rcases l1 b hb with h | h
  · exact H.sep b e (.inl (.inr (.inr (.inr h))))
  · have := H.wr.row.lt e; omega
/-- Its scratch reads otherwise. -/
theorem EW.rowed {ys : List Value} (H : EW Q w g gh mb st tm fv bt n xs p q m all h E gw pv pos bs) (k : Keep (Own bt) w w') (r : Row w' 5 1 bt n ys) : EW Q w' g gh mb st tm fv bt n ys p q m all h E gw pv pos bs ∧ Keep Q w w' := by
  have hbk : ∀ b, bt.ownBlock = some b → Kd w b = some 5 := fun b hb => H.bd.row.kd hb
  refine ⟨⟨⟨H.bd.tab.keep k (fun i hi e => ?_), H.bd.hash.keep k (fun e => kd_false H.bd.hash.kd (hbk _ e) (by decide)), H.bd.l1, H.bd.l2, r, H.bd.shape, H.bd.fns.keep k (fun b hb e => kd_false (H.bd.fns.kd hb) (hbk _ e) (by decide)), fun e he => (H.bd.encs e he).keep k (fun b hb e' => (H.bd.sepE e he b hb).1 e'), H.bd.sep, H.bd.sepE, H.bd.ok, fun i hi => H.bd.fresh i (Nat.le_trans k.size hi)⟩, ⟨H.wr.blk.keep k (fun e => H.ngw (.inr (.inr (.inr (.inl e))))), H.wr.row.keep k (fun b hb e => H.sep b hb (.inr (.inr (.inr (.inl e))))), H.wr.le⟩, H.sep, H.qg, H.qp⟩, k.mono (fun i _ e => H.bd.ok i (.inr (.inr (.inr (.inl e)))))⟩
  have e := hbk i e
  rcases H.bd.tab.kd hi with h | h | h | h
  · exact kd_false h e (by decide)
  · exact kd_false h e (by decide)
  · exact kd_false h e (by decide)
  · exact H.bd.sep i h (by assumption)
/-- Behind a write of N bytes. -/
def EWrPost (Q : Nat → Prop) (g gh mb : Nat) (st tm fv bt : Value) (n : Nat) (xs : List Value) (p q m : Nat) (all : List ByteArray) (h : Nat × Nat) (E : List (Value × List UInt8)) (gw pos N : Nat) (bs ds : List UInt8) (w : World) (e : Ending) (w' : World) : Prop :=
  ∃ pv', e = .returned (.tuple #[.int .i64 (N : Nat), .nilIface]) ∧ EW Q w' g gh mb st tm fv bt n xs p q m all h E gw pv' (pos + N) (wrote bs pos ds) ∧ Keep Q w w'
theorem EW.swrite (H : EW Q w g gh mb st tm fv bt n xs p q m all h E gw pv pos bs) (sv : Value) (N : Nat) (ds : List UInt8) (hN : ds.length = N) (hs : Reads w 1 sv N (B ds)) (hbl : bs.length ≤ 4000000000) (hdl : N ≤ 4000000000) (hne : 0 < N → ∀ b, sv.ownBlock = some b → b ≠ gw ∧ pv.ownBlock ≠ some b) :
    Calls Tryd.prog 79 #[.pointer (some ⟨gw, 0, none⟩), sv] w (EWrPost Q g gh mb st tm fv bt n xs p q m all h E gw pos N bs ds w) := by
  subst hN
  refine (Go.Proofs.YtbmidlaakbpnlaaDoor.swrite gw pv sv pos bs ds w H.wr hs hbl hdl hne).mono ?_
  rintro e w' ⟨pv', rfl, hw, k, l⟩
  obtain ⟨h1, h2⟩ := H.write hw k l
  exact ⟨pv', rfl, h1, h2⟩
end
end Go.Proofs.YtbmidlaakbpnlaaDoor
