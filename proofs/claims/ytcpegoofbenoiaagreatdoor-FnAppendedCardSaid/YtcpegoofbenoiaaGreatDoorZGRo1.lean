/-
  WHAT impl.ReadCounters holds on its way.
-/
import Derived.Test.YtcpegoofbenoiaaGreatDoorZRn1
import Derived.Test.YtcpegoofbenoiaaGreatDoorZRn3
namespace Go.Proofs.YtcpegoofbenoiaaGreatDoor
open Go.RowKit
open Go.ChangeShapes Go.WideShapes Go.ChangeAt Go.Deep
open Plain (M64)

theorem nextT (packed : Bool) (f : Fc) (fe gd g bb c p bu b8 nseg fc sc gp n0 a b m : Nat) (cs : List Value) (bs r : List UInt8) (v : Value) (xs : List Value) (w : World) (h : CD w gd g bb c p bu b8 (if packed then 2 else 1) nseg fc sc cs bs) (h48 : cs[48]? = some (.int .u64 fe)) (hfc : fc < fe) (hfe : fe ≤ 1000)
    (hp : Pay w gp n0 a b v m xs) (hlo : Low n0 gd g bb bu b8) (hbs : bs.drop p = fcB packed f ++ r) (hl : bs.length ≤ 1000000) (hf1 : f.cs.length ≤ 12) (hf2 : f.pkg < 4294967296 ∧ f.fn < 4294967296 ∧ ∀ x ∈ f.cs, x < 4294967296) :
    Calls Tryz.prog 30 #[.pointer (some ⟨gd, 0, none⟩), .pointer (some ⟨gp, 0, none⟩)] w (NextPost f gd g bb c (p + (fcB packed f).length) bu b8 (if packed then 2 else 1) nseg (fc + 1) sc gp n0 (cs.set 53 (.int .u32 ((fc : Int) + 1))) bs v w) := by
  cases packed with
  | true => exact next1T f fe gd g bb c p bu b8 nseg fc sc gp n0 a b m cs bs r v xs w h h48 hfc hfe hp hlo hbs hl hf1 hf2
  | false => exact next3T f fe gd g bb c p bu b8 nseg fc sc gp n0 a b m cs bs r v xs w h h48 hfc hfe hp hlo hbs hl hf1 hf2
theorem sliceIF : SliceT Tryz.prog 25 82 (.agg #[.int .u32 0, .int .u32 0, .slice none 0 0]) 3 32 := ⟨Tryz.underlying25, by kernel_rfl, rfl, by decide⟩
theorem sliceIS : SliceT Tryz.prog 23 27 (.agg #[.slice none 0 0, .string ⟨#[]⟩, .string ⟨#[]⟩, .slice none 0 0]) 4 80 := ⟨Tryz.underlying23, by kernel_rfl, rfl, by decide⟩
/-- A segment that was read: its rows. -/
structure Got (w : World) (n0 : Nat) (x : SgV) : Prop where
  args : Row w 9 1 x.av x.args.length (Ts x.args)
  funs : Row w 82 3 x.fv x.funs.length (x.funs.flatMap fl3)
  cs : ∀ y ∈ x.funs, Row w 36 1 y.2 y.1.cs.length (U32 y.1.cs)
  oa : ∀ b, x.av.ownBlock = some b → n0 ≤ b
  of : ∀ b, x.fv.ownBlock = some b → n0 ≤ b
  oc : ∀ y ∈ x.funs, ∀ b, y.2.ownBlock = some b → n0 ≤ b
section
variable {w w' : World} {n0 : Nat} {x : SgV}
theorem Got.keep {S : Nat → Prop} (h : Got w n0 x) (k : Keep S w w') (ha : ∀ b, x.av.ownBlock = some b → ¬ S b) (hf : ∀ b, x.fv.ownBlock = some b → ¬ S b) (hc : ∀ y ∈ x.funs, ∀ b, y.2.ownBlock = some b → ¬ S b) : Got w' n0 x :=
  ⟨h.args.keep k ha, h.funs.keep k hf, fun y hy => (h.cs y hy).keep k (hc y hy), h.oa, h.of, h.oc⟩
theorem Got.low {S : Nat → Prop} (h : Got w n0 x) (k : Keep S w w') (hS : ∀ i, S i → i < n0) : Got w' n0 x :=
  h.keep k (fun b hb e => by have := hS _ e; have := h.oa b hb; omega) (fun b hb e => by have := hS _ e; have := h.of b hb; omega) (fun y hy b hb e => by have := hS _ e; have := h.oc y hy b hb; omega)
theorem Got.fr (h : Got w n0 x) : FR w x.fv x.funs := ⟨h.funs.reads, fun y hy => (h.cs y hy).reads⟩
end
/-- What has been put together. -/
structure OutR (w : World) (n0 : Nat) (ov : Value) (L : List SgV) : Prop where
  row : Row w 27 4 ov L.length (L.flatMap sl4)
  own : ∀ b, ov.ownBlock = some b → n0 ≤ b
  each : ∀ x ∈ L, Got w n0 x
section
variable {w w' : World} {n0 : Nat} {ov : Value} {L : List SgV}
theorem OutR.low {S : Nat → Prop} (h : OutR w n0 ov L) (k : Keep S w w') (hS : ∀ i, S i → i < n0) : OutR w' n0 ov L :=
  ⟨h.row.keep k (fun b hb e => by have := hS _ e; have := h.own b hb; omega), h.own, fun x hx => (h.each x hx).low k hS⟩
theorem OutR.segR (h : OutR w n0 ov L) : SegR w ov L := ⟨h.row.reads, fun x hx => (h.each x hx).args.reads, fun x hx => (h.each x hx).fr⟩
/-- One more. -/
theorem OutR.more {ov' : Value} {x : SgV} (h : OutR w n0 ov L) (hx : Got w n0 x) (g : Grew w w' ov ov') (r : Row w' 27 4 ov' (L.length + 1) (L.flatMap sl4 ++ sl4 x)) (hn : n0 ≤ w.heap.size) : OutR w' n0 ov' (L ++ [x]) := by
  have hgot : ∀ y, Got w n0 y → Got w' n0 y := fun y hy => hy.keep g.keep (fun b hb e => hy.args.ne h.row (by decide) hb e) (fun b hb e => hy.funs.ne h.row (by decide) hb e) (fun z hz b hb e => (hy.cs z hz).ne h.row (by decide) hb e)
  refine ⟨by simpa [List.flatMap_append] using r, fun b hb => ?_, fun y hy => ?_⟩
  · rcases g.lies hb with e | e
    · exact h.own b e
    · omega
  · rcases List.mem_append.1 hy with hy | hy
    · exact hgot y (h.each y hy)
    · rw [List.mem_singleton.1 hy]; exact hgot x hx
end
/-- A segment while its functions are read: its box, the payload beside it. -/
structure InR (w : World) (n0 gs gp : Nat) (x : SgV) (a b : Nat) (v : Value) (m : Nat) (xs : List Value) : Prop where
  got : Got w n0 x
  box : Blk w gs (sl4 x) 27
  pay : Pay w gp n0 a b v m xs
  sep : ∀ y ∈ x.funs, ∀ b, y.2.ownBlock = some b → v.ownBlock ≠ some b
  le : n0 ≤ gs
section
variable {w w' : World} {n0 gs gp : Nat} {x : SgV} {a b m : Nat} {v : Value} {xs : List Value}
theorem InR.low {S : Nat → Prop} (h : InR w n0 gs gp x a b v m xs) (k : Keep S w w') (hS : ∀ i, S i → i < n0) : InR w' n0 gs gp x a b v m xs :=
  ⟨h.got.low k hS, h.box.keep k (fun e => by have := hS _ e; have := h.le; omega), h.pay.low k hS, h.sep, h.le⟩
/-- A function was read into the payload. -/
theorem InR.read {f : Fc} {v' : Value} {S : Nat → Prop} (h : InR w n0 gs gp x a b v m xs) (k : Keep S w w') (hS : ∀ i, S i → i < n0 ∨ i = gp ∨ v.ownBlock = some i) (hp : Pay w' gp n0 f.pkg f.fn v' f.cs.length (U32 f.cs)) (ho : ∀ b, v'.ownBlock = some b → v.ownBlock = some b ∨ w.heap.size ≤ b) : InR w' n0 gs gp x f.pkg f.fn v' f.cs.length (U32 f.cs) := by
  refine ⟨h.got.keep k (fun b hb e => ?_) (fun b hb e => ?_) (fun y hy b hb e => ?_), h.box.keep k (fun e => ?_), hp, fun y hy b hb e => ?_, h.le⟩
  · rcases hS b e with e | e | e
    · have := h.got.oa b hb; omega
    · exact h.got.args.neBlk h.pay.blk (by decide) (by rw [hb, e])
    · exact h.got.args.ne h.pay.row (by decide) hb e
  · rcases hS b e with e | e | e
    · have := h.got.of b hb; omega
    · exact h.got.funs.neBlk h.pay.blk (by decide) (by rw [hb, e])
    · exact h.got.funs.ne h.pay.row (by decide) hb e
  · rcases hS b e with e | e | e
    · have := h.got.oc y hy b hb; omega
    · exact (h.got.cs y hy).neBlk h.pay.blk (by decide) (by rw [hb, e])
    · exact h.sep y hy b hb e
  · rcases hS gs e with e | e | e
    · have := h.le; omega
    · exact h.box.ne h.pay.blk (by decide) e
    · exact h.pay.row.neBlk h.box (by decide) e
  · rcases ho b e with e | e
    · exact h.sep y hy b hb e
    · have := (h.got.cs y hy).lt hb; omega
/-- The function that stands in the payload was copied (v5) and put behind the others (v8). -/
theorem InR.put {f : Fc} {v5 v8 : Value} {w5 w8 : World} (h : InR w n0 gs gp x f.pkg f.fn v m xs) (hn0 : n0 ≤ w.heap.size)
    (k5 : Keep Non w w5) (r5 : Row w5 36 1 v5 f.cs.length (U32 f.cs)) (o5 : ∀ b, v5.ownBlock = some b → w.heap.size ≤ b)
    (k8 : Keep (fun i => x.fv.ownBlock = some i) w5 w8) (r8 : Row w8 82 3 v8 (x.funs.length + 1) (x.funs.flatMap fl3 ++ fl3 (f, v5))) (o8 : ∀ b, v8.ownBlock = some b → x.fv.ownBlock = some b ∨ w.heap.size ≤ b) :
    InR (w8.setCell ⟨gs, 3, none⟩ v8) n0 gs gp { x with funs := x.funs ++ [(f, v5)], fv := v8 } f.pkg f.fn v m xs := by
  have hb8 : Blk w8 gs (sl4 x) 27 := (h.box.keep k5 (fun h => h)).keep k8 (fun e => h.got.funs.neBlk h.box (by decide) e)
  have h5 := h.got.low k5 (fun _ h => h.elim)
  have hne : ∀ {e : TypeId} {size n : Nat} {u : Value} {us : List Value}, Row w8 e size u n us → e ≠ 27 → u.ownBlock ≠ some gs := fun hr he e => hr.neBlk hb8 he e
  have hset : ∀ {e : TypeId} {size n : Nat} {u : Value} {us : List Value}, Row w8 e size u n us → e ≠ 27 → Row (w8.setCell ⟨gs, 3, none⟩ v8) e size u n us := fun hr he => hr.setOther (hne hr he) 3 v8
  have hcs : ∀ y ∈ x.funs ++ [(f, v5)], Row w8 36 1 y.2 y.1.cs.length (U32 y.1.cs) := fun y hy => by
    rcases List.mem_append.1 hy with hy | hy
    · exact (h5.cs y hy).keep k8 (fun b hb e => (h5.cs y hy).ne h5.funs (by decide) hb e)
    · rw [List.mem_singleton.1 hy]
      exact r5.keep k8 (fun b hb e => r5.ne h5.funs (by decide) hb e)
  have hpay : Pay w8 gp n0 f.pkg f.fn v m xs := (h.pay.low k5 (fun _ h => h.elim)).keep k8 (fun e => h.got.funs.neBlk h.pay.blk (by decide) e) (fun b hb e => h.pay.row.ne h.got.funs (by decide) hb e)
  refine ⟨⟨hset (h5.args.keep k8 (fun b hb e => h5.args.ne h5.funs (by decide) hb e)) (by decide), ?_, fun y hy => hset (hcs y hy) (by decide), h.got.oa, fun b hb => ?_, fun y hy b hb => ?_⟩, hb8.set 3 v8, ?_, fun y hy b hb => ?_, h.le⟩
  · have := hset r8 (by decide)
    simpa [List.flatMap_append] using this
  · rcases o8 b hb with e | e
    · exact h.got.of b e
    · omega
  · rcases List.mem_append.1 hy with hy | hy
    · exact h.got.oc y hy b hb
    · rw [List.mem_singleton.1 hy] at hb
      have := o5 b hb; omega
  · exact hpay.keep (Keep.one w8 gs 3 v8) (fun e => hb8.ne hpay.blk (by decide) (Eq.symm e)) (fun b hb e => hpay.row.neBlk hb8 (by decide) (by rw [hb]; exact congrArg some e))
  · rcases List.mem_append.1 hy with hy | hy
    · exact h.sep y hy b hb
    · rw [List.mem_singleton.1 hy] at hb
      intro e
      have := o5 b hb
      have := h.pay.row.lt e
      omega
end
end Go.Proofs.YtcpegoofbenoiaaGreatDoor
/-
  CONTRACTS: the reader of counters within a file.
-/
namespace Go.Proofs.YtcpegoofbenoiaaGreatDoor
open Go.RowKit
open Go.ChangeShapes Go.WideShapes Go.ChangeAt Go.Deep
open Plain (M64)

/-- A file within bounds. -/
structure Fil (packed : Bool) (hash : List UInt8) (C : List Ch) (bs : List UInt8) : Prop where
  file : FileB packed hash C bs
  hh : hash.length = 16
  hl : bs.length ≤ 1000000
  ok : ∀ x ∈ C, x.1.ok
  mono : Mono (C.map (·.1))
  last : LastOnly (C.map (·.1))
  n : C.length ≤ 10
theorem take_at {C : List Ch} {k : Nat} {x : Ch} (h : C[k]? = some x) : C = C.take k ++ x :: C.drop (k + 1) := by
  obtain ⟨h1, h2⟩ := List.getElem?_eq_some_iff.1 h
  rw [← h2, ← List.drop_eq_getElem_cons h1, List.take_append_drop]
theorem fcs_at {packed : Bool} {bs r : List UInt8} {q : Nat} {l : List Fc} (h : bs.drop q = fcsB packed l ++ r) {j : Nat} (hj : j < l.length) : bs.drop (q + (fcsB packed (l.take j)).length) = fcB packed l[j] ++ (fcsB packed (l.drop (j + 1)) ++ r) := by
  have h1 : bs.drop q = fcsB packed (l.take j) ++ (fcsB packed (l.drop j) ++ r) := by
    rw [h, ← List.append_assoc, fcsB, fcsB, fcsB, ← List.flatMap_append, List.take_append_drop]
  rw [drop_num h1, fcsB, List.drop_eq_getElem_cons hj, List.flatMap_cons, List.append_assoc]
  rfl
theorem fcs_take {packed : Bool} {l : List Fc} {j : Nat} (hj : j < l.length) : (fcsB packed (l.take (j + 1))).length = (fcsB packed (l.take j)).length + (fcB packed l[j]).length := by
  rw [fcsB, fcsB, List.take_succ_eq_append_getElem hj, List.flatMap_append, List.length_append]
  simp
section
variable {packed : Bool} {hash : List UInt8} {C : List Ch} {bs : List UInt8} {k : Nat} {x t : Ch}
theorem Fil.nofun (h : Fil packed hash C bs) {n : Nat} (hn : n + 1 ≤ C.length) : ∀ y ∈ C.take n, y.1.funs = [] := fun y hy => by
  obtain ⟨i, hi, rfl⟩ := List.getElem_of_mem hy
  have hi' : i < n := by simp at hi; omega
  have := last_at (C.map (·.1)) i (by simp; omega) h.last
  simpa using this
theorem Fil.fe (h : Fil packed hash C bs) (hx : C[k]? = some x) : feOf (C.take k) = 0 := feOf_zero _ (h.nofun (by have := (List.getElem?_eq_some_iff.1 hx).1; omega))
theorem Fil.four (h : Fil packed hash C bs) (hx : C[k]? = some x) : posOf packed (C.take k) % 4 = 0 := posOf_four packed _ (h.nofun (by have := (List.getElem?_eq_some_iff.1 hx).1; omega))
theorem Fil.seg (h : Fil packed hash C bs) (hx : C[k]? = some x) : ∃ r, bs.drop (posOf packed (C.take k)) = segB packed x.1.funs.length x.2.1 (prsOf x.1 x.2.1 x.2.2) x.1.funs ++ r := by
  have h1 := h.file
  rw [take_at hx] at h1
  have h2 := h1.from h.hh
  rw [h.fe hx, Nat.zero_add] at h2
  exact ⟨_, h2⟩
theorem Fil.funs (h : Fil packed hash C bs) (hx : C[k]? = some x) : ∃ r, bs.drop (posOf packed (C.take k) + headL x.1 x.2.1 x.2.2) = fcsB packed x.1.funs ++ r := by
  obtain ⟨r, hr⟩ := h.seg hx
  have e : segB packed x.1.funs.length x.2.1 (prsOf x.1 x.2.1 x.2.2) x.1.funs = (shdrB x.1.funs.length (tbytes x.2.1).length (argB (tbytes x.2.1).length (prsOf x.1 x.2.1 x.2.2)).length ++ tbytes x.2.1 ++ argB (tbytes x.2.1).length (prsOf x.1 x.2.1 x.2.2)) ++ fcsB packed x.1.funs := rfl
  rw [e, List.append_assoc] at hr
  have h2 := drop_num hr
  have e2 : (shdrB x.1.funs.length (tbytes x.2.1).length (argB (tbytes x.2.1).length (prsOf x.1 x.2.1 x.2.2)).length ++ tbytes x.2.1 ++ argB (tbytes x.2.1).length (prsOf x.1 x.2.1 x.2.2)).length = headL x.1 x.2.1 x.2.2 := by
    rw [List.length_append, List.length_append, shdrB_length, headL]
  rw [e2] at h2
  exact ⟨r, h2⟩
theorem take_snoc (hx : C[k]? = some x) : C.take (k + 1) = C.take k ++ [x] := by
  obtain ⟨h1, h2⟩ := List.getElem?_eq_some_iff.1 hx
  rw [List.take_succ_eq_append_getElem h1, h2]
end
/-- The reader within segment k, j functions behind it. -/
def MidAt (w : World) (packed : Bool) (C : List Ch) (gd g bb c bu b8 : Nat) (bs : List UInt8) (k j : Nat) (x : Ch) : Prop :=
  ∃ cs, CD w gd g bb c (posOf packed (C.take k) + headL x.1 x.2.1 x.2.2 + (fcsB packed (x.1.funs.take j)).length) bu b8 (if packed then 2 else 1) C.length j k cs bs ∧ Told w x.1 x.1.funs.length cs
/-- The reader ahead of segment k. -/
def HeadAt (w : World) (packed : Bool) (C : List Ch) (gd g bb c bu b8 : Nat) (bs : List UInt8) (k : Nat) : Prop :=
  (k = 0 ∧ ∃ x, C[0]? = some x ∧ MidAt w packed C gd g bb c bu b8 bs 0 0 x) ∨ ∃ j x, k = j + 1 ∧ C[j]? = some x ∧ MidAt w packed C gd g bb c bu b8 bs j x.1.funs.length x
section
variable {w w' : World} {packed : Bool} {hash : List UInt8} {C : List Ch} {gd g bb c bu b8 n0 : Nat} {bs : List UInt8} {k j : Nat} {x : Ch}
theorem MidAt.high {S : Nat → Prop} (h : MidAt w packed C gd g bb c bu b8 bs k j x) (hk : Keep S w w') (hlo : Low n0 gd g bb bu b8) (hS : ∀ i, S i → n0 ≤ i) (hty : ∀ {v : Value} {n : Nat} {xs : List Value}, Row w 9 1 v n xs → ∀ b, v.ownBlock = some b → ¬ S b) : MidAt w' packed C gd g bb c bu b8 bs k j x := by
  obtain ⟨cs, hc, ht⟩ := h
  have no : ∀ i, i < n0 → ¬ S i := fun i hi e => by have := hS i e; omega
  exact ⟨cs, hc.keep hk (no _ hlo.d) (no _ hlo.g) (no _ hlo.b) (no _ hlo.u) (no _ hlo.e), ht.keep hk (fun v hr => hty hr)⟩
theorem MidAt.far (h : MidAt w packed C gd g bb c bu b8 bs k j x) (hk : Keep Non w w') : MidAt w' packed C gd g bb c bu b8 bs k j x := by
  obtain ⟨cs, hc, ht⟩ := h
  exact ⟨cs, hc.far hk, ht.keep hk (fun _ _ _ _ h => h)⟩
theorem HeadAt.high {S : Nat → Prop} (h : HeadAt w packed C gd g bb c bu b8 bs k) (hk : Keep S w w') (hlo : Low n0 gd g bb bu b8) (hS : ∀ i, S i → n0 ≤ i) (hty : ∀ {v : Value} {n : Nat} {xs : List Value}, Row w 9 1 v n xs → ∀ b, v.ownBlock = some b → ¬ S b) : HeadAt w' packed C gd g bb c bu b8 bs k := by
  rcases h with ⟨h1, x, h2, h3⟩ | ⟨j, x, h1, h2, h3⟩
  · exact .inl ⟨h1, x, h2, h3.high hk hlo hS (fun hr => hty hr)⟩
  · exact .inr ⟨j, x, h1, h2, h3.high hk hlo hS (fun hr => hty hr)⟩
theorem MidAt.c43 (h : MidAt w packed C gd g bb c bu b8 bs k j x) : w.cell? ⟨gd, 43, none⟩ = some (.int .u32 C.length) := by
  obtain ⟨cs, hc, ht⟩ := h
  exact cell_of hc.d.blk hc.c43
theorem HeadAt.c43 (h : HeadAt w packed C gd g bb c bu b8 bs k) : w.cell? ⟨gd, 43, none⟩ = some (.int .u32 C.length) := by
  rcases h with ⟨h1, x, h2, h3⟩ | ⟨j, x, h1, h2, h3⟩
  · exact h3.c43
  · exact h3.c43
/-- The cells that tell. -/
theorem MidAt.tells (h : MidAt w packed C gd g bb c bu b8 bs k j x) : (∃ v, w.cell? ⟨gd, 2, none⟩ = some v ∧ Row w 9 1 v x.1.args.length (Ts x.1.args)) ∧ w.cell? ⟨gd, 3, none⟩ = some (.string x.1.arch) ∧ w.cell? ⟨gd, 4, none⟩ = some (.string x.1.os) ∧ w.cell? ⟨gd, 48, none⟩ = some (.int .u64 x.1.funs.length) ∧ w.cell? ⟨gd, 53, none⟩ = some (.int .u32 j) := by
  obtain ⟨cs, hc, ht⟩ := h
  obtain ⟨v, hv, hr⟩ := ht.args
  exact ⟨⟨v, cell_of hc.d.blk hv, hr⟩, cell_of hc.d.blk ht.arch, cell_of hc.d.blk ht.os, cell_of hc.d.blk ht.fe, cell_of hc.d.blk hc.c53⟩
end
/-- The blocks that NextFunc writes. -/
def S6 (gd g bu b8 gp : Nat) (v : Value) : Nat → Prop := fun i => i = g ∨ i = gd ∨ i = b8 ∨ i = bu ∨ i = gp ∨ v.ownBlock = some i
theorem Sg.ok.fcs {s : Sg} (h : s.ok) {j : Nat} (hj : j < s.funs.length) : s.funs[j].cs.length ≤ 12 ∧ s.funs[j].pkg < 4294967296 ∧ s.funs[j].fn < 4294967296 ∧ ∀ x ∈ s.funs[j].cs, x < 4294967296 :=
  ⟨(h.fun1 _ (List.getElem_mem hj)).2, h.fit _ (List.getElem_mem hj)⟩
theorem nextM {packed : Bool} {hash : List UInt8} {C : List Ch} {gd g bb c bu b8 n0 gs gp : Nat} {bs : List UInt8} {k j : Nat} {x : Ch} {X : SgV} {a b m : Nat} {v : Value} {xs : List Value} (w : World) (hf : Fil packed hash C bs) (hx : C[k]? = some x) (hj : j < x.1.funs.length)
    (hM : MidAt w packed C gd g bb c bu b8 bs k j x) (hI : InR w n0 gs gp X a b v m xs) (hlo : Low n0 gd g bb bu b8) :
    Calls Tryz.prog 30 #[.pointer (some ⟨gd, 0, none⟩), .pointer (some ⟨gp, 0, none⟩)] w fun e w' => ∃ v', e = .returned (.tuple #[.bool true, .nilIface]) ∧ MidAt w' packed C gd g bb c bu b8 bs k (j + 1) x ∧ InR w' n0 gs gp X x.1.funs[j].pkg x.1.funs[j].fn v' x.1.funs[j].cs.length (U32 x.1.funs[j].cs) ∧ (∀ b, v'.ownBlock = some b → v.ownBlock = some b ∨ w.heap.size ≤ b) ∧ Keep (S6 gd g bu b8 gp v) w w' := by
  obtain ⟨cs, hc, ht⟩ := hM
  have hok := hf.ok x (List.mem_of_getElem? hx)
  obtain ⟨h12, hp1, hp2, hp3⟩ := hok.fcs hj
  obtain ⟨r, hr⟩ := hf.funs hx
  have hd := fcs_at hr hj
  refine (nextT packed x.1.funs[j] x.1.funs.length gd g bb c _ bu b8 C.length j k gp n0 a b m cs bs _ v xs w hc ht.fe hj (by have := hok.nfun; omega) hI.pay hlo hd hf.hl h12 ⟨hp1, hp2, hp3⟩).mono ?_
  rintro e w' ⟨v', rfl, hc', hp', ho, kk⟩
  have hlow : ∀ i, S6 gd g bu b8 gp v i → i < n0 ∨ i = gp ∨ v.ownBlock = some i := fun i e => by
    rcases e with e | e | e | e | e | e
    · exact .inl (by rw [e]; exact hlo.g)
    · exact .inl (by rw [e]; exact hlo.d)
    · exact .inl (by rw [e]; exact hlo.e)
    · exact .inl (by rw [e]; exact hlo.u)
    · exact .inr (.inl e)
    · exact .inr (.inr e)
  have hcc := hc
  obtain ⟨us, _, hu⟩ := hc.mu
  obtain ⟨vs, _, h8⟩ := hc.m8
  have hty : ∀ u, Row w 9 1 u x.1.args.length (Ts x.1.args) → ∀ b, u.ownBlock = some b → ¬ S6 gd g bu b8 gp v b := fun u hu' b hb e => by
    rcases e with e | e | e | e | e | e
    · exact hu'.neBlk hc.d.rd.blk (by decide) (by rw [hb, e])
    · exact hu'.neBlk hc.d.blk (by decide) (by rw [hb, e])
    · exact hu'.neBlk h8 (by decide) (by rw [hb, e])
    · exact hu'.neBlk hu (by decide) (by rw [hb, e])
    · exact hu'.neBlk hI.pay.blk (by decide) (by rw [hb, e])
    · exact hu'.ne hI.pay.row (by decide) hb e
  have hne : ∀ i, i ≠ 53 → (cs.set 53 (.int .u32 ((j : Int) + 1)))[i]? = cs[i]? := fun i hi => List.getElem?_set_ne (by omega)
  refine ⟨v', rfl, ⟨_, ?_, (ht.keep kk hty).other (hne 48 (by decide)) (hne 2 (by decide)) (hne 3 (by decide)) (hne 4 (by decide))⟩, hI.read kk hlow hp' ho, ho, kk⟩
  rw [fcs_take hj, ← Nat.add_assoc]
  exact hc'
theorem doneM {packed : Bool} {hash : List UInt8} {C : List Ch} {gd g bb c bu b8 : Nat} {bs : List UInt8} {k : Nat} {x : Ch} (pp : Value) (w : World) (hf : Fil packed hash C bs) (hx : C[k]? = some x)
    (hM : MidAt w packed C gd g bb c bu b8 bs k x.1.funs.length x) :
    Calls Tryz.prog 30 #[.pointer (some ⟨gd, 0, none⟩), pp] w fun e w' => e = .returned (.tuple #[.bool false, .nilIface]) ∧ Keep Non w w' := by
  obtain ⟨cs, hc, ht⟩ := hM
  have hok := hf.ok x (List.mem_of_getElem? hx)
  exact doneT gd g bb c _ bu b8 _ _ _ _ _ cs bs pp w hc ht.fe (Nat.le_refl _) (by have := hok.nfun; omega)
theorem beginM {packed : Bool} {hash : List UInt8} {C : List Ch} {gd g bb c bu b8 : Nat} {bs : List UInt8} {k : Nat} {t x : Ch} (w : World) (hf : Fil packed hash C bs) (ht : C[k]? = some t) (hx : C[k + 1]? = some x)
    (hM : MidAt w packed C gd g bb c bu b8 bs k t.1.funs.length t) :
    Calls Tryz.prog 25 #[.pointer (some ⟨gd, 0, none⟩)] w fun e w' => e = .returned (.tuple #[.bool true, .nilIface]) ∧ MidAt w' packed C gd g bb c bu b8 bs (k + 1) 0 x ∧ Keep (fun i => i = g ∨ i = gd) w w' := by
  obtain ⟨cs, hc, hT⟩ := hM
  have hk := (List.getElem?_eq_some_iff.1 hx).1
  have hok := hf.ok x (List.mem_of_getElem? hx)
  have hS := hf.file.seg x (List.mem_of_getElem? hx)
  obtain ⟨r, hr⟩ := hf.seg hx
  have hnf : t.1.funs = [] := hf.nofun (n := k + 1) (by omega) t (by rw [take_snoc ht]; simp)
  have hp : posOf packed (C.take k) + headL t.1 t.2.1 t.2.2 + (fcsB packed (t.1.funs.take t.1.funs.length)).length + 16 = posOf packed (C.take (k + 1)) := by
    rw [take_snoc ht, posOf_snoc, chL, List.take_length]; omega
  have h4 := hf.four hx
  have hlen := hf.file.len hf.hh
  have hpl : posOf packed (C.take (k + 1)) ≤ bs.length := by
    have := congrArg List.length hr
    have h0 : 0 < (segB packed x.1.funs.length x.2.1 (prsOf x.1 x.2.1 x.2.2) x.1.funs).length := by rw [segB_length]; omega
    simp at this
    omega
  have hm := mono_at (C.map (·.1)) k (by simp; omega) hf.mono
  have e1 : (C.map (·.1))[k]'(by simp; omega) = t.1 := by simp [(List.getElem?_eq_some_iff.1 ht).2]
  have e2 : (C.map (·.1))[k + 1]'(by simp; omega) = x.1 := by simp [(List.getElem?_eq_some_iff.1 hx).2]
  rw [e1, e2] at hm
  have hn := hf.n
  refine (beginT packed t.1 x.1 t.1.funs.length x.1.funs.length gd g bb c _ bu b8 (if packed then 2 else 1) C.length _ k cs bs r x.2.1 x.2.2 w hc hT (by omega) (by omega) (by rw [hp]; exact hr) (by omega) hf.hl hS hok (by have := hok.nfun; omega) (by rw [hp]; exact hpl) hm).mono ?_
  rintro e w' ⟨cs', rfl, hc', ht', kk⟩
  refine ⟨rfl, ⟨cs', ?_, ht'⟩, kk⟩
  rw [hp] at hc'
  exact hc'
end Go.Proofs.YtcpegoofbenoiaaGreatDoor
