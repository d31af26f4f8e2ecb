/-
  CONTRACT: the first segment is written behind the file's head.
-/
import Derived.Test.YtcpegoofbenoiaaGreatDoorZDc
namespace Go.Proofs.YtcpegoofbenoiaaGreatDoor
open Go.RowKit
open Go.ChangeShapes Go.WideShapes Go.ChangeAt Go.Deep
open Plain (M64)

set_option maxRecDepth 100000 in
set_option maxHeartbeats 8000000 in
theorem writeT (packed : Bool) (Q : Nat → Prop) (s : Sg) (ma : Nat) (fs : List (Fc × Value)) (fv : Value) (hash : List UInt8) (gc : Nat) (gs0 : Value) (gb fe st al : Nat) (tm : Value) (fl segs go bb : Nat) (po : Value) (out : List UInt8) (w : World)
    (h : CW w gc gs0 gb fe st al tm fl segs go bb [] po out) (hM : Mag w) (ho : OwnsSM w ma (pairs s)) (hs : s.ok) (hF : ∀ w', Keep Q w w' → FR w' fv fs) (hfs : fs.map (·.1) = s.funs) (hQ : ∀ i, CWF gc gb go bb tm po i → Q i) (hQn : ∀ i, w.heap.size ≤ i → Q i) (hma : ¬ Q ma) (hmg : ¬ Q 1)
    (hh : hash.length = 16) (hol : out.length ≤ 100000) (hfe : fe ≤ 1000) (hsg : segs ≤ 100) (hfl : fl = if packed then 2 else 1) (h2 : st < 4294967296) (h3 : al < 4294967296) :
    Calls Tryz.prog 18 #[.pointer (some ⟨gc, 0, none⟩), .agg (B hash).toArray, .map (some ma), .iface 65 (.agg #[fv])] w (AppPost Q packed s gc gb fe fl segs go bb (headB hash fl) out w) := by
  obtain ⟨W1, hW1⟩ : ∃ W, W = w.alloc (.cells (B hash).toArray 22) := ⟨_, rfl⟩
  have k1 : Keep Non w W1 := by rw [hW1]; exact (Keep.refl _ _).alloc _
  have b1 : Blk W1 w.heap.size (B hash) 22 := by rw [hW1]; exact Blk.new w (B hash) _
  have hf8 : fl < 256 := by rw [hfl]; split <;> decide
  have hu16 : Tryz.prog.underlying 22 = some (.array 16 5) := by kernel_rfl
  have hi16 : (Tryz.prog.info? 22).map (·.size) = some 16 := by kernel_rfl
  have hsz16 : (Tryz.prog.info? 22).map (·.size) = some (B hash).length := by rw [B_length, hh]; exact hi16
  have HFL := Lib.hid hfl
  have H := Lib.hid h
  have HCW1 := Lib.hid (h.far k1)
  have HM1 := Lib.hid (hM.far k1)
  have HO1 := Lib.hid (ho.keep k1 (fun h => h))
  have HS := Lib.hid hs
  have HF := Lib.hid hF
  have HFS := Lib.hid hfs
  have HQ := Lib.hid hQ
  have HQN := Lib.hid hQn
  have HMA := Lib.hid hma
  have HMG := Lib.hid hmg
  have HK1 := Lib.hid k1
  have HB1 := Lib.hid b1
  have HSZ := Lib.hid hsz16
  have HU := Lib.hid hu16
  clear h hM ho hs hF hfs hQ hQn hma hmg k1 b1 hfl hsz16 hu16 hi16
  go_enter Tryz.func18, Tryz.ntmps18
  go_upto_region 1 with (fail)
  rw [← hW1]
  clear hW1
  go_upto_region 4 with (first
    | ((with_reducible show wpList _ _ _ (Oper.mk (some 11) _ _ _ _ _ :: _) _ _); go_must (refine wpList_load_mid rfl _ _ rfl w.heap.size 0 rfl (B hash) _ HB1.out.range HU.out rfl HSZ.out ?_))
    | (go_at_call 37; refine (writeHeaderT gc gs0 fe st al tm fl segs gb go bb hash [] po out _ HCW1.out.bw HCW1.out.blk HM1.out (by decide) hh hf8).mono ?_; rintro e w2 ⟨rfl, b2, k2⟩))
  have hb2 : ∀ i, i = gb ∨ i = bb → BWF gb go bb po i := fun i e => e.elim .inl (fun e => .inr (.inr (.inl e)))
  have hqb : ∀ i, BWF gb go bb po i → Q i := fun i e => HQ.out i (.inr (.inr e))
  have hkQ : Keep Q w w2 := (HK1.out.mono (fun _ _ h => h.elim)).trans' (k2.mono (fun i _ e => hqb i (hb2 i e)))
  have hcw : CW w2 gc gs0 gb fe st al tm fl segs go bb (headB hash fl) po out := by
    obtain ⟨n, xs, r⟩ := HCW1.out.tmp
    refine ⟨HCW1.out.blk.keep k2 (fun e => HCW1.out.gcb gc (hb2 gc e) rfl), b2, ⟨n, xs, r.keep k2 (fun b hb e => HCW1.out.tmb b (hb2 b e) hb)⟩, HCW1.out.shape, HCW1.out.sep⟩
  have hm2 : Mag w2 := HM1.out.keep k2 (fun e => HMG.out (hqb _ (hb2 _ e)))
  have ho2 : OwnsSM w2 ma (pairs s) := HO1.out.keep k2 (fun e => HMA.out (hqb _ (hb2 _ e)))
  have hqn2 : ∀ i, w2.heap.size ≤ i → Q i := fun i hi => HQN.out i (by have := hkQ.size; omega)
  have hhl : (headB hash fl).length ≤ 32 := by rw [headB_length hh]; decide
  have HCW2 := Lib.hid hcw
  have HM2 := Lib.hid hm2
  have HO2 := Lib.hid ho2
  have HQN2 := Lib.hid hqn2
  have HKQ := Lib.hid hkQ
  clear hb2 hqb hkQ hcw hm2 ho2 hqn2 b2 k2
  go_wp2_with (go_at_call 20; refine (appendT packed Q s ma fs fv gc gs0 gb fe st al tm fl segs go bb (headB hash fl) po out w2 HCW2.out HM2.out HO2.out HS.out (fun w' k' => HF.out w' (HKQ.out.trans' k')) HFS.out HQ.out HQN2.out HMA.out HMG.out hhl hol hfe hsg HFL.out h2 h3).mono ?_; rintro e w3 ⟨all, ks, st', al', tm', po', rfl, a1, a2, a3, a4, a5, a6⟩)
  go_ret
  exact ⟨all, ks, st', al', tm', po', rfl, a1, a2, a3, a4, HKQ.out.trans' a5, a6⟩
end Go.Proofs.YtcpegoofbenoiaaGreatDoor
/-
  WORDS: the bytes of a whole file of counters.
-/
namespace Go.Proofs.YtcpegoofbenoiaaGreatDoor
open Go.RowKit
open Go.ChangeShapes Go.WideShapes Go.ChangeAt Go.Deep
open Plain (M64)

/-- A segment, its table and the order of its keys. -/
abbrev Ch := Sg × List ByteArray × List ByteArray
def feOf (C : List Ch) : Nat := (C.map fun x => x.1.funs.length).sum
def segsB (packed : Bool) : Nat → Nat → List Ch → List UInt8
  | _, _, [] => []
  | n, fe, x :: l => segF packed (n + 1) (fe + x.1.funs.length) x.1 x.2.1 x.2.2 ++ segsB packed (n + 1) (fe + x.1.funs.length) l
theorem segsB_snoc (packed : Bool) : ∀ (l : List Ch) (n fe : Nat) (x : Ch), segsB packed n fe (l ++ [x]) = segsB packed n fe l ++ segF packed (n + l.length + 1) (fe + feOf l + x.1.funs.length) x.1 x.2.1 x.2.2
  | [], n, fe, x => by simp [segsB, feOf]
  | y :: l, n, fe, x => by
    simp only [List.cons_append, segsB, segsB_snoc packed l, List.append_assoc, List.length_cons]
    have e1 : n + 1 + l.length + 1 = n + (l.length + 1) + 1 := by omega
    have e2 : fe + y.1.funs.length + feOf l + x.1.funs.length = fe + feOf (y :: l) + x.1.funs.length := by simp [feOf]; omega
    rw [e1, e2]
theorem feOf_snoc (C : List Ch) (x : Ch) : feOf (C ++ [x]) = feOf C + x.1.funs.length := by simp [feOf]
/-- A segment's pairs of places are small. -/
theorem SegT.prs {s : Sg} {all ks : List ByteArray} (h : SegT s all ks) : ∀ x ∈ ks.map (prOf all (pairs s)), x.1 < 30 ∧ x.2 < 30 := by
  intro x hx
  obtain ⟨k, hk, rfl⟩ := List.mem_map.1 hx
  have h1 := h.perm.mem_iff.1 hk
  obtain ⟨v, hv⟩ := Option.isSome_iff_exists.1 (getSM_isSome.2 h1)
  have h3 := h.has _ (getSM_mem hv)
  have h4 := h3.1
  have h5 := h3.2
  have h6 := h.len
  simp only at h4 h5
  simp only [prOf, hv, Option.getD_some]
  omega
theorem SegT.klen {s : Sg} {all ks : List ByteArray} (h : SegT s all ks) : ks.length = (pairs s).length := by rw [h.perm.length_eq]; simp [keysL]
theorem SegT.alen {s : Sg} {all ks : List ByteArray} (h : SegT s all ks) (hs : s.ok) : (prsB (ks.map (prOf all (pairs s)))).length = 1 + 2 * (pairs s).length ∧ (pairs s).length ≤ 9 := by
  have h1 := pairs_len s
  have h2 := hs.nargs
  have h9 : (pairs s).length ≤ 9 := by omega
  refine ⟨?_, h9⟩
  rw [prsB_len (fun x hx => by have := h.prs x hx; omega) (by rw [List.length_map, h.klen]; omega), List.length_map, h.klen]
theorem SegT.flen {s : Sg} {all ks : List ByteArray} (h : SegT s all ks) (hs : s.ok) (packed : Bool) (n fe : Nat) : (segF packed n fe s all ks).length ≤ 2700 := by
  obtain ⟨h1, h2⟩ := h.alen hs
  have h3 := h.tlen
  have h4 := fcsB_len packed s.funs hs.fun1 hs.fit
  have h5 := hs.nfun
  rw [segF, List.length_append, footB_length, segB_length, argB_length, h1]
  omega
/-- The bytes are those of these segments. -/
structure FileB (packed : Bool) (hash : List UInt8) (C : List Ch) (bs : List UInt8) : Prop where
  seg : ∀ x ∈ C, SegT x.1 x.2.1 x.2.2
  eq : bs = headB hash (if packed then 2 else 1) ++ segsB packed 0 0 C
theorem cell_lt {w : World} {a : Addr} {v : Value} (h : w.cell? a = some v) : a.block < w.heap.size := by
  have h1 : Reads w 1 (.slice (some ⟨a.block, a.off, none⟩) 1 1) 1 [v] := by
    refine ⟨rfl, .inr ⟨_, _, rfl, fun j u hj => ?_⟩⟩
    match j, hj with
    | 0, hj =>
      simp at hj
      subst hj
      have hs := World.cell?_spot h
      rw [addr_add, Nat.add_zero]
      obtain ⟨b, o, s⟩ := a
      simp only at hs
      subst hs
      exact h
  exact h1.blk (by decide) (by decide) _ rfl
theorem Mag.lt {w : World} (h : Mag w) : 1 < w.heap.size := cell_lt h.m0
end Go.Proofs.YtcpegoofbenoiaaGreatDoor
/-
  CONTRACTS of the writing of a segment, as Counters calls it.
-/
namespace Go.Proofs.YtcpegoofbenoiaaGreatDoor
open Go.RowKit
open Go.ChangeShapes Go.WideShapes Go.ChangeAt Go.Deep
open Plain (M64)

theorem CW.offMap {w : World} {gc : Nat} {gs : Value} {gb fe st al : Nat} {tm : Value} {fl segs go bb : Nat} {pend : List UInt8} {po : Value} {out : List UInt8} (h : CW w gc gs gb fe st al tm fl segs go bb pend po out) {ma : Nat} {kvs : List (ByteArray × ByteArray)} (ho : OwnsSM w ma kvs) : ¬ CWF gc gb go bb tm po ma := by
  obtain ⟨n, xs, r⟩ := h.tmp
  obtain ⟨zs, hzb, _⟩ := h.bw.buf
  rintro (e | e | e | e | e | e)
  · exact ho.neBlk (by rw [e]; exact h.blk)
  · exact ho.neRow r e
  · exact ho.neBlk (by rw [e]; exact h.bw.blk)
  · exact ho.neBlk (by rw [e]; exact h.bw.wr.blk)
  · exact ho.neBlk (by rw [e]; exact hzb)
  · exact ho.neRow h.bw.wr.row e
theorem CW.off {w : World} {gc : Nat} {gs : Value} {gb fe st al : Nat} {tm : Value} {fl segs go bb : Nat} {pend : List UInt8} {po : Value} {out : List UInt8} (h : CW w gc gs gb fe st al tm fl segs go bb pend po out) {b : Nat} {cs : List Value} {T : TypeId} (hb : Blk w b cs T) (h1 : T ≠ 98) (h2 : 5 ≠ T) (h3 : T ≠ 56) (h4 : T ≠ 152) : ¬ CWF gc gb go bb tm po b := by
  obtain ⟨n, xs, r⟩ := h.tmp
  obtain ⟨zs, hzb, _⟩ := h.bw.buf
  rintro (e | e | e | e | e | e)
  · exact hb.ne h.blk h1 e
  · exact r.neBlk hb h2 e
  · exact hb.ne h.bw.blk h4 e
  · exact hb.ne h.bw.wr.blk h3 e
  · exact hb.ne hzb (Ne.symm h2) e
  · exact h.bw.wr.row.neBlk hb h2 e
/-- Behind a segment. w0: where Counters began. -/
def SegPost (packed : Bool) (s : Sg) (w0 : World) (gc gb fe fl segs go bb : Nat) (F : Nat → Prop) (pend out : List UInt8) (w : World) (e : Ending) (w' : World) : Prop :=
  ∃ (all ks : List ByteArray) (st al : Nat) (tm po : Value), e = .returned .nilIface ∧ SegT s all ks ∧ st < 4294967296 ∧ al < 4294967296 ∧ CW w' gc (.pointer none) gb (fe + s.funs.length) st al tm fl (segs + 1) go bb [] po (out ++ (pend ++ segF packed (segs + 1) (fe + s.funs.length) s all ks)) ∧ Keep Non w0 w' ∧ (∀ i, CWF gc gb go bb tm po i → w0.heap.size ≤ i) ∧ Keep (fun i => F i ∨ w.heap.size ≤ i) w w'
theorem stableF {w0 w : World} {F : Nat → Prop} {v : Value} {L : List (Fc × Value)} (h : FR w0 v L) (k : Keep Non w0 w) (hF : ∀ i, F i → w0.heap.size ≤ i) : ∀ w', Keep (fun i => F i ∨ w.heap.size ≤ i) w w' → FR w' v L := fun w' k' =>
  h.far (k.trans k' (fun i hi e => by
    have := k.size
    rcases e with e | e
    · have := hF i e; omega
    · omega))
theorem appAt (packed : Bool) (x : SgV) (w0 : World) (ma gc : Nat) (gs0 : Value) (gb fe st al : Nat) (tm : Value) (fl segs go bb : Nat) (po : Value) (out : List UInt8) (w : World) (k0 : Keep Non w0 w) (hR : FR w0 x.fv x.funs) (hM : Mag w0)
    (h : CW w gc gs0 gb fe st al tm fl segs go bb [] po out) (ho : OwnsSM w ma (pairs x.sg)) (hs : x.sg.ok) (hQ : ∀ i, CWF gc gb go bb tm po i → w0.heap.size ≤ i)
    (hol : out.length ≤ 100000) (hfe : fe ≤ 1000) (hsg : segs ≤ 100) (hfl : fl = if packed then 2 else 1) (h2 : st < 4294967296) (h3 : al < 4294967296) :
    Calls Tryz.prog 20 #[.pointer (some ⟨gc, 0, none⟩), .map (some ma), .iface 65 (.agg #[x.fv])] w (SegPost packed x.sg w0 gc gb fe fl segs go bb (CWF gc gb go bb tm po) [] out w) := by
  have hmg := hM.lt
  have hz := k0.size
  refine (appendT packed (fun i => CWF gc gb go bb tm po i ∨ w.heap.size ≤ i) x.sg ma x.funs x.fv gc gs0 gb fe st al tm fl segs go bb [] po out w h (hM.far k0) ho hs (stableF hR k0 hQ) rfl (fun i hi => .inl hi) (fun i hi => .inr hi) (fun e => e.elim (h.offMap ho) (fun e => by have := ho.lt; omega)) (fun e => e.elim (fun e => by have := hQ _ e; omega) (fun e => by omega)) (by simp) hol hfe hsg hfl h2 h3).mono ?_
  rintro e w' ⟨all, ks, st', al', tm', po', rfl, a1, a2, a3, a4, a5, a6⟩
  exact ⟨all, ks, st', al', tm', po', rfl, a1, a2, a3, a4, k0.trans a5 (fun i hi e => by
    rcases e with e | e
    · have := hQ i e; omega
    · omega), fun i hi => (a6 i hi).elim (hQ i) (fun e => by omega), a5⟩
theorem wriAt (packed : Bool) (x : SgV) (w0 : World) (ma : Nat) (hash : List UInt8) (gc : Nat) (gs0 : Value) (gb fe st al : Nat) (tm : Value) (fl segs go bb : Nat) (po : Value) (out : List UInt8) (w : World) (k0 : Keep Non w0 w) (hR : FR w0 x.fv x.funs) (hM : Mag w0)
    (h : CW w gc gs0 gb fe st al tm fl segs go bb [] po out) (ho : OwnsSM w ma (pairs x.sg)) (hs : x.sg.ok) (hQ : ∀ i, CWF gc gb go bb tm po i → w0.heap.size ≤ i)
    (hh : hash.length = 16) (hol : out.length ≤ 100000) (hfe : fe ≤ 1000) (hsg : segs ≤ 100) (hfl : fl = if packed then 2 else 1) (h2 : st < 4294967296) (h3 : al < 4294967296) :
    Calls Tryz.prog 18 #[.pointer (some ⟨gc, 0, none⟩), .agg (B hash).toArray, .map (some ma), .iface 65 (.agg #[x.fv])] w (SegPost packed x.sg w0 gc gb fe fl segs go bb (CWF gc gb go bb tm po) (headB hash fl) out w) := by
  have hmg := hM.lt
  have hz := k0.size
  refine (writeT packed (fun i => CWF gc gb go bb tm po i ∨ w.heap.size ≤ i) x.sg ma x.funs x.fv hash gc gs0 gb fe st al tm fl segs go bb po out w h (hM.far k0) ho hs (stableF hR k0 hQ) rfl (fun i hi => .inl hi) (fun i hi => .inr hi) (fun e => e.elim (h.offMap ho) (fun e => by have := ho.lt; omega)) (fun e => e.elim (fun e => by have := hQ _ e; omega) (fun e => by omega)) hh hol hfe hsg hfl h2 h3).mono ?_
  rintro e w' ⟨all, ks, st', al', tm', po', rfl, a1, a2, a3, a4, a5, a6⟩
  exact ⟨all, ks, st', al', tm', po', rfl, a1, a2, a3, a4, k0.trans a5 (fun i hi e => by
    rcases e with e | e
    · have := hQ i e; omega
    · omega), fun i hi => (a6 i hi).elim (hQ i) (fun e => by omega), a5⟩
end Go.Proofs.YtcpegoofbenoiaaGreatDoor
