/-
  THE CONTRACT of ReadFunc.
-/
import Derived.Test.YtbmidlaakbpnlaaDoorRm6
import Derived.Test.YtbmidlaakbpnlaaDoorMe11
namespace Go.Proofs.YtbmidlaakbpnlaaDoor
open Go.RowKit
open Go.ChangeShapes Go.WideShapes Go.ChangeAt Go.Deep
open Plain (M64)

theorem leVal_leB4 (x : Nat) (h : x < 4294967296) : leVal (nat8 (leB 4 x)) = x := by
  simp [leB, nat8, leVal]
  omega
theorem readR32 (g bb c p x : Nat) (bs : List UInt8) (w : World) (h : RR w g bb c p bs) (hl : bs.length ≤ 1000000) (hp : p + 4 ≤ bs.length) (hx : x < 4294967296) (hb : (bs.drop p).take 4 = leB 4 x) :
    Calls Tryd.prog 46 #[.pointer (some ⟨g, 0, none⟩)] w fun e w' => e = .returned (.int .u32 x) ∧ RR w' g bb c (p + 4) bs ∧ Keep (At g) w w' := by
  refine (readU32 bb c g p (nat8 bs) w (by rw [nat8_length]; exact h.blk) (by rw [nat8_length, By_nat8]; exact h.data) (by rw [nat8_length]; exact h.cap) (by rw [nat8_length]; exact hl) (nat8_lt _) (by rw [nat8_length]; exact hp)).mono ?_
  rintro e w' ⟨rfl, h1, k⟩
  have e1 : ((nat8 bs).drop p).take 4 = nat8 (leB 4 x) := by rw [← hb]; simp [nat8, List.map_drop, List.map_take]
  refine ⟨by rw [e1, leVal_leB4 x hx], ⟨by rw [nat8_length] at h1; exact h1, h.data.keep k (fun b hb' e => ?_), h.cap, h.ne⟩, k⟩
  simp [Value.ownBlock] at hb'
  unfold At at e
  exact h.ne (hb'.trans e)
theorem Dec.keep {S : Nat → Prop} {w w' : World} {gD gt g bb c p : Nat} {bs : List UInt8} {v : Value} {all : List ByteArray} {len P N M nn : Nat} (h : Dec w gD gt g bb c p bs v all len P N M nn) (k : Keep S w w') (h1 : ¬ S gD) (h2 : ¬ S gt) (h3 : ¬ S g) (h4 : ¬ S bb) (h5 : ∀ b, v.ownBlock = some b → ¬ S b) : Dec w' gD gt g bb c p bs v all len P N M nn := by
  obtain ⟨cs, hb, hc⟩ := h.blk
  refine ⟨⟨h.rt.blk.keep k h2, h.rt.rd.keep k h3 h4, h.rt.row.keep k h5, h.rt.ne, h.rt.nb, h.rt.nv, ?_⟩, ⟨cs, hb.keep k h1, hc⟩, h.le⟩
  have := k.size
  have := h.rt.lt
  omega
/-- What is on the way of reading a function. -/
structure FI (w wr : World) (gD gt g bb c q : Nat) (bs : List UInt8) (v : Value) (all : List ByteArray) (len P N M nn gf : Nat) (d : Dsc) (lit : Bool) (uv : Value) (j : Nat) : Prop where
  dec : Dec wr gD gt g bb c q bs v all len P N M nn
  blk : Blk wr gf [.string d.name, .string d.file, uv, .bool lit] 59
  row : Row wr 61 6 uv j ((d.units.take j).flatMap Ut.cells6)
  keep : Keep (fun i => i = g ∨ i = gf) w wr
  new : ∀ b, uv.ownBlock = some b → w.heap.size ≤ b
  bf : bb ≠ gf
  bw : bb < w.heap.size
section
variable {w wr w' : World} {gD gt g bb c p q q' : Nat} {bs : List UInt8} {v uv uv' : Value} {all : List ByteArray} {len P N M nn gf j j' : Nat} {d : Dsc} {lit : Bool}
theorem Dec.keepF (h : Dec w gD gt g bb c p bs v all len P N M nn) {cs : List Value} (hb : Blk w gf cs 59) (hbf : bb ≠ gf) (k : Keep (At gf) w w') : Dec w' gD gt g bb c p bs v all len P N M nn := by
  obtain ⟨ds, hd, hc⟩ := h.blk
  exact h.keep k (fun e => hd.ne hb (by decide) e) (fun e => h.rt.blk.ne hb (by decide) e) (fun e => h.rt.rd.blk.ne hb (by decide) e) (fun e => hbf e) (fun b hb' e => h.rt.row.neBlk hb (by decide) (by rw [hb']; exact congrArg some e))
/-- The reader went on. -/
theorem FI.move (h : FI w wr gD gt g bb c q bs v all len P N M nn gf d lit uv j) (k : Keep (At g) wr w') (r : RR w' g bb c q' bs) (hq : q' ≤ bs.length) : FI w w' gD gt g bb c q' bs v all len P N M nn gf d lit uv j where
  dec := h.dec.move k r hq
  blk := h.blk.keep k (fun e => h.blk.ne h.dec.rt.rd.blk (by decide) e)
  row := h.row.keep k (fun b hb e => h.row.neBlk h.dec.rt.rd.blk (by decide) (by rw [hb]; exact congrArg some e))
  keep := h.keep.trans k (fun _ _ e => .inl e)
  new := h.new
  bf := h.bf
  bw := h.bw
theorem FI.far (h : FI w wr gD gt g bb c q bs v all len P N M nn gf d lit uv j) (k : Keep Non wr w') : FI w w' gD gt g bb c q bs v all len P N M nn gf d lit uv j where
  dec := h.dec.far k
  blk := h.blk.keep k (fun h => h)
  row := h.row.keep k (fun _ _ h => h)
  keep := h.keep.trans k (fun _ _ e => e.elim)
  new := h.new
  bf := h.bf
  bw := h.bw
theorem FI.drew (h : FI w wr gD gt g bb c q bs v all len P N M nn gf d lit uv j) : FI w wr.drew gD gt g bb c q bs v all len P N M nn gf d lit uv j := h.far ((Keep.refl Non wr).drew)
/-- A cell of the description is another one. -/
theorem FI.setUnits (h : FI w wr gD gt g bb c q bs v all len P N M nn gf d lit uv j) (gr : Grew wr w' uv uv') (r : Row w' 61 6 uv' j' ((d.units.take j').flatMap Ut.cells6)) : FI w (w'.setCell ⟨gf, 2, none⟩ uv') gD gt g bb c q bs v all len P N M nn gf d lit uv' j' := by
  obtain ⟨ds, hd, hc⟩ := h.dec.blk
  have nu : ∀ {g' : Nat} {cs : List Value} {T : TypeId}, Blk wr g' cs T → T ≠ 61 → ¬ Own uv g' := fun hb hT e => kd_false (h.row.kd e) hb.kd (fun e' => hT (Option.some.inj e').symm)
  have hu : ∀ b, uv.ownBlock = some b → b ≠ bb := fun b hb e => by have := h.new b hb; have := h.bw; omega
  have D1 : Dec w' gD gt g bb c q bs v all len P N M nn := h.dec.keep gr.keep (nu hd (by decide)) (nu h.dec.rt.blk (by decide)) (nu h.dec.rt.rd.blk (by decide)) (fun e => hu bb e rfl) (fun b hb e => kd_false (h.row.kd e) (h.dec.rt.row.kd hb) (by decide))
  have B1 := h.blk.keep gr.keep (nu h.blk (by decide))
  have K := Keep.one w' gf 2 uv'
  refine ⟨D1.keepF B1 h.bf K, by simpa using B1.set 2 uv', r.keep K (fun b hb e => r.neBlk B1 (by decide) (by rw [hb]; exact congrArg some e)), ?_, fun b hb => ?_, h.bf, h.bw⟩
  · exact Keep.setAt (h.keep.trans gr.keep (fun i hi e => by have := h.new i e; omega)) _ _ _ (.inr rfl)
  · rcases gr.lies hb with e | e
    · exact h.new b e
    · have := h.keep.size; omega
theorem FI.x0 (h : FI w wr gD gt g bb c q bs v all len P N M nn gf d lit uv j) : wr.cell? ⟨gD, 0, none⟩ = some (.pointer (some ⟨g, 0, none⟩)) := h.dec.x0
theorem FI.y2 (h : FI w wr gD gt g bb c q bs v all len P N M nn gf d lit uv j) : wr.cell? ⟨gf, 2, none⟩ = some uv := by rw [h.blk.cell]; rfl
end
theorem FI.grown {w wr w' : World} {gD gt g bb c q : Nat} {bs : List UInt8} {v uv uv' : Value} {all : List ByteArray} {len P N M nn gf j : Nat} {d : Dsc} {lit : Bool} (h : FI w wr gD gt g bb c q bs v all len P N M nn gf d lit uv j) (gr : Grew wr w' uv uv') : w'.cell? ⟨gD, 0, none⟩ = some (.pointer (some ⟨g, 0, none⟩)) ∧ w'.cell? ⟨gf, 2, none⟩ = some uv ∧ w'.frozen? ⟨gf, 2, none⟩ = false := by
  obtain ⟨ds, hd, hc⟩ := h.dec.blk
  have nu : ∀ {g' : Nat} {cs : List Value} {T : TypeId}, Blk wr g' cs T → T ≠ 61 → ¬ Own uv g' := fun hb hT e => kd_false (h.row.kd e) hb.kd (fun e' => hT (Option.some.inj e').symm)
  exact ⟨gr.keep.cell h.x0 (nu hd (by decide)), gr.keep.cell h.y2 (nu h.blk (by decide)), (h.blk.keep gr.keep (nu h.blk (by decide))).free 2⟩
theorem FI.app {w wr w' : World} {gD gt g bb c q : Nat} {bs : List UInt8} {v uv uv' : Value} {all : List ByteArray} {len P N M nn gf j : Nat} {d : Dsc} {lit : Bool} {x : Obj} (h : FI w wr gD gt g bb c q bs v all len P N M nn gf d lit uv j) (gr : Grew (wr.alloc x) w' uv uv') : Hid (FI w (wr.alloc x) gD gt g bb c q bs v all len P N M nn gf d lit uv j) ∧ w'.cell? ⟨gD, 0, none⟩ = some (.pointer (some ⟨g, 0, none⟩)) ∧ w'.cell? ⟨gf, 2, none⟩ = some uv ∧ w'.frozen? ⟨gf, 2, none⟩ = false := by
  have h1 := h.far ((Keep.refl Non wr).alloc x)
  exact ⟨Lib.hid h1, h1.grown gr⟩
theorem FI.setLit {w wr : World} {gD gt g bb c q : Nat} {bs : List UInt8} {v uv : Value} {all : List ByteArray} {len P N M nn gf j : Nat} {d : Dsc} {lit : Bool} (h : FI w wr gD gt g bb c q bs v all len P N M nn gf d lit uv j) (b : Bool) : FI w (wr.setCell ⟨gf, 3, none⟩ (.bool b)) gD gt g bb c q bs v all len P N M nn gf d b uv j := by
  have K := Keep.one wr gf 3 (.bool b)
  exact ⟨h.dec.keepF h.blk h.bf K, by simpa using h.blk.set 3 (.bool b), h.row.keep K (fun b hb e => h.row.neBlk h.blk (by decide) (by rw [hb]; exact congrArg some e)), h.keep.setAt _ _ _ (.inr rfl), h.new, h.bf, h.bw⟩
theorem drop_next {bs a b : List UInt8} {p : Nat} (h : bs.drop p = a ++ b) : bs.drop (p + a.length) = b := by rw [← List.drop_drop, h, List.drop_left]
theorem drop_in {bs a b : List UInt8} {p : Nat} (h : bs.drop p = a ++ b) (ha : 0 < a.length) : p + a.length ≤ bs.length := by
  have := congrArg List.length h
  simp at this
  omega
def fzero : List Value := [.string ⟨#[]⟩, .string ⟨#[]⟩, .slice none 0 0, .bool false]
/-- Behind ReadFunc. -/
def RFPost (gD gt g bb c : Nat) (bs : List UInt8) (v : Value) (all : List ByteArray) (len P N M nn gf : Nat) (d : Dsc) (w : World) (e : Ending) (w' : World) : Prop :=
  e = .returned .nilIface ∧ ∃ q uv, FI w w' gD gt g bb c q bs v all len P N M nn gf d d.lit uv d.units.length
set_option maxRecDepth 100000 in
set_option maxHeartbeats 4000000 in
theorem readFunc (gD gt g bb c p : Nat) (bs : List UInt8) (v : Value) (all : List ByteArray) (len P N M nn gf k o ni fi : Nat) (d : Dsc) (r : List UInt8) (w : World)
    (hd : Dec w gD gt g bb c p bs v all len P N M nn) (hf : Blk w gf fzero 59) (hl : bs.length ≤ 1000000) (hal : all.length ≤ 900) (hbf : bb ≠ gf) (hbw : bb < w.heap.size) (hk : k < nn) (h44 : 44 + 4 * nn ≤ bs.length) (hlen : len < 4294967296)
    (hoff : (bs.drop (44 + 4 * k)).take 4 = leB 4 o) (hfn : bs.drop o = uleb d.units.length ++ (uleb ni ++ (uleb fi ++ (d.units.flatMap Ut.ulebs ++ (uleb (litN d.lit) ++ r))))) (ho1 : 44 + 4 * k ≤ o) (ho2 : o ≤ len) (ho3 : o ≤ bs.length)
    (hn : all[ni]? = some d.name) (hfl : all[fi]? = some d.file) (hfit : ∀ u ∈ d.units, u.fit) (hul : d.units.length ≤ 1000) :
    Calls Tryd.prog 23 #[.pointer (some ⟨gD, 0, none⟩), .int .u32 k, .pointer (some ⟨gf, 0, none⟩)] w (RFPost gD gt g bb c bs v all len P N M nn gf d w) := by
  have x0 := hd.x0
  have x26 := hd.x26
  have HD := Lib.hid hd
  have HF := Lib.hid hf
  have HOFF := Lib.hid hoff
  have HFN := Lib.hid hfn
  have hni := (List.getElem?_eq_some_iff.1 hn).1
  have hfi := (List.getElem?_eq_some_iff.1 hfl).1
  have HN : Hid (all[ni] = d.name) := Lib.hid (List.getElem?_eq_some_iff.1 hn).2
  have HFL : Hid (all[fi] = d.file) := Lib.hid (List.getElem?_eq_some_iff.1 hfl).2
  have HFIT := Lib.hid hfit
  have hpl := hd.le
  have ho4 : o < 4294967296 := by omega
  clear hd hf hoff hfn hn hfl hfit
  go_enter Tryd.func23, Tryd.ntmps23
  go_wp2_with (go_at_call 45; go_must (refine (seekR g bb c p (44 + 4 * k) _ bs _ (by omega) HD.out.rt.rd hl hpl (by omega)).mono ?_); rintro e w2 ⟨rfl, r2, k2⟩; have D2 := HD.out.move k2 r2 (by omega); have y0 := D2.x0)
  have HD2 := Lib.hid D2
  have K2 := Lib.hid k2
  clear D2 k2 r2 x0 x26
  go_wp2_with (go_at_call 46; go_must (refine (readR32 g bb c (44 + 4 * k) o bs _ HD2.out.rt.rd hl (by omega) ho4 HOFF.out).mono ?_); rintro e w3 ⟨rfl, r3, k3⟩; have D3 := HD2.out.move k3 r3 (by omega); have y0 := D3.x0; have y1 := D3.x1)
  have HD3 := Lib.hid D3
  have K3 := Lib.hid (K2.out.trans' k3)
  clear D3 k3 r3
  have hu1 : 0 < (uleb d.units.length).length := List.length_pos_iff.2 (uleb_ne _)
  have hu2 : 0 < (uleb ni).length := List.length_pos_iff.2 (uleb_ne _)
  have hu3 : 0 < (uleb fi).length := List.length_pos_iff.2 (uleb_ne _)
  obtain ⟨q1, hq1⟩ : ∃ q1, q1 = o + (uleb d.units.length).length := ⟨_, rfl⟩
  have d1 := drop_next HFN.out
  have i1 := drop_in HFN.out hu1
  rw [← hq1] at d1 i1
  obtain ⟨q2, hq2⟩ : ∃ q2, q2 = q1 + (uleb ni).length := ⟨_, rfl⟩
  have d2 := drop_next d1
  have i2 := drop_in d1 hu2
  rw [← hq2] at d2 i2
  obtain ⟨q3, hq3⟩ : ∃ q3, q3 = q2 + (uleb fi).length := ⟨_, rfl⟩
  have d3 := drop_next d2
  have i3 := drop_in d2 hu3
  rw [← hq3] at d3 i3
  have HQ1 := Lib.hid hq1
  have HQ2 := Lib.hid hq2
  have HQ3 := Lib.hid hq3
  have HD1 := Lib.hid d1
  have HD2' := Lib.hid d2
  have HD3' := Lib.hid d3
  have wk1 := wrap32 d.units.length (by omega)
  have wk2 := wrap32 ni (by omega)
  have wk3 := wrap32 fi (by omega)
  have hx1 : d.units.length < M64 := by unfold M64; omega
  have hx2 : ni < M64 := by unfold M64; omega
  have hx3 : fi < M64 := by unfold M64; omega
  have hpl3 := HD3.out.le
  clear d1 d2 d3 hq1 hq2 hq3 hu1 hu2 hu3
  go_wp2_with (go_at_call 45; go_must (refine (seekR g bb c _ o _ bs _ rfl HD3.out.rt.rd hl hpl3 ho3).mono ?_); rintro e w4 ⟨rfl, r4, k4⟩; have D4 := HD3.out.move k4 r4 ho3; have z0 := D4.x0)
  have HD4 := Lib.hid D4
  have K4 := Lib.hid (K3.out.trans' k4)
  clear D4 k4 r4 y0 y1
  go_upto_region 15 with (go_at_call 47; go_must (refine (readU g bb c o bs _ d.units.length _ HD4.out.rt.rd hx1 hl HFN.out).mono ?_); rintro e w5 ⟨rfl, r5, k5⟩; rw [← HQ1.out] at r5; have D5 := HD4.out.move k5 r5 i1; have y0 := D5.x0)
  have HD5 := Lib.hid D5
  have K5 := Lib.hid (K4.out.trans' k5)
  clear D5 k5 r5 z0
  go_upto_region 16 with (go_at_call 47; go_must (refine (readU g bb c q1 bs _ ni _ HD5.out.rt.rd hx2 hl HD1.out).mono ?_); rintro e w6 ⟨rfl, r6, k6⟩; rw [← HQ2.out] at r6; have D6 := HD5.out.move k6 r6 i2; have z0 := D6.x0)
  have HD6 := Lib.hid D6
  have K6 := Lib.hid (K5.out.trans' k6)
  clear D6 k6 r6 y0
  go_upto_region 17 with (go_at_call 47; go_must (refine (readU g bb c q2 bs _ fi _ HD6.out.rt.rd hx3 hl HD2'.out).mono ?_); rintro e w7 ⟨rfl, r7, k7⟩; rw [← HQ3.out] at r7; have D7 := HD6.out.move k7 r7 i3; have y0 := D7.x0; have y27 := D7.x27)
  have HD7 := Lib.hid D7
  have K7 := Lib.hid (K6.out.trans' k7)
  have HF7 := Lib.hid (HF.out.keep K7.out (fun e => HF.out.ne HD.out.rt.rd.blk (by decide) e))
  clear D7 k7 r7 z0
  have f0 : w7.cell? ⟨gf, 0, none⟩ = some (.string ⟨#[]⟩) := by rw [HF7.out.cell]; rfl
  have f1 : w7.cell? ⟨gf, 1, none⟩ = some (.string ⟨#[]⟩) := by rw [HF7.out.cell]; rfl
  have f2 : w7.cell? ⟨gf, 2, none⟩ = some (.slice none 0 0) := by rw [HF7.out.cell]; rfl
  have f3 : w7.cell? ⟨gf, 3, none⟩ = some (.bool false) := by rw [HF7.out.cell]; rfl
  have e0 := HF7.out.free 0
  have e1 := HF7.out.free 1
  have e2 := HF7.out.free 2
  have hgg : Hid (gD ≠ gf) := Lib.hid (fun e => by obtain ⟨ds, hb, _⟩ := HD7.out.blk; exact hb.ne HF7.out (by decide) e)
  obtain ⟨W7, rfl⟩ : ∃ W7, W7 = w7 := ⟨_, rfl⟩
  go_upto_region 18 with (go_at_call 44; go_must (refine (rtGet gt g bb c q3 bs v all fi _ HD7.out.rt (by omega) hfi).mono ?_); rintro e w8 ⟨rfl, rfl⟩; rw [HFL.out])
  have D8 := Lib.hid (HD7.out.keepF HF7.out hbf (Keep.setAt (S := At gf) (Keep.refl _ _) gf 1 (.string d.file) (atSelf _)))
  have HF8 := Lib.hid (HF7.out.set 1 (.string d.file))
  have K8 := Lib.hid (Keep.setAt (S := fun i => i = g ∨ i = gf) (K7.out.mono (fun _ _ e => .inl e)) gf 1 (.string d.file) (.inr rfl))
  have y27' := D8.out.x27
  obtain ⟨W8, hW8⟩ : ∃ W, W = w8.setCell ⟨gf, 1, none⟩ (.string d.file) := ⟨_, rfl⟩
  have f0' : W8.cell? ⟨gf, 0, none⟩ = some (.string ⟨#[]⟩) := by rw [hW8, HF8.out.cell]; rfl
  have f2' : W8.cell? ⟨gf, 2, none⟩ = some (.slice none 0 0) := by rw [hW8, HF8.out.cell]; rfl
  have e0' : W8.frozen? ⟨gf, 0, none⟩ = false := by rw [hW8]; exact HF8.out.free 0
  have e2' : W8.frozen? ⟨gf, 2, none⟩ = false := by rw [hW8]; exact HF8.out.free 2
  rw [← hW8] at D8 HF8 K8 y27' ⊢
  clear f0 f1 f2 f3 e0 e1 e2 y27 hW8 HD7 HF7 K7
  go_upto_region 20 with (go_at_call 44; go_must (refine (rtGet gt g bb c q3 bs v all ni _ D8.out.rt (by omega) hni).mono ?_); rintro e w9 ⟨rfl, rfl⟩; rw [HN.out])
  have D9 := (D8.out.keepF HF8.out hbf (Keep.setAt (S := At gf) (Keep.refl _ _) gf 0 (.string d.name) (atSelf _)))
  have HF9 := (HF8.out.set 0 (.string d.name))
  have D10 := (D9.keepF HF9 hbf (Keep.setAt (S := At gf) (Keep.refl _ _) gf 2 (.slice none 0 0) (atSelf _)))
  have HF10 := (HF9.set 2 (.slice none 0 0))
  have HI := Lib.hid (show FI w _ gD gt g bb c q3 bs v all len P N M nn gf d false (.slice none 0 0) 0 from ⟨D10, HF10, Row.nil _ _ _, (K8.out.setAt _ _ _ (.inr rfl)).setAt _ _ _ (.inr rfl), fun b hb => by simp [Value.ownBlock] at hb, hbf, hbw⟩)
  obtain ⟨W9, hW9⟩ : ∃ W, W = ((w9.setCell ⟨gf, 0, none⟩ (.string d.name)).setCell ⟨gf, 2, none⟩ (.slice none 0 0)) := ⟨_, rfl⟩
  rw [← hW9] at HI ⊢
  clear D9 HF9 D10 HF10 D8 HF8 K8 hW9 y27' f0' f2' e0' e2' hgg
  have y2 := HI.out.y2
  have e2 := HI.out.blk.free 2
  go_upto_if 127 with (fail)
  go_cut [14] from 19 to 187 (fun v14 wx => v14 = .int .u32 (d.units.length : Int) ∧ ∃ uv, FI w wx gD gt g bb c q3 bs v all len P N M nn gf d false uv 0)
  case first =>
    by_cases hz : (0 : Int) < (d.units.length : Int)
    rotate_left
    · go_wp2_with fail
      go_meet
      case rel => exact ⟨congrArg (Value.int .u32) (by omega), _, HI.out⟩
    · obtain ⟨wm, mk, rm, gm⟩ := run_make_own (P := Tryd.prog) W9 0 57 61 _ _ 6 sliceCU.und (info_parts sliceCU.row).choose_spec.1 (info_parts sliceCU.row).choose_spec.2.1 (info_parts sliceCU.row).choose_spec.2.2.1 .i64 .u32 d.units.length (by rw [(info_parts sliceCU.row).choose_spec.2.2.2]; omega) (by unfold maxLen; omega) (Nat.zero_le _)
      have GM : Grew W9 wm (.slice none 0 0) (.slice (some ⟨W9.heap.size, 0, none⟩) 0 d.units.length) := ⟨gm, .inr rfl⟩
      have BM := HI.out.blk.keep GM.keep (by simp [Own, Value.ownBlock])
      have ym : wm.cell? ⟨gf, 2, none⟩ = some (.slice none 0 0) := by rw [BM.cell]; rfl
      have fm := BM.free 2
      have HIM := Lib.hid (HI.out.setUnits (j' := 0) GM rm)
      clear GM BM gm rm
      go_wp2_with fail
      go_meet
      case rel => exact ⟨rfl, _, HIM.out⟩
  case rest =>
    obtain ⟨rfl, uv0, hI0⟩ := hcut
    have HI0 := Lib.hid hI0
    clear hI0 HI y2 e2
    have HDR := HD3'
    obtain ⟨n, hn⟩ : ∃ n, n = d.units.length := ⟨_, rfl⟩
    rw [← hn] at hul ⊢
    have HNL := Lib.hid hn
    clear hn HD2' HD1 HD2 HD3 HD4 HD5 HD6 HFN HOFF HQ1 HQ2 HQ3 K2 K3 K4 K5 K6 wk1 wk2 wk3 hx1 hx2 hx3 hpl3 i1 i2 HN HFL hpl y0 ho1 ho2 ho3 ho4 hk hlen h44
    go_wp2_with fail
    go_loopw [17] (fun i wr => ∃ (j : Nat) (uv : Value) (q : Nat), j ≤ n ∧ i = .int .u32 j ∧ FI w wr gD gt g bb c q bs v all len P N M nn gf d false uv j ∧ bs.drop q = (d.units.drop j).flatMap Ut.ulebs ++ (uleb (litN d.lit) ++ r)) (fun i _ => n - (intOf i).toNat)
    case atStart => exact ⟨0, _, q3, by omega, rfl, HI0.out, by rw [HDR.out, List.drop_zero]⟩
    case round =>
      obtain ⟨j, uv, q, hj, rfl, hI, hdq⟩ := hrel
      by_cases hlt : j < n
      · have hltd : j < d.units.length := by rw [← HNL.out]; exact hlt
        have hsn := cells6_snoc hltd
        have hsd : (d.units.drop j).flatMap Ut.ulebs = d.units[j].ulebs ++ (d.units.drop (j + 1)).flatMap Ut.ulebs := by rw [List.drop_eq_getElem_cons hltd, List.flatMap_cons]
        have hft := HFIT.out _ (List.getElem_mem hltd)
        rw [hsd] at hdq
        have F0 := Lib.hid hI
        have HSN := Lib.hid hsn
        clear hI hsn hsd
        generalize d.units[j] = u at *
        obtain ⟨g1, g2, g3, g4, g5⟩ := hft
        obtain ⟨rest, hrest⟩ : ∃ rest, rest = (d.units.drop (j + 1)).flatMap Ut.ulebs ++ (uleb (litN d.lit) ++ r) := ⟨_, rfl⟩
        have hdq0 : bs.drop q = uleb u.sl ++ (uleb u.sc ++ (uleb u.el ++ (uleb u.ec ++ (uleb u.ns ++ rest)))) := by rw [hdq, hrest, Ut.ulebs]; simp only [List.append_assoc]
        have HREST := Lib.hid hrest
        clear hdq hrest
        obtain ⟨q1, hq1⟩ : ∃ q1, q1 = q + (uleb u.sl).length := ⟨_, rfl⟩
        have d1 := drop_next hdq0
        have i1 := drop_in hdq0 (List.length_pos_iff.2 (uleb_ne _))
        rw [← hq1] at d1 i1
        obtain ⟨q2, hq2⟩ : ∃ q1', q1' = q1 + (uleb u.sc).length := ⟨_, rfl⟩
        have d2 := drop_next d1
        have i2 := drop_in d1 (List.length_pos_iff.2 (uleb_ne _))
        rw [← hq2] at d2 i2
        obtain ⟨q3', hq3⟩ : ∃ q1', q1' = q2 + (uleb u.el).length := ⟨_, rfl⟩
        have d3 := drop_next d2
        have i3' := drop_in d2 (List.length_pos_iff.2 (uleb_ne _))
        rw [← hq3] at d3 i3'
        obtain ⟨q4, hq4⟩ : ∃ q1', q1' = q3' + (uleb u.ec).length := ⟨_, rfl⟩
        have d4 := drop_next d3
        have i4 := drop_in d3 (List.length_pos_iff.2 (uleb_ne _))
        rw [← hq4] at d4 i4
        obtain ⟨q5, hq5⟩ : ∃ q1', q1' = q4 + (uleb u.ns).length := ⟨_, rfl⟩
        have d5 := drop_next d4
        have i5 := drop_in d4 (List.length_pos_iff.2 (uleb_ne _))
        rw [← hq5] at d5 i5
        have A0 := Lib.hid hdq0
        have A1 := Lib.hid d1
        have A2 := Lib.hid d2
        have A3 := Lib.hid d3
        have A4 := Lib.hid d4
        have A5 := Lib.hid d5
        have E1 := Lib.hid hq1
        have E2 := Lib.hid hq2
        have E3 := Lib.hid hq3
        have E4 := Lib.hid hq4
        have E5 := Lib.hid hq5
        have k1 := wrap32 u.sl g1
        have k2 := wrap32 u.sc g2
        have k3 := wrap32 u.el g3
        have k4 := wrap32 u.ec g4
        have k5 := wrap32 u.ns g5
        have m1 : u.sl < M64 := by unfold M64; omega
        have m2 : u.sc < M64 := by unfold M64; omega
        have m3 : u.el < M64 := by unfold M64; omega
        have m4 : u.ec < M64 := by unfold M64; omega
        have m5 : u.ns < M64 := by unfold M64; omega
        have x0 := F0.out.x0
        have y2 := F0.out.y2
        have hw3 : j + 1 ≤ maxLen := by unfold maxLen; omega
        have hw4 : (j + 1) * 24 ≤ 140737488355328 := by omega
        clear hdq0 d1 d2 d3 d4 d5 hq1 hq2 hq3 hq4 hq5
        go_upto_region 25 with (fail)
        have HGF : Hid (gD ≠ gf) := Lib.hid (fun e => by obtain ⟨ds, hb, _⟩ := F0.out.dec.blk; exact hb.ne F0.out.blk (by decide) e)
        -- BEGIN GEN
        refine wp_region_noPanic ?_
        have x0d : wr.drew.cell? ⟨gD, 0, none⟩ = some (.pointer (some ⟨g, 0, none⟩)) := (Keep.refl Non wr).drew.cell x0 (fun h => h)
        refine wp_region_held_drew (S := fun w' => w'.cell? ⟨gD, 0, none⟩ = some (.pointer (some ⟨g, 0, none⟩))) (by kernel_rfl) x0d (fun hHeld => ?_)
        refine wpAnyH_take (i := 0) (oi := _) (v := ?zv1) (by simp only [List.getElem?_toArray, List.getElem?_cons_zero]; rfl) (by kernel_rfl) (by kernel_rfl) (by kernel_rfl) (fun _ _ _ h => h) (Or.inl ⟨by rfl, ?zy1⟩) (by assumption) ?zr1
        case zy1 => (intro wz hSw; (try dsimp only at hSw); go_simp <;> with_reducible rfl)
        try simp only [Act.put, List.setIfInBounds_toArray, List.set_cons_zero, List.set_cons_succ]
        refine wpAnyH_take (i := 1) (oi := _) (v := ?zv2) (by simp only [List.getElem?_toArray, List.getElem?_cons_succ, List.getElem?_cons_zero]; rfl) (by kernel_rfl) (by kernel_rfl) (by kernel_rfl) (fun _ _ _ h => h) (Or.inl ⟨by rfl, ?zy2⟩) (by assumption) ?zr2
        case zy2 => (intro wz hSw; (try dsimp only at hSw); go_simp <;> with_reducible rfl)
        try simp only [Act.put, List.setIfInBounds_toArray, List.set_cons_zero, List.set_cons_succ]
        refine wpAnyH_take (i := 2) (oi := _) (v := ?zv3) (by simp only [List.getElem?_toArray, List.getElem?_cons_succ, List.getElem?_cons_zero]; rfl) (by kernel_rfl) (by kernel_rfl) (by kernel_rfl) (fun _ _ _ h => h) (Or.inl ⟨by rfl, ?zy3⟩) (by assumption) ?zr3
        case zy3 => (intro wz hSw; (try dsimp only at hSw); go_simp <;> with_reducible rfl)
        try simp only [Act.put, List.setIfInBounds_toArray, List.set_cons_zero, List.set_cons_succ]
        refine wpAnyH_take (i := 3) (oi := _) (v := ?zv4) (by simp only [List.getElem?_toArray, List.getElem?_cons_succ, List.getElem?_cons_zero]; rfl) (by kernel_rfl) (by kernel_rfl) (by kernel_rfl) (fun _ _ _ h => h) (Or.inl ⟨by rfl, ?zy4⟩) (by assumption) ?zr4
        case zy4 => (intro wz hSw; (try dsimp only at hSw); go_simp <;> with_reducible rfl)
        try simp only [Act.put, List.setIfInBounds_toArray, List.set_cons_zero, List.set_cons_succ]
        refine wpAnyH_take (i := 5) (oi := _) (v := ?zv5) (by simp only [List.getElem?_toArray, List.getElem?_cons_succ, List.getElem?_cons_zero]; rfl) (by kernel_rfl) (by kernel_rfl) (by kernel_rfl) (fun _ _ _ h => h) (Or.inl ⟨by rfl, ?zy5⟩) (by assumption) ?zr5
        case zy5 => (intro wz hSw; (try dsimp only at hSw); go_simp <;> with_reducible rfl)
        try simp only [Act.put, List.setIfInBounds_toArray, List.set_cons_zero, List.set_cons_succ]
        refine wpAnyH_take (i := 6) (oi := _) (v := ?zv6) (by simp only [List.getElem?_toArray, List.getElem?_cons_succ, List.getElem?_cons_zero]; rfl) (by kernel_rfl) (by kernel_rfl) (by kernel_rfl) (fun _ _ _ h => h) (Or.inl ⟨by rfl, ?zy6⟩) (by assumption) ?zr6
        case zy6 => (intro wz hSw; (try dsimp only at hSw); go_simp <;> with_reducible rfl)
        try simp only [Act.put, List.setIfInBounds_toArray, List.set_cons_zero, List.set_cons_succ]
        refine wpAnyH_take (i := 7) (oi := _) (v := ?zv7) (by simp only [List.getElem?_toArray, List.getElem?_cons_succ, List.getElem?_cons_zero]; rfl) (by kernel_rfl) (by kernel_rfl) (by kernel_rfl) (fun _ _ _ h => h) (Or.inl ⟨by rfl, ?zy7⟩) (by assumption) ?zr7
        case zy7 => (intro wz hSw; (try dsimp only at hSw); go_simp <;> with_reducible rfl)
        try simp only [Act.put, List.setIfInBounds_toArray, List.set_cons_zero, List.set_cons_succ]
        refine wpAnyH_take (i := 8) (oi := _) (v := ?zv8) (by simp only [List.getElem?_toArray, List.getElem?_cons_succ, List.getElem?_cons_zero]; rfl) (by kernel_rfl) (by kernel_rfl) (by kernel_rfl) (fun _ _ _ h => h) (Or.inl ⟨by rfl, ?zy8⟩) (by assumption) ?zr8
        case zy8 => (intro wz hSw; (try dsimp only at hSw); go_simp <;> with_reducible rfl)
        try simp only [Act.put, List.setIfInBounds_toArray, List.set_cons_zero, List.set_cons_succ]
        refine wpAnyH_take (i := 11) (oi := _) (v := ?zv9) (by simp only [List.getElem?_toArray, List.getElem?_cons_succ, List.getElem?_cons_zero]; rfl) (by kernel_rfl) (by kernel_rfl) (by kernel_rfl) (fun _ _ _ h => h) (Or.inl ⟨by rfl, ?zy9⟩) (by assumption) ?zr9
        case zy9 => (intro wz hSw; (try dsimp only at hSw); go_simp <;> with_reducible rfl)
        try simp only [Act.put, List.setIfInBounds_toArray, List.set_cons_zero, List.set_cons_succ]
        refine wpAnyH_take (i := 12) (oi := _) (v := ?zv10) (by simp only [List.getElem?_toArray, List.getElem?_cons_succ, List.getElem?_cons_zero]; rfl) (by kernel_rfl) (by kernel_rfl) (by kernel_rfl) (fun _ _ _ h => h) (Or.inl ⟨by rfl, ?zy10⟩) (by assumption) ?zr10
        case zy10 => (intro wz hSw; (try dsimp only at hSw); go_simp <;> with_reducible rfl)
        try simp only [Act.put, List.setIfInBounds_toArray, List.set_cons_zero, List.set_cons_succ]
        refine wpAnyH_take (i := 13) (oi := _) (v := ?zv11) (by simp only [List.getElem?_toArray, List.getElem?_cons_succ, List.getElem?_cons_zero]; rfl) (by kernel_rfl) (by kernel_rfl) (by kernel_rfl) (fun _ _ _ h => h) (Or.inl ⟨by rfl, ?zy11⟩) (by assumption) ?zr11
        case zy11 => (intro wz hSw; (try dsimp only at hSw); go_simp <;> with_reducible rfl)
        try simp only [Act.put, List.setIfInBounds_toArray, List.set_cons_zero, List.set_cons_succ]
        refine wpAnyH_take (i := 14) (oi := _) (v := ?zv12) (by simp only [List.getElem?_toArray, List.getElem?_cons_succ, List.getElem?_cons_zero]; rfl) (by kernel_rfl) (by kernel_rfl) (by kernel_rfl) (fun _ _ _ h => h) (Or.inl ⟨by rfl, ?zy12⟩) (by assumption) ?zr12
        case zy12 => (intro wz hSw; (try dsimp only at hSw); go_simp <;> with_reducible rfl)
        try simp only [Act.put, List.setIfInBounds_toArray, List.set_cons_zero, List.set_cons_succ]
        refine wpAnyH_take (i := 17) (oi := _) (v := ?zv13) (by simp only [List.getElem?_toArray, List.getElem?_cons_succ, List.getElem?_cons_zero]; rfl) (by kernel_rfl) (by kernel_rfl) (by kernel_rfl) (fun _ _ _ h => h) (Or.inl ⟨by rfl, ?zy13⟩) (by assumption) ?zr13
        case zy13 => (intro wz hSw; (try dsimp only at hSw); go_simp <;> with_reducible rfl)
        try simp only [Act.put, List.setIfInBounds_toArray, List.set_cons_zero, List.set_cons_succ]
        refine wpAnyH_take (i := 18) (oi := _) (v := ?zv14) (by simp only [List.getElem?_toArray, List.getElem?_cons_succ, List.getElem?_cons_zero]; rfl) (by kernel_rfl) (by kernel_rfl) (by kernel_rfl) (fun _ _ _ h => h) (Or.inl ⟨by rfl, ?zy14⟩) (by assumption) ?zr14
        case zy14 => (intro wz hSw; (try dsimp only at hSw); go_simp <;> with_reducible rfl)
        try simp only [Act.put, List.setIfInBounds_toArray, List.set_cons_zero, List.set_cons_succ]
        refine wpAnyH_take (i := 19) (oi := _) (v := ?zv15) (by simp only [List.getElem?_toArray, List.getElem?_cons_succ, List.getElem?_cons_zero]; rfl) (by kernel_rfl) (by kernel_rfl) (by kernel_rfl) (fun _ _ _ h => h) (Or.inl ⟨by rfl, ?zy15⟩) (by assumption) ?zr15
        case zy15 => (intro wz hSw; (try dsimp only at hSw); go_simp <;> with_reducible rfl)
        try simp only [Act.put, List.setIfInBounds_toArray, List.set_cons_zero, List.set_cons_succ]
        refine wpAnyH_take (i := 20) (oi := _) (v := ?zv16) (by simp only [List.getElem?_toArray, List.getElem?_cons_succ, List.getElem?_cons_zero]; rfl) (by kernel_rfl) (by kernel_rfl) (by kernel_rfl) (fun _ _ _ h => h) (Or.inl ⟨by rfl, ?zy16⟩) (by assumption) ?zr16
        case zy16 => (intro wz hSw; (try dsimp only at hSw); go_simp <;> with_reducible rfl)
        try simp only [Act.put, List.setIfInBounds_toArray, List.set_cons_zero, List.set_cons_succ]
        refine wpAnyH_take (i := 23) (oi := _) (v := ?zv17) (by simp only [List.getElem?_toArray, List.getElem?_cons_succ, List.getElem?_cons_zero]; rfl) (by kernel_rfl) (by kernel_rfl) (by kernel_rfl) (fun _ _ _ h => h) (Or.inl ⟨by rfl, ?zy17⟩) (by assumption) ?zr17
        case zy17 => (intro wz hSw; (try dsimp only at hSw); go_simp <;> with_reducible rfl)
        try simp only [Act.put, List.setIfInBounds_toArray, List.set_cons_zero, List.set_cons_succ]
        refine wpAnyH_take (i := 24) (oi := _) (v := ?zv18) (by simp only [List.getElem?_toArray, List.getElem?_cons_succ, List.getElem?_cons_zero]; rfl) (by kernel_rfl) (by kernel_rfl) (by kernel_rfl) (fun _ _ _ h => h) (Or.inl ⟨by rfl, ?zy18⟩) (by assumption) ?zr18
        case zy18 => (intro wz hSw; (try dsimp only at hSw); go_simp <;> with_reducible rfl)
        try simp only [Act.put, List.setIfInBounds_toArray, List.set_cons_zero, List.set_cons_succ]
        refine wpAnyH_take (i := 25) (oi := _) (v := ?zv19) (by simp only [List.getElem?_toArray, List.getElem?_cons_succ, List.getElem?_cons_zero]; rfl) (by kernel_rfl) (by kernel_rfl) (by kernel_rfl) (fun _ _ _ h => h) (Or.inl ⟨by rfl, ?zy19⟩) (by assumption) ?zr19
        case zy19 => (intro wz hSw; (try dsimp only at hSw); go_simp <;> with_reducible rfl)
        try simp only [Act.put, List.setIfInBounds_toArray, List.set_cons_zero, List.set_cons_succ]
        refine wpAnyH_take (i := 26) (oi := _) (v := ?zv20) (by simp only [List.getElem?_toArray, List.getElem?_cons_succ, List.getElem?_cons_zero]; rfl) (by kernel_rfl) (by kernel_rfl) (by kernel_rfl) (fun _ _ _ h => h) (Or.inl ⟨by rfl, ?zy20⟩) (by assumption) ?zr20
        case zy20 => (intro wz hSw; (try dsimp only at hSw); go_simp <;> with_reducible rfl)
        try simp only [Act.put, List.setIfInBounds_toArray, List.set_cons_zero, List.set_cons_succ]
        refine wpAnyH_take (i := 29) (oi := _) (v := ?zv21) (by simp only [List.getElem?_toArray, List.getElem?_cons_succ, List.getElem?_cons_zero]; rfl) (by kernel_rfl) (by kernel_rfl) (by kernel_rfl) (fun _ _ _ h => h) (Or.inl ⟨by rfl, ?zy21⟩) (by assumption) ?zr21
        case zy21 => (intro wz hSw; (try dsimp only at hSw); go_simp <;> with_reducible rfl)
        try simp only [Act.put, List.setIfInBounds_toArray, List.set_cons_zero, List.set_cons_succ]
        refine wpAnyH_take (i := 30) (oi := _) (v := ?zv22) (by simp only [List.getElem?_toArray, List.getElem?_cons_succ, List.getElem?_cons_zero]; rfl) (by kernel_rfl) (by kernel_rfl) (by kernel_rfl) (fun _ _ _ h => h) (Or.inl ⟨by rfl, ?zy22⟩) (by assumption) ?zr22
        case zy22 => (intro wz hSw; (try dsimp only at hSw); go_simp <;> with_reducible rfl)
        try simp only [Act.put, List.setIfInBounds_toArray, List.set_cons_zero, List.set_cons_succ]
        refine wpAnyH_take (i := 31) (oi := _) (v := ?zv23) (by simp only [List.getElem?_toArray, List.getElem?_cons_succ, List.getElem?_cons_zero]; rfl) (by kernel_rfl) (by kernel_rfl) (by kernel_rfl) (fun _ _ _ h => h) (Or.inl ⟨by rfl, ?zy23⟩) (by assumption) ?zr23
        case zy23 => (intro wz hSw; (try dsimp only at hSw); go_simp <;> with_reducible rfl)
        try simp only [Act.put, List.setIfInBounds_toArray, List.set_cons_zero, List.set_cons_succ]
        refine wpAnyH_take (i := 32) (oi := _) (v := ?zv24) (by simp only [List.getElem?_toArray, List.getElem?_cons_succ, List.getElem?_cons_zero]; rfl) (by kernel_rfl) (by kernel_rfl) (by kernel_rfl) (fun _ _ _ h => h) (Or.inl ⟨by rfl, ?zy24⟩) (by assumption) ?zr24
        case zy24 => (intro wz hSw; (try dsimp only at hSw); go_simp <;> with_reducible rfl)
        try simp only [Act.put, List.setIfInBounds_toArray, List.set_cons_zero, List.set_cons_succ]
        refine wpAnyH_ready (rs := [4, 9]) (by kernel_rfl) (by simp) ?_
        refine AllReadyH.cons (o := _) (by simp only [List.getElem?_toArray, List.getElem?_cons_succ, List.getElem?_cons_zero]; rfl) (fun K hK => ?_) ?_
        · go_simp
          refine hK.out _ _ x0d (fun hHeld => ?_)
          clear hK K
          try simp only [Act.put, List.setIfInBounds_toArray, List.set_cons_zero, List.set_cons_succ]
          refine wpAnyH_ready (rs := [9]) (by kernel_rfl) (by simp) ?_
          refine AllReadyH.cons (o := _) (by simp only [List.getElem?_toArray, List.getElem?_cons_succ, List.getElem?_cons_zero]; rfl) (fun K hK => ?_) ?_
          · go_simp
            go_at_call 47
            refine (readU g bb c q bs _ u.sl _ F0.out.drew.dec.rt.rd m1 hl A0.out).mono ?_
            rintro e w6 ⟨rfl, r6, k6⟩
            rw [← E1.out] at r6
            have F1 := Lib.hid (F0.out.drew.move k6 r6 i1)
            clear F0 x0 y2
            have x0 := F1.out.x0
            have y2 := F1.out.y2
            go_simp
            refine hK.out _ _ x0 (fun hHeld => ?_)
            clear hK K
            try simp only [Act.put, List.setIfInBounds_toArray, List.set_cons_zero, List.set_cons_succ]
            refine wpAnyH_take (i := 10) (oi := _) (v := ?zv25) (by simp only [List.getElem?_toArray, List.getElem?_cons_succ, List.getElem?_cons_zero]; rfl) (by kernel_rfl) (by kernel_rfl) (by kernel_rfl) (fun _ _ _ h => h) (Or.inl ⟨by rfl, ?zy25⟩) (by assumption) ?zr25
            case zy25 => (intro wz hSw; (try dsimp only at hSw); go_simp <;> with_reducible rfl)
            try simp only [Act.put, List.setIfInBounds_toArray, List.set_cons_zero, List.set_cons_succ]
            refine wpAnyH_ready (rs := [15]) (by kernel_rfl) (by simp) ?_
            refine AllReadyH.cons (o := _) (by simp only [List.getElem?_toArray, List.getElem?_cons_succ, List.getElem?_cons_zero]; rfl) (fun K hK => ?_) ?_
            · go_simp
              go_at_call 47
              refine (readU g bb c q1 bs _ u.sc _ F1.out.dec.rt.rd m2 hl A1.out).mono ?_
              rintro e w6 ⟨rfl, r6, k6⟩
              rw [← E2.out] at r6
              have F2 := Lib.hid (F1.out.move k6 r6 i2)
              clear F1 x0 y2
              have x0 := F2.out.x0
              have y2 := F2.out.y2
              go_simp
              refine hK.out _ _ x0 (fun hHeld => ?_)
              clear hK K
              try simp only [Act.put, List.setIfInBounds_toArray, List.set_cons_zero, List.set_cons_succ]
              refine wpAnyH_take (i := 16) (oi := _) (v := ?zv26) (by simp only [List.getElem?_toArray, List.getElem?_cons_succ, List.getElem?_cons_zero]; rfl) (by kernel_rfl) (by kernel_rfl) (by kernel_rfl) (fun _ _ _ h => h) (Or.inl ⟨by rfl, ?zy26⟩) (by assumption) ?zr26
              case zy26 => (intro wz hSw; (try dsimp only at hSw); go_simp <;> with_reducible rfl)
              try simp only [Act.put, List.setIfInBounds_toArray, List.set_cons_zero, List.set_cons_succ]
              refine wpAnyH_ready (rs := [21]) (by kernel_rfl) (by simp) ?_
              refine AllReadyH.cons (o := _) (by simp only [List.getElem?_toArray, List.getElem?_cons_succ, List.getElem?_cons_zero]; rfl) (fun K hK => ?_) ?_
              · go_simp
                go_at_call 47
                refine (readU g bb c q2 bs _ u.el _ F2.out.dec.rt.rd m3 hl A2.out).mono ?_
                rintro e w6 ⟨rfl, r6, k6⟩
                rw [← E3.out] at r6
                have F3 := Lib.hid (F2.out.move k6 r6 i3')
                clear F2 x0 y2
                have x0 := F3.out.x0
                have y2 := F3.out.y2
                go_simp
                refine hK.out _ _ x0 (fun hHeld => ?_)
                clear hK K
                try simp only [Act.put, List.setIfInBounds_toArray, List.set_cons_zero, List.set_cons_succ]
                refine wpAnyH_take (i := 22) (oi := _) (v := ?zv27) (by simp only [List.getElem?_toArray, List.getElem?_cons_succ, List.getElem?_cons_zero]; rfl) (by kernel_rfl) (by kernel_rfl) (by kernel_rfl) (fun _ _ _ h => h) (Or.inl ⟨by rfl, ?zy27⟩) (by assumption) ?zr27
                case zy27 => (intro wz hSw; (try dsimp only at hSw); go_simp <;> with_reducible rfl)
                try simp only [Act.put, List.setIfInBounds_toArray, List.set_cons_zero, List.set_cons_succ]
                refine wpAnyH_ready (rs := [27]) (by kernel_rfl) (by simp) ?_
                refine AllReadyH.cons (o := _) (by simp only [List.getElem?_toArray, List.getElem?_cons_succ, List.getElem?_cons_zero]; rfl) (fun K hK => ?_) ?_
                · go_simp
                  go_at_call 47
                  refine (readU g bb c q3' bs _ u.ec _ F3.out.dec.rt.rd m4 hl A3.out).mono ?_
                  rintro e w6 ⟨rfl, r6, k6⟩
                  rw [← E4.out] at r6
                  have F4 := Lib.hid (F3.out.move k6 r6 i4)
                  clear F3 x0 y2
                  have x0 := F4.out.x0
                  have y2 := F4.out.y2
                  go_simp
                  refine hK.out _ _ x0 (fun hHeld => ?_)
                  clear hK K
                  try simp only [Act.put, List.setIfInBounds_toArray, List.set_cons_zero, List.set_cons_succ]
                  refine wpAnyH_take (i := 28) (oi := _) (v := ?zv28) (by simp only [List.getElem?_toArray, List.getElem?_cons_succ, List.getElem?_cons_zero]; rfl) (by kernel_rfl) (by kernel_rfl) (by kernel_rfl) (fun _ _ _ h => h) (Or.inl ⟨by rfl, ?zy28⟩) (by assumption) ?zr28
                  case zy28 => (intro wz hSw; (try dsimp only at hSw); go_simp <;> with_reducible rfl)
                  try simp only [Act.put, List.setIfInBounds_toArray, List.set_cons_zero, List.set_cons_succ]
                  refine wpAnyH_ready (rs := [33]) (by kernel_rfl) (by simp) ?_
                  refine AllReadyH.cons (o := _) (by simp only [List.getElem?_toArray, List.getElem?_cons_succ, List.getElem?_cons_zero]; rfl) (fun K hK => ?_) ?_
                  · go_simp
                    go_at_call 47
                    refine (readU g bb c q4 bs _ u.ns _ F4.out.dec.rt.rd m5 hl A4.out).mono ?_
                    rintro e w6 ⟨rfl, r6, k6⟩
                    rw [← E5.out] at r6
                    have F5 := Lib.hid (F4.out.move k6 r6 i5)
                    clear F4 x0 y2
                    have x0 := F5.out.x0
                    have y2 := F5.out.y2
                    go_simp
                    refine hK.out _ _ x0 (fun hHeld => ?_)
                    clear hK K
                    try simp only [Act.put, List.setIfInBounds_toArray, List.set_cons_zero, List.set_cons_succ]
                    refine wpAnyH_take (i := 34) (oi := _) (v := ?zv29) (by simp only [List.getElem?_toArray, List.getElem?_cons_succ, List.getElem?_cons_zero]; rfl) (by kernel_rfl) (by kernel_rfl) (by kernel_rfl) (fun _ _ _ h => h) (Or.inl ⟨by rfl, ?zy29⟩) (by assumption) ?zr29
                    case zy29 => (intro wz hSw; (try dsimp only at hSw); go_simp <;> with_reducible rfl)
                    try simp only [Act.put, List.setIfInBounds_toArray, List.set_cons_zero, List.set_cons_succ]
                    refine wpAnyH_take (i := 35) (oi := _) (v := ?zv30) (by simp only [List.getElem?_toArray, List.getElem?_cons_succ, List.getElem?_cons_zero]; rfl) (by kernel_rfl) (by kernel_rfl) (by kernel_rfl) (fun _ _ _ h => h) (Or.inl ⟨by rfl, ?zy30⟩) (by assumption) ?zr30
                    case zy30 => (intro wz hSw; (try dsimp only at hSw); go_simp <;> with_reducible rfl)
                    try simp only [Act.put, List.setIfInBounds_toArray, List.set_cons_zero, List.set_cons_succ]
                    refine wpAnyH_ready (rs := [36]) (by kernel_rfl) (by simp) ?_
                    refine AllReadyH.cons (o := _) (by simp only [List.getElem?_toArray, List.getElem?_cons_succ, List.getElem?_cons_zero]; rfl) (fun K hK => ?_) ?_
                    · go_simp
                      refine hK.out _ _ (((Keep.refl Non _).alloc _).cell x0 (fun h => h)) (fun hHeld => ?_)
                      clear hK K
                      try simp only [Act.put, List.setIfInBounds_toArray, List.set_cons_zero, List.set_cons_succ]
                      refine wpAnyH_ready (rs := [37]) (by kernel_rfl) (by simp) ?_
                      refine AllReadyH.cons (o := _) (by simp only [List.getElem?_toArray, List.getElem?_cons_succ, List.getElem?_cons_zero]; rfl) (fun K hK => ?_) ?_
                      · refine step_app (n := j) (xs := (d.units.take j).flatMap Ut.cells6) (m := 1) (news := u.cells6) sliceCU rfl _ _ rfl rfl (Row.alloc F5.out.row _) rfl (Reads.sixAt (by simp)) (by decide) (ut6_one u) hw3 hw4 ?_
                        intro v' w7 r7 g7
                        clear x0 y2
                        obtain ⟨F6, x0, y2, f2⟩ := F5.out.app g7
                        clear F5
                        obtain ⟨vb, vd, rfl⟩ := r7.reads.slice
                        refine hK.out _ _ x0 (fun hHeld => ?_)
                        clear hK K
                        try simp only [Act.put, List.setIfInBounds_toArray, List.set_cons_zero, List.set_cons_succ]
                        refine wpAnyH_take (i := 38) (oi := _) (v := ?zv31) (by simp only [List.getElem?_toArray, List.getElem?_cons_succ, List.getElem?_cons_zero]; rfl) (by kernel_rfl) (by kernel_rfl) (by kernel_rfl) (fun _ _ _ h => h) (Or.inl ⟨by rfl, ?zy31⟩) (by assumption) ?zr31
                        case zy31 => (intro wz hSw; (try dsimp only at hSw); go_simp <;> with_reducible rfl)
                        try simp only [Act.put, List.setIfInBounds_toArray, List.set_cons_zero, List.set_cons_succ]
                        refine wpAnyH_take (i := 39) (oi := _) (v := ?zv32) (by simp only [List.getElem?_toArray, List.getElem?_cons_succ, List.getElem?_cons_zero]; rfl) (by kernel_rfl) (by kernel_rfl) (by kernel_rfl) (fun _ _ _ h => h) (Or.inl ⟨by rfl, ?zy32⟩) (by assumption) ?zr32
                        case zy32 => (intro wz hSw; (try dsimp only at hSw); go_simp <;> with_reducible rfl)
                        try simp only [Act.put, List.setIfInBounds_toArray, List.set_cons_zero, List.set_cons_succ]
                        refine wpAnyH_ready (rs := [40]) (by kernel_rfl) (by simp) ?_
                        refine AllReadyH.cons (o := _) (by simp only [List.getElem?_toArray, List.getElem?_cons_succ, List.getElem?_cons_zero]; rfl) (fun K hK => ?_) ?_
                        · go_simp
                          refine hK.out _ _ ((Keep.one w7 gf 2 _).cell x0 (fun e => HGF.out e)) (fun hHeld => ?_)
                          clear hK K
                          try simp only [Act.put, List.setIfInBounds_toArray, List.set_cons_zero, List.set_cons_succ]
                          refine wpAnyH_done (by kernel_rfl) ?_ _
                          refine NoPanic.normal ?_
                          go_wp2_with fail
                          go_roundw
                          case measure => simp [intOf]; omega
                          case rel => exact ⟨j + 1, _, q5, by omega, by go_num, F6.out.setUnits g7 (by rw [HSN.out]; exact r7), by rw [A5.out, HREST.out]⟩
                        · exact AllReadyH.nil
                      · exact AllReadyH.nil
                    · exact AllReadyH.nil
                  · exact AllReadyH.nil
                · exact AllReadyH.nil
              · exact AllReadyH.nil
            · exact AllReadyH.nil
          · exact AllReadyH.nil
        · refine AllReadyH.cons (o := _) (by simp only [List.getElem?_toArray, List.getElem?_cons_succ, List.getElem?_cons_zero]; rfl) (fun K hK => ?_) ?_
          · go_simp
            go_at_call 47
            refine (readU g bb c q bs _ u.sl _ F0.out.drew.dec.rt.rd m1 hl A0.out).mono ?_
            rintro e w6 ⟨rfl, r6, k6⟩
            rw [← E1.out] at r6
            have F1 := Lib.hid (F0.out.drew.move k6 r6 i1)
            clear F0 x0 y2
            have x0 := F1.out.x0
            have y2 := F1.out.y2
            go_simp
            refine hK.out _ _ x0 (fun hHeld => ?_)
            clear hK K
            try simp only [Act.put, List.setIfInBounds_toArray, List.set_cons_zero, List.set_cons_succ]
            refine wpAnyH_take (i := 10) (oi := _) (v := ?zv33) (by simp only [List.getElem?_toArray, List.getElem?_cons_succ, List.getElem?_cons_zero]; rfl) (by kernel_rfl) (by kernel_rfl) (by kernel_rfl) (fun _ _ _ h => h) (Or.inl ⟨by rfl, ?zy33⟩) (by assumption) ?zr33
            case zy33 => (intro wz hSw; (try dsimp only at hSw); go_simp <;> with_reducible rfl)
            try simp only [Act.put, List.setIfInBounds_toArray, List.set_cons_zero, List.set_cons_succ]
            refine wpAnyH_ready (rs := [4, 15]) (by kernel_rfl) (by simp) ?_
            refine AllReadyH.cons (o := _) (by simp only [List.getElem?_toArray, List.getElem?_cons_succ, List.getElem?_cons_zero]; rfl) (fun K hK => ?_) ?_
            · go_simp
              refine hK.out _ _ x0 (fun hHeld => ?_)
              clear hK K
              try simp only [Act.put, List.setIfInBounds_toArray, List.set_cons_zero, List.set_cons_succ]
              refine wpAnyH_ready (rs := [15]) (by kernel_rfl) (by simp) ?_
              refine AllReadyH.cons (o := _) (by simp only [List.getElem?_toArray, List.getElem?_cons_succ, List.getElem?_cons_zero]; rfl) (fun K hK => ?_) ?_
              · go_simp
                go_at_call 47
                refine (readU g bb c q1 bs _ u.sc _ F1.out.dec.rt.rd m2 hl A1.out).mono ?_
                rintro e w6 ⟨rfl, r6, k6⟩
                rw [← E2.out] at r6
                have F2 := Lib.hid (F1.out.move k6 r6 i2)
                clear F1 x0 y2
                have x0 := F2.out.x0
                have y2 := F2.out.y2
                go_simp
                refine hK.out _ _ x0 (fun hHeld => ?_)
                clear hK K
                try simp only [Act.put, List.setIfInBounds_toArray, List.set_cons_zero, List.set_cons_succ]
                refine wpAnyH_take (i := 16) (oi := _) (v := ?zv34) (by simp only [List.getElem?_toArray, List.getElem?_cons_succ, List.getElem?_cons_zero]; rfl) (by kernel_rfl) (by kernel_rfl) (by kernel_rfl) (fun _ _ _ h => h) (Or.inl ⟨by rfl, ?zy34⟩) (by assumption) ?zr34
                case zy34 => (intro wz hSw; (try dsimp only at hSw); go_simp <;> with_reducible rfl)
                try simp only [Act.put, List.setIfInBounds_toArray, List.set_cons_zero, List.set_cons_succ]
                refine wpAnyH_ready (rs := [21]) (by kernel_rfl) (by simp) ?_
                refine AllReadyH.cons (o := _) (by simp only [List.getElem?_toArray, List.getElem?_cons_succ, List.getElem?_cons_zero]; rfl) (fun K hK => ?_) ?_
                · go_simp
                  go_at_call 47
                  refine (readU g bb c q2 bs _ u.el _ F2.out.dec.rt.rd m3 hl A2.out).mono ?_
                  rintro e w6 ⟨rfl, r6, k6⟩
                  rw [← E3.out] at r6
                  have F3 := Lib.hid (F2.out.move k6 r6 i3')
                  clear F2 x0 y2
                  have x0 := F3.out.x0
                  have y2 := F3.out.y2
                  go_simp
                  refine hK.out _ _ x0 (fun hHeld => ?_)
                  clear hK K
                  try simp only [Act.put, List.setIfInBounds_toArray, List.set_cons_zero, List.set_cons_succ]
                  refine wpAnyH_take (i := 22) (oi := _) (v := ?zv35) (by simp only [List.getElem?_toArray, List.getElem?_cons_succ, List.getElem?_cons_zero]; rfl) (by kernel_rfl) (by kernel_rfl) (by kernel_rfl) (fun _ _ _ h => h) (Or.inl ⟨by rfl, ?zy35⟩) (by assumption) ?zr35
                  case zy35 => (intro wz hSw; (try dsimp only at hSw); go_simp <;> with_reducible rfl)
                  try simp only [Act.put, List.setIfInBounds_toArray, List.set_cons_zero, List.set_cons_succ]
                  refine wpAnyH_ready (rs := [27]) (by kernel_rfl) (by simp) ?_
                  refine AllReadyH.cons (o := _) (by simp only [List.getElem?_toArray, List.getElem?_cons_succ, List.getElem?_cons_zero]; rfl) (fun K hK => ?_) ?_
                  · go_simp
                    go_at_call 47
                    refine (readU g bb c q3' bs _ u.ec _ F3.out.dec.rt.rd m4 hl A3.out).mono ?_
                    rintro e w6 ⟨rfl, r6, k6⟩
                    rw [← E4.out] at r6
                    have F4 := Lib.hid (F3.out.move k6 r6 i4)
                    clear F3 x0 y2
                    have x0 := F4.out.x0
                    have y2 := F4.out.y2
                    go_simp
                    refine hK.out _ _ x0 (fun hHeld => ?_)
                    clear hK K
                    try simp only [Act.put, List.setIfInBounds_toArray, List.set_cons_zero, List.set_cons_succ]
                    refine wpAnyH_take (i := 28) (oi := _) (v := ?zv36) (by simp only [List.getElem?_toArray, List.getElem?_cons_succ, List.getElem?_cons_zero]; rfl) (by kernel_rfl) (by kernel_rfl) (by kernel_rfl) (fun _ _ _ h => h) (Or.inl ⟨by rfl, ?zy36⟩) (by assumption) ?zr36
                    case zy36 => (intro wz hSw; (try dsimp only at hSw); go_simp <;> with_reducible rfl)
                    try simp only [Act.put, List.setIfInBounds_toArray, List.set_cons_zero, List.set_cons_succ]
                    refine wpAnyH_ready (rs := [33]) (by kernel_rfl) (by simp) ?_
                    refine AllReadyH.cons (o := _) (by simp only [List.getElem?_toArray, List.getElem?_cons_succ, List.getElem?_cons_zero]; rfl) (fun K hK => ?_) ?_
                    · go_simp
                      go_at_call 47
                      refine (readU g bb c q4 bs _ u.ns _ F4.out.dec.rt.rd m5 hl A4.out).mono ?_
                      rintro e w6 ⟨rfl, r6, k6⟩
                      rw [← E5.out] at r6
                      have F5 := Lib.hid (F4.out.move k6 r6 i5)
                      clear F4 x0 y2
                      have x0 := F5.out.x0
                      have y2 := F5.out.y2
                      go_simp
                      refine hK.out _ _ x0 (fun hHeld => ?_)
                      clear hK K
                      try simp only [Act.put, List.setIfInBounds_toArray, List.set_cons_zero, List.set_cons_succ]
                      refine wpAnyH_take (i := 34) (oi := _) (v := ?zv37) (by simp only [List.getElem?_toArray, List.getElem?_cons_succ, List.getElem?_cons_zero]; rfl) (by kernel_rfl) (by kernel_rfl) (by kernel_rfl) (fun _ _ _ h => h) (Or.inl ⟨by rfl, ?zy37⟩) (by assumption) ?zr37
                      case zy37 => (intro wz hSw; (try dsimp only at hSw); go_simp <;> with_reducible rfl)
                      try simp only [Act.put, List.setIfInBounds_toArray, List.set_cons_zero, List.set_cons_succ]
                      refine wpAnyH_take (i := 35) (oi := _) (v := ?zv38) (by simp only [List.getElem?_toArray, List.getElem?_cons_succ, List.getElem?_cons_zero]; rfl) (by kernel_rfl) (by kernel_rfl) (by kernel_rfl) (fun _ _ _ h => h) (Or.inl ⟨by rfl, ?zy38⟩) (by assumption) ?zr38
                      case zy38 => (intro wz hSw; (try dsimp only at hSw); go_simp <;> with_reducible rfl)
                      try simp only [Act.put, List.setIfInBounds_toArray, List.set_cons_zero, List.set_cons_succ]
                      refine wpAnyH_ready (rs := [36]) (by kernel_rfl) (by simp) ?_
                      refine AllReadyH.cons (o := _) (by simp only [List.getElem?_toArray, List.getElem?_cons_succ, List.getElem?_cons_zero]; rfl) (fun K hK => ?_) ?_
                      · go_simp
                        refine hK.out _ _ (((Keep.refl Non _).alloc _).cell x0 (fun h => h)) (fun hHeld => ?_)
                        clear hK K
                        try simp only [Act.put, List.setIfInBounds_toArray, List.set_cons_zero, List.set_cons_succ]
                        refine wpAnyH_ready (rs := [37]) (by kernel_rfl) (by simp) ?_
                        refine AllReadyH.cons (o := _) (by simp only [List.getElem?_toArray, List.getElem?_cons_succ, List.getElem?_cons_zero]; rfl) (fun K hK => ?_) ?_
                        · refine step_app (n := j) (xs := (d.units.take j).flatMap Ut.cells6) (m := 1) (news := u.cells6) sliceCU rfl _ _ rfl rfl (Row.alloc F5.out.row _) rfl (Reads.sixAt (by simp)) (by decide) (ut6_one u) hw3 hw4 ?_
                          intro v' w7 r7 g7
                          clear x0 y2
                          obtain ⟨F6, x0, y2, f2⟩ := F5.out.app g7
                          clear F5
                          obtain ⟨vb, vd, rfl⟩ := r7.reads.slice
                          refine hK.out _ _ x0 (fun hHeld => ?_)
                          clear hK K
                          try simp only [Act.put, List.setIfInBounds_toArray, List.set_cons_zero, List.set_cons_succ]
                          refine wpAnyH_take (i := 38) (oi := _) (v := ?zv39) (by simp only [List.getElem?_toArray, List.getElem?_cons_succ, List.getElem?_cons_zero]; rfl) (by kernel_rfl) (by kernel_rfl) (by kernel_rfl) (fun _ _ _ h => h) (Or.inl ⟨by rfl, ?zy39⟩) (by assumption) ?zr39
                          case zy39 => (intro wz hSw; (try dsimp only at hSw); go_simp <;> with_reducible rfl)
                          try simp only [Act.put, List.setIfInBounds_toArray, List.set_cons_zero, List.set_cons_succ]
                          refine wpAnyH_take (i := 39) (oi := _) (v := ?zv40) (by simp only [List.getElem?_toArray, List.getElem?_cons_succ, List.getElem?_cons_zero]; rfl) (by kernel_rfl) (by kernel_rfl) (by kernel_rfl) (fun _ _ _ h => h) (Or.inl ⟨by rfl, ?zy40⟩) (by assumption) ?zr40
                          case zy40 => (intro wz hSw; (try dsimp only at hSw); go_simp <;> with_reducible rfl)
                          try simp only [Act.put, List.setIfInBounds_toArray, List.set_cons_zero, List.set_cons_succ]
                          refine wpAnyH_ready (rs := [40]) (by kernel_rfl) (by simp) ?_
                          refine AllReadyH.cons (o := _) (by simp only [List.getElem?_toArray, List.getElem?_cons_succ, List.getElem?_cons_zero]; rfl) (fun K hK => ?_) ?_
                          · go_simp
                            refine hK.out _ _ ((Keep.one w7 gf 2 _).cell x0 (fun e => HGF.out e)) (fun hHeld => ?_)
                            clear hK K
                            try simp only [Act.put, List.setIfInBounds_toArray, List.set_cons_zero, List.set_cons_succ]
                            refine wpAnyH_done (by kernel_rfl) ?_ _
                            refine NoPanic.normal ?_
                            go_wp2_with fail
                            go_roundw
                            case measure => simp [intOf]; omega
                            case rel => exact ⟨j + 1, _, q5, by omega, by go_num, F6.out.setUnits g7 (by rw [HSN.out]; exact r7), by rw [A5.out, HREST.out]⟩
                          · exact AllReadyH.nil
                        · exact AllReadyH.nil
                      · exact AllReadyH.nil
                    · exact AllReadyH.nil
                  · exact AllReadyH.nil
                · exact AllReadyH.nil
              · exact AllReadyH.nil
            · refine AllReadyH.cons (o := _) (by simp only [List.getElem?_toArray, List.getElem?_cons_succ, List.getElem?_cons_zero]; rfl) (fun K hK => ?_) ?_
              · go_simp
                go_at_call 47
                refine (readU g bb c q1 bs _ u.sc _ F1.out.dec.rt.rd m2 hl A1.out).mono ?_
                rintro e w6 ⟨rfl, r6, k6⟩
                rw [← E2.out] at r6
                have F2 := Lib.hid (F1.out.move k6 r6 i2)
                clear F1 x0 y2
                have x0 := F2.out.x0
                have y2 := F2.out.y2
                go_simp
                refine hK.out _ _ x0 (fun hHeld => ?_)
                clear hK K
                try simp only [Act.put, List.setIfInBounds_toArray, List.set_cons_zero, List.set_cons_succ]
                refine wpAnyH_take (i := 16) (oi := _) (v := ?zv41) (by simp only [List.getElem?_toArray, List.getElem?_cons_succ, List.getElem?_cons_zero]; rfl) (by kernel_rfl) (by kernel_rfl) (by kernel_rfl) (fun _ _ _ h => h) (Or.inl ⟨by rfl, ?zy41⟩) (by assumption) ?zr41
                case zy41 => (intro wz hSw; (try dsimp only at hSw); go_simp <;> with_reducible rfl)
                try simp only [Act.put, List.setIfInBounds_toArray, List.set_cons_zero, List.set_cons_succ]
                refine wpAnyH_ready (rs := [4, 21]) (by kernel_rfl) (by simp) ?_
                refine AllReadyH.cons (o := _) (by simp only [List.getElem?_toArray, List.getElem?_cons_succ, List.getElem?_cons_zero]; rfl) (fun K hK => ?_) ?_
                · go_simp
                  refine hK.out _ _ x0 (fun hHeld => ?_)
                  clear hK K
                  try simp only [Act.put, List.setIfInBounds_toArray, List.set_cons_zero, List.set_cons_succ]
                  refine wpAnyH_ready (rs := [21]) (by kernel_rfl) (by simp) ?_
                  refine AllReadyH.cons (o := _) (by simp only [List.getElem?_toArray, List.getElem?_cons_succ, List.getElem?_cons_zero]; rfl) (fun K hK => ?_) ?_
                  · go_simp
                    go_at_call 47
                    refine (readU g bb c q2 bs _ u.el _ F2.out.dec.rt.rd m3 hl A2.out).mono ?_
                    rintro e w6 ⟨rfl, r6, k6⟩
                    rw [← E3.out] at r6
                    have F3 := Lib.hid (F2.out.move k6 r6 i3')
                    clear F2 x0 y2
                    have x0 := F3.out.x0
                    have y2 := F3.out.y2
                    go_simp
                    refine hK.out _ _ x0 (fun hHeld => ?_)
                    clear hK K
                    try simp only [Act.put, List.setIfInBounds_toArray, List.set_cons_zero, List.set_cons_succ]
                    refine wpAnyH_take (i := 22) (oi := _) (v := ?zv42) (by simp only [List.getElem?_toArray, List.getElem?_cons_succ, List.getElem?_cons_zero]; rfl) (by kernel_rfl) (by kernel_rfl) (by kernel_rfl) (fun _ _ _ h => h) (Or.inl ⟨by rfl, ?zy42⟩) (by assumption) ?zr42
                    case zy42 => (intro wz hSw; (try dsimp only at hSw); go_simp <;> with_reducible rfl)
                    try simp only [Act.put, List.setIfInBounds_toArray, List.set_cons_zero, List.set_cons_succ]
                    refine wpAnyH_ready (rs := [27]) (by kernel_rfl) (by simp) ?_
                    refine AllReadyH.cons (o := _) (by simp only [List.getElem?_toArray, List.getElem?_cons_succ, List.getElem?_cons_zero]; rfl) (fun K hK => ?_) ?_
                    · go_simp
                      go_at_call 47
                      refine (readU g bb c q3' bs _ u.ec _ F3.out.dec.rt.rd m4 hl A3.out).mono ?_
                      rintro e w6 ⟨rfl, r6, k6⟩
                      rw [← E4.out] at r6
                      have F4 := Lib.hid (F3.out.move k6 r6 i4)
                      clear F3 x0 y2
                      have x0 := F4.out.x0
                      have y2 := F4.out.y2
                      go_simp
                      refine hK.out _ _ x0 (fun hHeld => ?_)
                      clear hK K
                      try simp only [Act.put, List.setIfInBounds_toArray, List.set_cons_zero, List.set_cons_succ]
                      refine wpAnyH_take (i := 28) (oi := _) (v := ?zv43) (by simp only [List.getElem?_toArray, List.getElem?_cons_succ, List.getElem?_cons_zero]; rfl) (by kernel_rfl) (by kernel_rfl) (by kernel_rfl) (fun _ _ _ h => h) (Or.inl ⟨by rfl, ?zy43⟩) (by assumption) ?zr43
                      case zy43 => (intro wz hSw; (try dsimp only at hSw); go_simp <;> with_reducible rfl)
                      try simp only [Act.put, List.setIfInBounds_toArray, List.set_cons_zero, List.set_cons_succ]
                      refine wpAnyH_ready (rs := [33]) (by kernel_rfl) (by simp) ?_
                      refine AllReadyH.cons (o := _) (by simp only [List.getElem?_toArray, List.getElem?_cons_succ, List.getElem?_cons_zero]; rfl) (fun K hK => ?_) ?_
                      · go_simp
                        go_at_call 47
                        refine (readU g bb c q4 bs _ u.ns _ F4.out.dec.rt.rd m5 hl A4.out).mono ?_
                        rintro e w6 ⟨rfl, r6, k6⟩
                        rw [← E5.out] at r6
                        have F5 := Lib.hid (F4.out.move k6 r6 i5)
                        clear F4 x0 y2
                        have x0 := F5.out.x0
                        have y2 := F5.out.y2
                        go_simp
                        refine hK.out _ _ x0 (fun hHeld => ?_)
                        clear hK K
                        try simp only [Act.put, List.setIfInBounds_toArray, List.set_cons_zero, List.set_cons_succ]
                        refine wpAnyH_take (i := 34) (oi := _) (v := ?zv44) (by simp only [List.getElem?_toArray, List.getElem?_cons_succ, List.getElem?_cons_zero]; rfl) (by kernel_rfl) (by kernel_rfl) (by kernel_rfl) (fun _ _ _ h => h) (Or.inl ⟨by rfl, ?zy44⟩) (by assumption) ?zr44
                        case zy44 => (intro wz hSw; (try dsimp only at hSw); go_simp <;> with_reducible rfl)
                        try simp only [Act.put, List.setIfInBounds_toArray, List.set_cons_zero, List.set_cons_succ]
                        refine wpAnyH_take (i := 35) (oi := _) (v := ?zv45) (by simp only [List.getElem?_toArray, List.getElem?_cons_succ, List.getElem?_cons_zero]; rfl) (by kernel_rfl) (by kernel_rfl) (by kernel_rfl) (fun _ _ _ h => h) (Or.inl ⟨by rfl, ?zy45⟩) (by assumption) ?zr45
                        case zy45 => (intro wz hSw; (try dsimp only at hSw); go_simp <;> with_reducible rfl)
                        try simp only [Act.put, List.setIfInBounds_toArray, List.set_cons_zero, List.set_cons_succ]
                        refine wpAnyH_ready (rs := [36]) (by kernel_rfl) (by simp) ?_
                        refine AllReadyH.cons (o := _) (by simp only [List.getElem?_toArray, List.getElem?_cons_succ, List.getElem?_cons_zero]; rfl) (fun K hK => ?_) ?_
                        · go_simp
                          refine hK.out _ _ (((Keep.refl Non _).alloc _).cell x0 (fun h => h)) (fun hHeld => ?_)
                          clear hK K
                          try simp only [Act.put, List.setIfInBounds_toArray, List.set_cons_zero, List.set_cons_succ]
                          refine wpAnyH_ready (rs := [37]) (by kernel_rfl) (by simp) ?_
                          refine AllReadyH.cons (o := _) (by simp only [List.getElem?_toArray, List.getElem?_cons_succ, List.getElem?_cons_zero]; rfl) (fun K hK => ?_) ?_
                          · refine step_app (n := j) (xs := (d.units.take j).flatMap Ut.cells6) (m := 1) (news := u.cells6) sliceCU rfl _ _ rfl rfl (Row.alloc F5.out.row _) rfl (Reads.sixAt (by simp)) (by decide) (ut6_one u) hw3 hw4 ?_
                            intro v' w7 r7 g7
                            clear x0 y2
                            obtain ⟨F6, x0, y2, f2⟩ := F5.out.app g7
                            clear F5
                            obtain ⟨vb, vd, rfl⟩ := r7.reads.slice
                            refine hK.out _ _ x0 (fun hHeld => ?_)
                            clear hK K
                            try simp only [Act.put, List.setIfInBounds_toArray, List.set_cons_zero, List.set_cons_succ]
                            refine wpAnyH_take (i := 38) (oi := _) (v := ?zv46) (by simp only [List.getElem?_toArray, List.getElem?_cons_succ, List.getElem?_cons_zero]; rfl) (by kernel_rfl) (by kernel_rfl) (by kernel_rfl) (fun _ _ _ h => h) (Or.inl ⟨by rfl, ?zy46⟩) (by assumption) ?zr46
                            case zy46 => (intro wz hSw; (try dsimp only at hSw); go_simp <;> with_reducible rfl)
                            try simp only [Act.put, List.setIfInBounds_toArray, List.set_cons_zero, List.set_cons_succ]
                            refine wpAnyH_take (i := 39) (oi := _) (v := ?zv47) (by simp only [List.getElem?_toArray, List.getElem?_cons_succ, List.getElem?_cons_zero]; rfl) (by kernel_rfl) (by kernel_rfl) (by kernel_rfl) (fun _ _ _ h => h) (Or.inl ⟨by rfl, ?zy47⟩) (by assumption) ?zr47
                            case zy47 => (intro wz hSw; (try dsimp only at hSw); go_simp <;> with_reducible rfl)
                            try simp only [Act.put, List.setIfInBounds_toArray, List.set_cons_zero, List.set_cons_succ]
                            refine wpAnyH_ready (rs := [40]) (by kernel_rfl) (by simp) ?_
                            refine AllReadyH.cons (o := _) (by simp only [List.getElem?_toArray, List.getElem?_cons_succ, List.getElem?_cons_zero]; rfl) (fun K hK => ?_) ?_
                            · go_simp
                              refine hK.out _ _ ((Keep.one w7 gf 2 _).cell x0 (fun e => HGF.out e)) (fun hHeld => ?_)
                              clear hK K
                              try simp only [Act.put, List.setIfInBounds_toArray, List.set_cons_zero, List.set_cons_succ]
                              refine wpAnyH_done (by kernel_rfl) ?_ _
                              refine NoPanic.normal ?_
                              go_wp2_with fail
                              go_roundw
                              case measure => simp [intOf]; omega
                              case rel => exact ⟨j + 1, _, q5, by omega, by go_num, F6.out.setUnits g7 (by rw [HSN.out]; exact r7), by rw [A5.out, HREST.out]⟩
                            · exact AllReadyH.nil
                          · exact AllReadyH.nil
                        · exact AllReadyH.nil
                      · exact AllReadyH.nil
                    · exact AllReadyH.nil
                  · exact AllReadyH.nil
                · refine AllReadyH.cons (o := _) (by simp only [List.getElem?_toArray, List.getElem?_cons_succ, List.getElem?_cons_zero]; rfl) (fun K hK => ?_) ?_
                  · go_simp
                    go_at_call 47
                    refine (readU g bb c q2 bs _ u.el _ F2.out.dec.rt.rd m3 hl A2.out).mono ?_
                    rintro e w6 ⟨rfl, r6, k6⟩
                    rw [← E3.out] at r6
                    have F3 := Lib.hid (F2.out.move k6 r6 i3')
                    clear F2 x0 y2
                    have x0 := F3.out.x0
                    have y2 := F3.out.y2
                    go_simp
                    refine hK.out _ _ x0 (fun hHeld => ?_)
                    clear hK K
                    try simp only [Act.put, List.setIfInBounds_toArray, List.set_cons_zero, List.set_cons_succ]
                    refine wpAnyH_take (i := 22) (oi := _) (v := ?zv48) (by simp only [List.getElem?_toArray, List.getElem?_cons_succ, List.getElem?_cons_zero]; rfl) (by kernel_rfl) (by kernel_rfl) (by kernel_rfl) (fun _ _ _ h => h) (Or.inl ⟨by rfl, ?zy48⟩) (by assumption) ?zr48
                    case zy48 => (intro wz hSw; (try dsimp only at hSw); go_simp <;> with_reducible rfl)
                    try simp only [Act.put, List.setIfInBounds_toArray, List.set_cons_zero, List.set_cons_succ]
                    refine wpAnyH_ready (rs := [4, 27]) (by kernel_rfl) (by simp) ?_
                    refine AllReadyH.cons (o := _) (by simp only [List.getElem?_toArray, List.getElem?_cons_succ, List.getElem?_cons_zero]; rfl) (fun K hK => ?_) ?_
                    · go_simp
                      refine hK.out _ _ x0 (fun hHeld => ?_)
                      clear hK K
                      try simp only [Act.put, List.setIfInBounds_toArray, List.set_cons_zero, List.set_cons_succ]
                      refine wpAnyH_ready (rs := [27]) (by kernel_rfl) (by simp) ?_
                      refine AllReadyH.cons (o := _) (by simp only [List.getElem?_toArray, List.getElem?_cons_succ, List.getElem?_cons_zero]; rfl) (fun K hK => ?_) ?_
                      · go_simp
                        go_at_call 47
                        refine (readU g bb c q3' bs _ u.ec _ F3.out.dec.rt.rd m4 hl A3.out).mono ?_
                        rintro e w6 ⟨rfl, r6, k6⟩
                        rw [← E4.out] at r6
                        have F4 := Lib.hid (F3.out.move k6 r6 i4)
                        clear F3 x0 y2
                        have x0 := F4.out.x0
                        have y2 := F4.out.y2
                        go_simp
                        refine hK.out _ _ x0 (fun hHeld => ?_)
                        clear hK K
                        try simp only [Act.put, List.setIfInBounds_toArray, List.set_cons_zero, List.set_cons_succ]
                        refine wpAnyH_take (i := 28) (oi := _) (v := ?zv49) (by simp only [List.getElem?_toArray, List.getElem?_cons_succ, List.getElem?_cons_zero]; rfl) (by kernel_rfl) (by kernel_rfl) (by kernel_rfl) (fun _ _ _ h => h) (Or.inl ⟨by rfl, ?zy49⟩) (by assumption) ?zr49
                        case zy49 => (intro wz hSw; (try dsimp only at hSw); go_simp <;> with_reducible rfl)
                        try simp only [Act.put, List.setIfInBounds_toArray, List.set_cons_zero, List.set_cons_succ]
                        refine wpAnyH_ready (rs := [33]) (by kernel_rfl) (by simp) ?_
                        refine AllReadyH.cons (o := _) (by simp only [List.getElem?_toArray, List.getElem?_cons_succ, List.getElem?_cons_zero]; rfl) (fun K hK => ?_) ?_
                        · go_simp
                          go_at_call 47
                          refine (readU g bb c q4 bs _ u.ns _ F4.out.dec.rt.rd m5 hl A4.out).mono ?_
                          rintro e w6 ⟨rfl, r6, k6⟩
                          rw [← E5.out] at r6
                          have F5 := Lib.hid (F4.out.move k6 r6 i5)
                          clear F4 x0 y2
                          have x0 := F5.out.x0
                          have y2 := F5.out.y2
                          go_simp
                          refine hK.out _ _ x0 (fun hHeld => ?_)
                          clear hK K
                          try simp only [Act.put, List.setIfInBounds_toArray, List.set_cons_zero, List.set_cons_succ]
                          refine wpAnyH_take (i := 34) (oi := _) (v := ?zv50) (by simp only [List.getElem?_toArray, List.getElem?_cons_succ, List.getElem?_cons_zero]; rfl) (by kernel_rfl) (by kernel_rfl) (by kernel_rfl) (fun _ _ _ h => h) (Or.inl ⟨by rfl, ?zy50⟩) (by assumption) ?zr50
                          case zy50 => (intro wz hSw; (try dsimp only at hSw); go_simp <;> with_reducible rfl)
                          try simp only [Act.put, List.setIfInBounds_toArray, List.set_cons_zero, List.set_cons_succ]
                          refine wpAnyH_take (i := 35) (oi := _) (v := ?zv51) (by simp only [List.getElem?_toArray, List.getElem?_cons_succ, List.getElem?_cons_zero]; rfl) (by kernel_rfl) (by kernel_rfl) (by kernel_rfl) (fun _ _ _ h => h) (Or.inl ⟨by rfl, ?zy51⟩) (by assumption) ?zr51
                          case zy51 => (intro wz hSw; (try dsimp only at hSw); go_simp <;> with_reducible rfl)
                          try simp only [Act.put, List.setIfInBounds_toArray, List.set_cons_zero, List.set_cons_succ]
                          refine wpAnyH_ready (rs := [36]) (by kernel_rfl) (by simp) ?_
                          refine AllReadyH.cons (o := _) (by simp only [List.getElem?_toArray, List.getElem?_cons_succ, List.getElem?_cons_zero]; rfl) (fun K hK => ?_) ?_
                          · go_simp
                            refine hK.out _ _ (((Keep.refl Non _).alloc _).cell x0 (fun h => h)) (fun hHeld => ?_)
                            clear hK K
                            try simp only [Act.put, List.setIfInBounds_toArray, List.set_cons_zero, List.set_cons_succ]
                            refine wpAnyH_ready (rs := [37]) (by kernel_rfl) (by simp) ?_
                            refine AllReadyH.cons (o := _) (by simp only [List.getElem?_toArray, List.getElem?_cons_succ, List.getElem?_cons_zero]; rfl) (fun K hK => ?_) ?_
                            · refine step_app (n := j) (xs := (d.units.take j).flatMap Ut.cells6) (m := 1) (news := u.cells6) sliceCU rfl _ _ rfl rfl (Row.alloc F5.out.row _) rfl (Reads.sixAt (by simp)) (by decide) (ut6_one u) hw3 hw4 ?_
                              intro v' w7 r7 g7
                              clear x0 y2
                              obtain ⟨F6, x0, y2, f2⟩ := F5.out.app g7
                              clear F5
                              obtain ⟨vb, vd, rfl⟩ := r7.reads.slice
                              refine hK.out _ _ x0 (fun hHeld => ?_)
                              clear hK K
                              try simp only [Act.put, List.setIfInBounds_toArray, List.set_cons_zero, List.set_cons_succ]
                              refine wpAnyH_take (i := 38) (oi := _) (v := ?zv52) (by simp only [List.getElem?_toArray, List.getElem?_cons_succ, List.getElem?_cons_zero]; rfl) (by kernel_rfl) (by kernel_rfl) (by kernel_rfl) (fun _ _ _ h => h) (Or.inl ⟨by rfl, ?zy52⟩) (by assumption) ?zr52
                              case zy52 => (intro wz hSw; (try dsimp only at hSw); go_simp <;> with_reducible rfl)
                              try simp only [Act.put, List.setIfInBounds_toArray, List.set_cons_zero, List.set_cons_succ]
                              refine wpAnyH_take (i := 39) (oi := _) (v := ?zv53) (by simp only [List.getElem?_toArray, List.getElem?_cons_succ, List.getElem?_cons_zero]; rfl) (by kernel_rfl) (by kernel_rfl) (by kernel_rfl) (fun _ _ _ h => h) (Or.inl ⟨by rfl, ?zy53⟩) (by assumption) ?zr53
                              case zy53 => (intro wz hSw; (try dsimp only at hSw); go_simp <;> with_reducible rfl)
                              try simp only [Act.put, List.setIfInBounds_toArray, List.set_cons_zero, List.set_cons_succ]
                              refine wpAnyH_ready (rs := [40]) (by kernel_rfl) (by simp) ?_
                              refine AllReadyH.cons (o := _) (by simp only [List.getElem?_toArray, List.getElem?_cons_succ, List.getElem?_cons_zero]; rfl) (fun K hK => ?_) ?_
                              · go_simp
                                refine hK.out _ _ ((Keep.one w7 gf 2 _).cell x0 (fun e => HGF.out e)) (fun hHeld => ?_)
                                clear hK K
                                try simp only [Act.put, List.setIfInBounds_toArray, List.set_cons_zero, List.set_cons_succ]
                                refine wpAnyH_done (by kernel_rfl) ?_ _
                                refine NoPanic.normal ?_
                                go_wp2_with fail
                                go_roundw
                                case measure => simp [intOf]; omega
                                case rel => exact ⟨j + 1, _, q5, by omega, by go_num, F6.out.setUnits g7 (by rw [HSN.out]; exact r7), by rw [A5.out, HREST.out]⟩
                              · exact AllReadyH.nil
                            · exact AllReadyH.nil
                          · exact AllReadyH.nil
                        · exact AllReadyH.nil
                      · exact AllReadyH.nil
                    · refine AllReadyH.cons (o := _) (by simp only [List.getElem?_toArray, List.getElem?_cons_succ, List.getElem?_cons_zero]; rfl) (fun K hK => ?_) ?_
                      · go_simp
                        go_at_call 47
                        refine (readU g bb c q3' bs _ u.ec _ F3.out.dec.rt.rd m4 hl A3.out).mono ?_
                        rintro e w6 ⟨rfl, r6, k6⟩
                        rw [← E4.out] at r6
                        have F4 := Lib.hid (F3.out.move k6 r6 i4)
                        clear F3 x0 y2
                        have x0 := F4.out.x0
                        have y2 := F4.out.y2
                        go_simp
                        refine hK.out _ _ x0 (fun hHeld => ?_)
                        clear hK K
                        try simp only [Act.put, List.setIfInBounds_toArray, List.set_cons_zero, List.set_cons_succ]
                        refine wpAnyH_take (i := 28) (oi := _) (v := ?zv54) (by simp only [List.getElem?_toArray, List.getElem?_cons_succ, List.getElem?_cons_zero]; rfl) (by kernel_rfl) (by kernel_rfl) (by kernel_rfl) (fun _ _ _ h => h) (Or.inl ⟨by rfl, ?zy54⟩) (by assumption) ?zr54
                        case zy54 => (intro wz hSw; (try dsimp only at hSw); go_simp <;> with_reducible rfl)
                        try simp only [Act.put, List.setIfInBounds_toArray, List.set_cons_zero, List.set_cons_succ]
                        refine wpAnyH_ready (rs := [4, 33]) (by kernel_rfl) (by simp) ?_
                        refine AllReadyH.cons (o := _) (by simp only [List.getElem?_toArray, List.getElem?_cons_succ, List.getElem?_cons_zero]; rfl) (fun K hK => ?_) ?_
                        · go_simp
                          refine hK.out _ _ x0 (fun hHeld => ?_)
                          clear hK K
                          try simp only [Act.put, List.setIfInBounds_toArray, List.set_cons_zero, List.set_cons_succ]
                          refine wpAnyH_ready (rs := [33]) (by kernel_rfl) (by simp) ?_
                          refine AllReadyH.cons (o := _) (by simp only [List.getElem?_toArray, List.getElem?_cons_succ, List.getElem?_cons_zero]; rfl) (fun K hK => ?_) ?_
                          · go_simp
                            go_at_call 47
                            refine (readU g bb c q4 bs _ u.ns _ F4.out.dec.rt.rd m5 hl A4.out).mono ?_
                            rintro e w6 ⟨rfl, r6, k6⟩
                            rw [← E5.out] at r6
                            have F5 := Lib.hid (F4.out.move k6 r6 i5)
                            clear F4 x0 y2
                            have x0 := F5.out.x0
                            have y2 := F5.out.y2
                            go_simp
                            refine hK.out _ _ x0 (fun hHeld => ?_)
                            clear hK K
                            try simp only [Act.put, List.setIfInBounds_toArray, List.set_cons_zero, List.set_cons_succ]
                            refine wpAnyH_take (i := 34) (oi := _) (v := ?zv55) (by simp only [List.getElem?_toArray, List.getElem?_cons_succ, List.getElem?_cons_zero]; rfl) (by kernel_rfl) (by kernel_rfl) (by kernel_rfl) (fun _ _ _ h => h) (Or.inl ⟨by rfl, ?zy55⟩) (by assumption) ?zr55
                            case zy55 => (intro wz hSw; (try dsimp only at hSw); go_simp <;> with_reducible rfl)
                            try simp only [Act.put, List.setIfInBounds_toArray, List.set_cons_zero, List.set_cons_succ]
                            refine wpAnyH_take (i := 35) (oi := _) (v := ?zv56) (by simp only [List.getElem?_toArray, List.getElem?_cons_succ, List.getElem?_cons_zero]; rfl) (by kernel_rfl) (by kernel_rfl) (by kernel_rfl) (fun _ _ _ h => h) (Or.inl ⟨by rfl, ?zy56⟩) (by assumption) ?zr56
                            case zy56 => (intro wz hSw; (try dsimp only at hSw); go_simp <;> with_reducible rfl)
                            try simp only [Act.put, List.setIfInBounds_toArray, List.set_cons_zero, List.set_cons_succ]
                            refine wpAnyH_ready (rs := [36]) (by kernel_rfl) (by simp) ?_
                            refine AllReadyH.cons (o := _) (by simp only [List.getElem?_toArray, List.getElem?_cons_succ, List.getElem?_cons_zero]; rfl) (fun K hK => ?_) ?_
                            · go_simp
                              refine hK.out _ _ (((Keep.refl Non _).alloc _).cell x0 (fun h => h)) (fun hHeld => ?_)
                              clear hK K
                              try simp only [Act.put, List.setIfInBounds_toArray, List.set_cons_zero, List.set_cons_succ]
                              refine wpAnyH_ready (rs := [37]) (by kernel_rfl) (by simp) ?_
                              refine AllReadyH.cons (o := _) (by simp only [List.getElem?_toArray, List.getElem?_cons_succ, List.getElem?_cons_zero]; rfl) (fun K hK => ?_) ?_
                              · refine step_app (n := j) (xs := (d.units.take j).flatMap Ut.cells6) (m := 1) (news := u.cells6) sliceCU rfl _ _ rfl rfl (Row.alloc F5.out.row _) rfl (Reads.sixAt (by simp)) (by decide) (ut6_one u) hw3 hw4 ?_
                                intro v' w7 r7 g7
                                clear x0 y2
                                obtain ⟨F6, x0, y2, f2⟩ := F5.out.app g7
                                clear F5
                                obtain ⟨vb, vd, rfl⟩ := r7.reads.slice
                                refine hK.out _ _ x0 (fun hHeld => ?_)
                                clear hK K
                                try simp only [Act.put, List.setIfInBounds_toArray, List.set_cons_zero, List.set_cons_succ]
                                refine wpAnyH_take (i := 38) (oi := _) (v := ?zv57) (by simp only [List.getElem?_toArray, List.getElem?_cons_succ, List.getElem?_cons_zero]; rfl) (by kernel_rfl) (by kernel_rfl) (by kernel_rfl) (fun _ _ _ h => h) (Or.inl ⟨by rfl, ?zy57⟩) (by assumption) ?zr57
                                case zy57 => (intro wz hSw; (try dsimp only at hSw); go_simp <;> with_reducible rfl)
                                try simp only [Act.put, List.setIfInBounds_toArray, List.set_cons_zero, List.set_cons_succ]
                                refine wpAnyH_take (i := 39) (oi := _) (v := ?zv58) (by simp only [List.getElem?_toArray, List.getElem?_cons_succ, List.getElem?_cons_zero]; rfl) (by kernel_rfl) (by kernel_rfl) (by kernel_rfl) (fun _ _ _ h => h) (Or.inl ⟨by rfl, ?zy58⟩) (by assumption) ?zr58
                                case zy58 => (intro wz hSw; (try dsimp only at hSw); go_simp <;> with_reducible rfl)
                                try simp only [Act.put, List.setIfInBounds_toArray, List.set_cons_zero, List.set_cons_succ]
                                refine wpAnyH_ready (rs := [40]) (by kernel_rfl) (by simp) ?_
                                refine AllReadyH.cons (o := _) (by simp only [List.getElem?_toArray, List.getElem?_cons_succ, List.getElem?_cons_zero]; rfl) (fun K hK => ?_) ?_
                                · go_simp
                                  refine hK.out _ _ ((Keep.one w7 gf 2 _).cell x0 (fun e => HGF.out e)) (fun hHeld => ?_)
                                  clear hK K
                                  try simp only [Act.put, List.setIfInBounds_toArray, List.set_cons_zero, List.set_cons_succ]
                                  refine wpAnyH_done (by kernel_rfl) ?_ _
                                  refine NoPanic.normal ?_
                                  go_wp2_with fail
                                  go_roundw
                                  case measure => simp [intOf]; omega
                                  case rel => exact ⟨j + 1, _, q5, by omega, by go_num, F6.out.setUnits g7 (by rw [HSN.out]; exact r7), by rw [A5.out, HREST.out]⟩
                                · exact AllReadyH.nil
                              · exact AllReadyH.nil
                            · exact AllReadyH.nil
                          · exact AllReadyH.nil
                        · refine AllReadyH.cons (o := _) (by simp only [List.getElem?_toArray, List.getElem?_cons_succ, List.getElem?_cons_zero]; rfl) (fun K hK => ?_) ?_
                          · go_simp
                            go_at_call 47
                            refine (readU g bb c q4 bs _ u.ns _ F4.out.dec.rt.rd m5 hl A4.out).mono ?_
                            rintro e w6 ⟨rfl, r6, k6⟩
                            rw [← E5.out] at r6
                            have F5 := Lib.hid (F4.out.move k6 r6 i5)
                            clear F4 x0 y2
                            have x0 := F5.out.x0
                            have y2 := F5.out.y2
                            go_simp
                            refine hK.out _ _ x0 (fun hHeld => ?_)
                            clear hK K
                            try simp only [Act.put, List.setIfInBounds_toArray, List.set_cons_zero, List.set_cons_succ]
                            refine wpAnyH_take (i := 34) (oi := _) (v := ?zv59) (by simp only [List.getElem?_toArray, List.getElem?_cons_succ, List.getElem?_cons_zero]; rfl) (by kernel_rfl) (by kernel_rfl) (by kernel_rfl) (fun _ _ _ h => h) (Or.inl ⟨by rfl, ?zy59⟩) (by assumption) ?zr59
                            case zy59 => (intro wz hSw; (try dsimp only at hSw); go_simp <;> with_reducible rfl)
                            try simp only [Act.put, List.setIfInBounds_toArray, List.set_cons_zero, List.set_cons_succ]
                            refine wpAnyH_take (i := 35) (oi := _) (v := ?zv60) (by simp only [List.getElem?_toArray, List.getElem?_cons_succ, List.getElem?_cons_zero]; rfl) (by kernel_rfl) (by kernel_rfl) (by kernel_rfl) (fun _ _ _ h => h) (Or.inl ⟨by rfl, ?zy60⟩) (by assumption) ?zr60
                            case zy60 => (intro wz hSw; (try dsimp only at hSw); go_simp <;> with_reducible rfl)
                            try simp only [Act.put, List.setIfInBounds_toArray, List.set_cons_zero, List.set_cons_succ]
                            refine wpAnyH_ready (rs := [4, 36]) (by kernel_rfl) (by simp) ?_
                            refine AllReadyH.cons (o := _) (by simp only [List.getElem?_toArray, List.getElem?_cons_succ, List.getElem?_cons_zero]; rfl) (fun K hK => ?_) ?_
                            · go_simp
                              refine hK.out _ _ x0 (fun hHeld => ?_)
                              clear hK K
                              try simp only [Act.put, List.setIfInBounds_toArray, List.set_cons_zero, List.set_cons_succ]
                              refine wpAnyH_ready (rs := [36]) (by kernel_rfl) (by simp) ?_
                              refine AllReadyH.cons (o := _) (by simp only [List.getElem?_toArray, List.getElem?_cons_succ, List.getElem?_cons_zero]; rfl) (fun K hK => ?_) ?_
                              · go_simp
                                refine hK.out _ _ (((Keep.refl Non _).alloc _).cell x0 (fun h => h)) (fun hHeld => ?_)
                                clear hK K
                                try simp only [Act.put, List.setIfInBounds_toArray, List.set_cons_zero, List.set_cons_succ]
                                refine wpAnyH_ready (rs := [37]) (by kernel_rfl) (by simp) ?_
                                refine AllReadyH.cons (o := _) (by simp only [List.getElem?_toArray, List.getElem?_cons_succ, List.getElem?_cons_zero]; rfl) (fun K hK => ?_) ?_
                                · refine step_app (n := j) (xs := (d.units.take j).flatMap Ut.cells6) (m := 1) (news := u.cells6) sliceCU rfl _ _ rfl rfl (Row.alloc F5.out.row _) rfl (Reads.sixAt (by simp)) (by decide) (ut6_one u) hw3 hw4 ?_
                                  intro v' w7 r7 g7
                                  clear x0 y2
                                  obtain ⟨F6, x0, y2, f2⟩ := F5.out.app g7
                                  clear F5
                                  obtain ⟨vb, vd, rfl⟩ := r7.reads.slice
                                  refine hK.out _ _ x0 (fun hHeld => ?_)
                                  clear hK K
                                  try simp only [Act.put, List.setIfInBounds_toArray, List.set_cons_zero, List.set_cons_succ]
                                  refine wpAnyH_take (i := 38) (oi := _) (v := ?zv61) (by simp only [List.getElem?_toArray, List.getElem?_cons_succ, List.getElem?_cons_zero]; rfl) (by kernel_rfl) (by kernel_rfl) (by kernel_rfl) (fun _ _ _ h => h) (Or.inl ⟨by rfl, ?zy61⟩) (by assumption) ?zr61
                                  case zy61 => (intro wz hSw; (try dsimp only at hSw); go_simp <;> with_reducible rfl)
                                  try simp only [Act.put, List.setIfInBounds_toArray, List.set_cons_zero, List.set_cons_succ]
                                  refine wpAnyH_take (i := 39) (oi := _) (v := ?zv62) (by simp only [List.getElem?_toArray, List.getElem?_cons_succ, List.getElem?_cons_zero]; rfl) (by kernel_rfl) (by kernel_rfl) (by kernel_rfl) (fun _ _ _ h => h) (Or.inl ⟨by rfl, ?zy62⟩) (by assumption) ?zr62
                                  case zy62 => (intro wz hSw; (try dsimp only at hSw); go_simp <;> with_reducible rfl)
                                  try simp only [Act.put, List.setIfInBounds_toArray, List.set_cons_zero, List.set_cons_succ]
                                  refine wpAnyH_ready (rs := [40]) (by kernel_rfl) (by simp) ?_
                                  refine AllReadyH.cons (o := _) (by simp only [List.getElem?_toArray, List.getElem?_cons_succ, List.getElem?_cons_zero]; rfl) (fun K hK => ?_) ?_
                                  · go_simp
                                    refine hK.out _ _ ((Keep.one w7 gf 2 _).cell x0 (fun e => HGF.out e)) (fun hHeld => ?_)
                                    clear hK K
                                    try simp only [Act.put, List.setIfInBounds_toArray, List.set_cons_zero, List.set_cons_succ]
                                    refine wpAnyH_done (by kernel_rfl) ?_ _
                                    refine NoPanic.normal ?_
                                    go_wp2_with fail
                                    go_roundw
                                    case measure => simp [intOf]; omega
                                    case rel => exact ⟨j + 1, _, q5, by omega, by go_num, F6.out.setUnits g7 (by rw [HSN.out]; exact r7), by rw [A5.out, HREST.out]⟩
                                  · exact AllReadyH.nil
                                · exact AllReadyH.nil
                              · exact AllReadyH.nil
                            · refine AllReadyH.cons (o := _) (by simp only [List.getElem?_toArray, List.getElem?_cons_succ, List.getElem?_cons_zero]; rfl) (fun K hK => ?_) ?_
                              · have y2a := (F5.out.far ((Keep.refl Non w6).alloc (.cells #[.int .u32 u.sl, .int .u32 u.sc, .int .u32 u.el, .int .u32 u.ec, .int .u32 u.ns, .int .u32 0] 61))).y2
                                go_simp
                                refine hK.out _ _ (((Keep.refl Non _).alloc _).cell x0 (fun h => h)) (fun hHeld => ?_)
                                clear hK K
                                try simp only [Act.put, List.setIfInBounds_toArray, List.set_cons_zero, List.set_cons_succ]
                                refine wpAnyH_ready (rs := [4]) (by kernel_rfl) (by simp) ?_
                                refine AllReadyH.cons (o := _) (by simp only [List.getElem?_toArray, List.getElem?_cons_succ, List.getElem?_cons_zero]; rfl) (fun K hK => ?_) ?_
                                · go_simp
                                  refine hK.out _ _ (((Keep.refl Non _).alloc _).cell x0 (fun h => h)) (fun hHeld => ?_)
                                  clear hK K
                                  try simp only [Act.put, List.setIfInBounds_toArray, List.set_cons_zero, List.set_cons_succ]
                                  clear y2a
                                  refine wpAnyH_ready (rs := [37]) (by kernel_rfl) (by simp) ?_
                                  refine AllReadyH.cons (o := _) (by simp only [List.getElem?_toArray, List.getElem?_cons_succ, List.getElem?_cons_zero]; rfl) (fun K hK => ?_) ?_
                                  · refine step_app (n := j) (xs := (d.units.take j).flatMap Ut.cells6) (m := 1) (news := u.cells6) sliceCU rfl _ _ rfl rfl (Row.alloc F5.out.row _) rfl (Reads.sixAt (by simp)) (by decide) (ut6_one u) hw3 hw4 ?_
                                    intro v' w7 r7 g7
                                    clear x0 y2
                                    obtain ⟨F6, x0, y2, f2⟩ := F5.out.app g7
                                    clear F5
                                    obtain ⟨vb, vd, rfl⟩ := r7.reads.slice
                                    refine hK.out _ _ x0 (fun hHeld => ?_)
                                    clear hK K
                                    try simp only [Act.put, List.setIfInBounds_toArray, List.set_cons_zero, List.set_cons_succ]
                                    refine wpAnyH_take (i := 38) (oi := _) (v := ?zv63) (by simp only [List.getElem?_toArray, List.getElem?_cons_succ, List.getElem?_cons_zero]; rfl) (by kernel_rfl) (by kernel_rfl) (by kernel_rfl) (fun _ _ _ h => h) (Or.inl ⟨by rfl, ?zy63⟩) (by assumption) ?zr63
                                    case zy63 => (intro wz hSw; (try dsimp only at hSw); go_simp <;> with_reducible rfl)
                                    try simp only [Act.put, List.setIfInBounds_toArray, List.set_cons_zero, List.set_cons_succ]
                                    refine wpAnyH_take (i := 39) (oi := _) (v := ?zv64) (by simp only [List.getElem?_toArray, List.getElem?_cons_succ, List.getElem?_cons_zero]; rfl) (by kernel_rfl) (by kernel_rfl) (by kernel_rfl) (fun _ _ _ h => h) (Or.inl ⟨by rfl, ?zy64⟩) (by assumption) ?zr64
                                    case zy64 => (intro wz hSw; (try dsimp only at hSw); go_simp <;> with_reducible rfl)
                                    try simp only [Act.put, List.setIfInBounds_toArray, List.set_cons_zero, List.set_cons_succ]
                                    refine wpAnyH_ready (rs := [40]) (by kernel_rfl) (by simp) ?_
                                    refine AllReadyH.cons (o := _) (by simp only [List.getElem?_toArray, List.getElem?_cons_succ, List.getElem?_cons_zero]; rfl) (fun K hK => ?_) ?_
                                    · go_simp
                                      refine hK.out _ _ ((Keep.one w7 gf 2 _).cell x0 (fun e => HGF.out e)) (fun hHeld => ?_)
                                      clear hK K
                                      try simp only [Act.put, List.setIfInBounds_toArray, List.set_cons_zero, List.set_cons_succ]
                                      refine wpAnyH_done (by kernel_rfl) ?_ _
                                      refine NoPanic.normal ?_
                                      go_wp2_with fail
                                      go_roundw
                                      case measure => simp [intOf]; omega
                                      case rel => exact ⟨j + 1, _, q5, by omega, by go_num, F6.out.setUnits g7 (by rw [HSN.out]; exact r7), by rw [A5.out, HREST.out]⟩
                                    · exact AllReadyH.nil
                                  · exact AllReadyH.nil
                                · exact AllReadyH.nil
                              · exact AllReadyH.nil
                          · exact AllReadyH.nil
                      · exact AllReadyH.nil
                  · exact AllReadyH.nil
              · exact AllReadyH.nil
          · exact AllReadyH.nil
        -- END GEN
      · obtain rfl : j = n := by omega
        have hI' : Hid (FI w wr gD gt g bb c q bs v all len P N M nn gf d false uv d.units.length) := Lib.hid (by rw [← HNL.out]; exact hI)
        have hzd : d.units.drop j = [] := List.drop_of_length_le (by rw [← HNL.out]; exact Nat.le_refl _)
        rw [hzd] at hdq
        have hdq0 : bs.drop q = uleb (litN d.lit) ++ r := hdq
        have HDQ := Lib.hid hdq0
        have i5 := drop_in hdq0 (List.length_pos_iff.2 (uleb_ne _))
        have hx : litN d.lit < M64 := by have := litN_lt d.lit; unfold M64; omega
        have x0 := hI.x0
        have hlt' : ¬ ((j : Int) < (j : Int)) := by omega
        clear hI hdq hdq0 hzd
        go_wp2_with (go_at_call 47; go_must (refine (readU g bb c q bs _ (litN d.lit) _ hI'.out.dec.rt.rd hx hl HDQ.out).mono ?_); rintro e w6 ⟨rfl, r6, k6⟩; have F5 := Lib.hid (hI'.out.move k6 r6 i5); have y3 : w6.cell? ⟨gf, 3, none⟩ = some (.bool false) := (by rw [F5.out.blk.cell]; rfl); have f3 := F5.out.blk.free 3)
        go_ret
        have hb : (((litN d.lit : Nat) : Int) != 0) = d.lit := by cases d.lit <;> rfl
        refine ⟨rfl, q + (uleb (litN d.lit)).length, uv, ?_⟩
        have := F5.out.setLit d.lit
        rw [show d.units.length = j from HNL.out.symm] at this ⊢
        rw [hb]
        exact this
end Go.Proofs.YtbmidlaakbpnlaaDoor
