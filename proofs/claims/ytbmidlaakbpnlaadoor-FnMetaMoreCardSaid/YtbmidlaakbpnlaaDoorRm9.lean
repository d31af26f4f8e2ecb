/-
  THE CONTRACT of impl.ReadMeta.
-/
import Derived.Test.YtbmidlaakbpnlaaDoorRm7
import Derived.Test.YtbmidlaakbpnlaaDoorRm8
namespace Go.Proofs.YtbmidlaakbpnlaaDoor
open Go.RowKit
open Go.ChangeShapes Go.WideShapes Go.ChangeAt Go.Deep
open Plain (M64)

theorem sliceIU : SliceT Tryd.prog 38 49 (.agg #[.int .u32 0, .int .u32 0, .int .u32 0, .int .u32 0, .int .u32 0]) 5 20 := ⟨Tryd.underlying38, by kernel_rfl, rfl, by decide⟩
theorem sliceID : SliceT Tryd.prog 22 40 (.agg #[.string ⟨#[]⟩, .string ⟨#[]⟩, .slice none 0 0, .bool false]) 4 64 := ⟨Tryd.underlying22, by kernel_rfl, rfl, by decide⟩
/-- On the way: how much has been read. -/
structure RI (w wr : World) (gD gt g bb c q : Nat) (bs : List UInt8) (v : Value) (all : List ByteArray) (len P N M nn g2 g6 : Nat) (p : Pkg) (k : Nat) (fv : Value) (L : List (Dsc × Value)) : Prop where
  dec : Dec wr gD gt g bb c q bs v all len P N M nn
  out : Blk wr g6 [.string p.path, .string p.name, .string p.mod, fv] 24
  res : Blk wr g2 [.string ⟨#[]⟩, .string ⟨#[]⟩, .string ⟨#[]⟩, .slice none 0 0] 24
  row : Row wr 40 4 fv L.length (L.flatMap dl4)
  same : L.map (·.1) = (p.ds.take k).map (·.1)
  rows : ∀ x ∈ L, Row wr 49 5 x.2 x.1.units.length (x.1.units.flatMap Ut.cells)
  keep : Keep Non w wr
  l2 : w.heap.size ≤ g2
  l6 : w.heap.size ≤ g6
  lf : ∀ b, fv.ownBlock = some b → w.heap.size ≤ b
  lu : ∀ x ∈ L, ∀ b, x.2.ownBlock = some b → w.heap.size ≤ b
  lg : w.heap.size ≤ g
  nb : fv.ownBlock ≠ some bb
  n6 : bb ≠ g6
section
variable {w wr w' : World} {gD gt g bb c q q' : Nat} {bs : List UInt8} {v : Value} {all : List ByteArray} {len P N M nn g2 g6 k : Nat} {p : Pkg} {fv : Value} {L : List (Dsc × Value)}
/-- A reader went on, and there is more. -/
theorem RI.step (h : RI w wr gD gt g bb c q bs v all len P N M nn g2 g6 p k fv L) {S : Nat → Prop} (kk : Keep S wr w') (hs : ∀ i, S i → i = g ∨ wr.heap.size ≤ i) (d : Dec w' gD gt g bb c q' bs v all len P N M nn) : RI w w' gD gt g bb c q' bs v all len P N M nn g2 g6 p k fv L := by
  have hr := h.dec.rt.rd.blk
  have hlt : ∀ i, i < wr.heap.size → i ≠ g → ¬ S i := fun i hi hn e => by rcases hs i e with e | e <;> omega
  have hn : ∀ {b : Nat} {T : TypeId}, Kd wr b = some T → T ≠ 140 → b ≠ g := fun hk hT e => kd_false (by rw [← e]; exact hk) hr.kd (fun e' => hT (Option.some.inj e'))
  exact ⟨d, h.out.keep kk (hlt _ h.out.lt (hn h.out.kd (by decide))), h.res.keep kk (hlt _ h.res.lt (hn h.res.kd (by decide))), h.row.keep kk (fun b hb => hlt _ (h.row.lt hb) (hn (h.row.kd hb) (by decide))), h.same, fun x hx => (h.rows x hx).keep kk (fun b hb => hlt _ ((h.rows x hx).lt hb) (hn ((h.rows x hx).kd hb) (by decide))), h.keep.trans kk (fun i hi e => by have := h.keep.size; have := h.lg; rcases hs i e with e | e <;> omega), h.l2, h.l6, h.lf, h.lu, h.lg, h.nb, h.n6⟩
theorem Dec.later (h : Dec wr gD gt g bb c q bs v all len P N M nn) {S : Nat → Prop} (kk : Keep S wr w') (hs : ∀ i, S i → wr.heap.size ≤ i) : Dec w' gD gt g bb c q bs v all len P N M nn := by
  obtain ⟨ds, hd, hc⟩ := h.blk
  have hlt : ∀ i, i < wr.heap.size → ¬ S i := fun i hi e => by have := hs i e; omega
  exact h.keep kk (hlt _ hd.lt) (hlt _ h.rt.blk.lt) (hlt _ h.rt.rd.blk.lt) (hlt _ h.rt.lt) (fun b hb => hlt _ (h.rt.row.lt hb))
theorem RI.far (h : RI w wr gD gt g bb c q bs v all len P N M nn g2 g6 p k fv L) {S : Nat → Prop} (kk : Keep S wr w') (hs : ∀ i, S i → wr.heap.size ≤ i) : RI w w' gD gt g bb c q bs v all len P N M nn g2 g6 p k fv L := h.step kk (fun i e => .inr (hs i e)) (h.dec.later kk hs)
theorem RI.size (h : RI w wr gD gt g bb c q bs v all len P N M nn g2 g6 p k fv L) (hk : k ≤ p.ds.length) : L.length = k := by
  have := congrArg List.length h.same
  simp at this
  omega
end
/-- Behind impl.ReadMeta. -/
def ReadPost (w : World) (p : Pkg) (e : Ending) (w' : World) : Prop :=
  ∃ fv L, e = .returned (.tuple #[.agg #[.string p.path, .string p.name, .string p.mod, fv], .bool true]) ∧ DescR w' fv L ∧ L.map (·.1) = p.ds.map (·.1) ∧ Keep Non w w' ∧ Row w' 40 4 fv L.length (L.flatMap dl4)
theorem read_results (g : Nat) (a b c d y : Value) {fn : Func} {t u : Tmp} (h : fn.results = #[.cell t 24, .tmp u]) {tmps : Array Value} {W : World} (hb : Blk W g [a, b, c, d] 24) (ht : tmps[t]?.getD undef = .pointer (some ⟨g, 0, none⟩)) (hu : tmps[u]?.getD undef = y) :
    (results fn tmps).run Tryd.prog W = .ok (.tuple #[.agg #[a, b, c, d], y]) W := by
  have hl := run_loadVar_mid (P := Tryd.prog) W g 0 24 [a, b, c, d] _ hb.rng Tryd.underlying24 rfl (by kernel_rfl)
  simp [results, h, ht, hu, hl, asAddr]
set_option maxRecDepth 100000 in
set_option maxHeartbeats 8000000 in
theorem readMeta (p : Pkg) (sv : Value) (w : World) (hg : p.good) (hw : p.wide) (hs : Reads w 1 sv (mtotal (p.ms p.ds.length)) (B (mbytes (p.ms p.ds.length) (mtotal (p.ms p.ds.length)) p.P p.N p.M))) : Calls Tryd.prog 9 #[sv] w (ReadPost w p) := by
  have hdb := meta_dbs p hg hw
  have hfn := fun k (h : k < p.ds.length) => meta_fn p hg hw h
  obtain ⟨hd1, hd2, hd3⟩ := ms_heads p (Nat.le_refl _)
  have hlen := mbytes_length (p.ms p.ds.length) (mtotal (p.ms p.ds.length)) p.P p.N p.M
  have hdl : p.ds.length ≤ 8 := hg.2.2.2.1
  obtain ⟨bs, hbs⟩ : ∃ bs, bs = mbytes (p.ms p.ds.length) (mtotal (p.ms p.ds.length)) p.P p.N p.M := ⟨_, rfl⟩
  rw [← hbs] at hdb hs hlen
  have hfn' : ∀ k (h : k < p.ds.length), ∃ o ni fi r, (bs.drop (44 + 4 * k)).take 4 = leB 4 o ∧ bs.drop o = uleb p.ds[k].1.units.length ++ (uleb ni ++ (uleb fi ++ (p.ds[k].1.units.flatMap Ut.ulebs ++ (uleb (litN p.ds[k].1.lit) ++ r)))) ∧
    44 + 4 * k ≤ o ∧ o ≤ mtotal (p.ms p.ds.length) ∧ (p.ms p.ds.length).all[ni]? = some p.ds[k].1.name ∧ (p.ms p.ds.length).all[fi]? = some p.ds[k].1.file := by rw [hbs]; exact hfn
  clear hfn hbs
  obtain ⟨T, hT⟩ : ∃ T, T = mtotal (p.ms p.ds.length) := ⟨_, rfl⟩
  rw [← hT] at hdb hs hlen hfn'
  generalize (p.ms p.ds.length).all = all at *
  clear hT
  obtain rfl : bs.length = T := hlen
  have hfit : ∀ x ∈ p.ds, ∀ u ∈ x.1.units, u.fit := fun x hx => (hw.2.2.2.2 x hx).1
  have hun : ∀ x ∈ p.ds, x.1.units.length ≤ 8 := fun x hx => (hg.2.2.2.2 x hx).2.2
  have hb44 := hdb.at44
  have hbl := hdb.hl
  have hal := hdb.all_le
  have hl2 := hdb.l2
  have hl3 := hdb.l3
  have hl4 := hdb.l4
  have hl1 := hdb.l1
  obtain ⟨sa, sc, rfl⟩ := hs.slice
  generalize p.P = PP at *
  generalize p.N = NN at *
  generalize p.M = MM at *
  have HS := Lib.hid hs
  have HDB := Lib.hid hdb
  have HFN := Lib.hid hfn'
  have HFIT := Lib.hid hfit
  have HUN := Lib.hid hun
  have HD1 := Lib.hid hd1
  have HD2 := Lib.hid hd2
  have HD3 := Lib.hid hd3
  clear hs hdb hfn' hfit hun hd1 hd2 hd3 hg hw
  obtain ⟨W1, hW1⟩ : ∃ W1, W1 = (w.alloc (.cells #[.string ⟨#[]⟩, .string ⟨#[]⟩, .string ⟨#[]⟩, .slice none 0 0] 24)) := ⟨_, rfl⟩
  have hb1 : Blk W1 w.heap.size [.string ⟨#[]⟩, .string ⟨#[]⟩, .string ⟨#[]⟩, .slice none 0 0] 24 := by rw [hW1]; exact Blk.new w [.string ⟨#[]⟩, .string ⟨#[]⟩, .string ⟨#[]⟩, .slice none 0 0] _
  have hk1 : Keep Non w W1 := by rw [hW1]; exact (Keep.refl _ _).alloc _
  have hz1 : W1.heap.size = w.heap.size + 1 := by rw [hW1]; simp
  have HB1 := Lib.hid hb1
  have HK1 := Lib.hid hk1
  have HS1 := Lib.hid (HS.out.keep hk1 (fun _ _ h => h))
  have R0 : Row (W1.alloc (.cells #[] 5)) 5 1 (.slice (some ⟨W1.heap.size, 0, none⟩) 0 0) 0 (B []) := Row.lit W1 5 1 [] 0 (by decide) rfl
  have HR0 := Lib.hid R0
  have HZ1 := Lib.hid hz1
  clear hb1 hk1 R0 hz1
  go_enter Tryd.func9, Tryd.ntmps9
  go_upto_region 1 with (fail)
  rw [← hW1]
  clear hW1
  go_wp2_with (at_builtin; go_must (refine wpList_app (n := 0) (xs := B []) (m := bs.length) sliceBytes rfl _ _ rfl rfl HR0.out rfl (HS1.out.alloc _) (B_one _) (by unfold maxLen; omega) (by omega) ?_); intro v1 w1 r1 g1 n1; rw [Nat.zero_add] at r1; obtain ⟨b1, c1, rfl⟩ := r1.at (by omega))
  have hcap : bs.length ≤ c1 := by
    obtain ⟨cur, hcb, hcl, hct, hnc, hcm⟩ := r1.whole
    exact hnc
  have hK1 : Hid (Keep Non w w1) := Lib.hid (((HK1.out.alloc _).trans g1.keep (fun i hi e => by have := HZ1.out; simp [Own, Value.ownBlock, Act.eval] at e; omega)))
  have R1 := Lib.hid r1.reads
  have HB1' := Lib.hid ((HB1.out.alloc (.cells #[] 5)).keep g1.keep (fun e => by have := HZ1.out; simp [Own, Value.ownBlock, Act.eval] at e; omega))
  clear r1 g1 n1 HR0 HS1
  go_wp2_with (go_at_call 18; go_must (refine (newDec b1 c1 bs all bs.length PP NN MM p.ds.length w1 R1.out hcap HDB.out).mono ?_); rintro e w2 ⟨gD, gt, g, q, v, rfl, k2, d2, hg2⟩)
  have D2 := Lib.hid d2
  have HG2 : Hid (w.heap.size ≤ g) := Lib.hid (by have := hK1.out.size; omega)
  have K2 := Lib.hid (hK1.out.trans' k2)
  have B2 := Lib.hid (HB1'.out.keep k2 (fun h => h))
  clear d2 k2 hg2 R1 hK1 HB1' HK1 HB1
  obtain ⟨g2, hg2⟩ : ∃ g2, g2 = w.heap.size := ⟨_, rfl⟩
  rw [← hg2] at B2 ⊢
  have HG2' := Lib.hid hg2
  clear hg2
  go_wp2_with (first
    | (go_at_call 19; go_must (refine (decPath gD gt g b1 c1 q bs v all bs.length PP NN MM p.ds.length p.path _ D2.out hal hl2 HD1.out).mono ?_); rintro e w3 ⟨rfl, m3, rfl⟩)
    | (go_at_call 20; go_must (refine (decName gD gt g b1 c1 q bs v all bs.length PP NN MM p.ds.length p.name _ (D2.out.far ((Keep.refl Non _).drewN _)) hal hl3 HD2.out).mono ?_); rintro e w4 ⟨rfl, m4, rfl⟩)
    | (go_at_call 21; go_must (refine (decMod gD gt g b1 c1 q bs v all bs.length PP NN MM p.ds.length p.mod _ (D2.out.far ((Keep.refl Non _).drewN _)) hal hl4 HD3.out).mono ?_); rintro e w5 ⟨rfl, m5, hw5⟩; have k5 : Hid (Keep Non w2 w5) := Lib.hid (by rw [hw5]; exact ((Keep.refl Non _).drewN _).drewN _); have DM : Hid (Dec (w5.alloc (.cells #[.string p.path, .string p.name, .string p.mod, .slice none 0 0] 24)) gD gt g b1 c1 q bs v all bs.length PP NN MM p.ds.length) := Lib.hid (D2.out.far (k5.out.alloc _)); clear hw5)
    | (go_at_call 22; go_must (refine (decNum gD gt g b1 c1 q bs v all bs.length PP NN MM p.ds.length _ DM.out).mono ?_); rintro e w6 ⟨rfl, rfl⟩))
  obtain ⟨W6, hW6⟩ : ∃ W, W = w5.alloc (.cells #[.string p.path, .string p.name, .string p.mod, .slice none 0 0] 24) := ⟨_, rfl⟩
  have hI : RI w W6 gD gt g b1 c1 q bs v all bs.length PP NN MM p.ds.length g2 w5.heap.size p 0 (.slice none 0 0) [] := by
    have hz := (K2.out.trans' k5.out).size
    rw [hW6]
    exact ⟨DM.out, Blk.new w5 [.string p.path, .string p.name, .string p.mod, .slice none 0 0] _, (B2.out.keep k5.out (fun h => h)).alloc _, Row.nil _ _ _, by simp, by simp, (K2.out.trans' k5.out).alloc _, by have := HG2'.out; omega, hz, fun b hb => by simp [Value.ownBlock] at hb, by simp, HG2.out, by simp [Value.ownBlock], by have := D2.out.rt.lt; have := k5.out.size; omega⟩
  have HG26 : Hid (g2 ≠ w5.heap.size) := Lib.hid (fun e => by have := B2.out.lt; have := k5.out.size; omega)
  rw [← hW6]
  generalize w5.heap.size = g6 at *
  have HI := Lib.hid hI
  have hn32 := hal
  clear hI hW6 DM D2 B2 K2 k5
  go_loopw [31] (fun i wr => ∃ (k : Nat) (fv' : Value) (L : List (Dsc × Value)) (q' : Nat), k ≤ p.ds.length ∧ i = .int .u32 k ∧ RI w wr gD gt g b1 c1 q' bs v all bs.length PP NN MM p.ds.length g2 g6 p k fv' L) (fun i _ => p.ds.length - (intOf i).toNat)
  case atStart => exact ⟨0, _, [], _, by omega, rfl, HI.out⟩
  case round =>
    obtain ⟨k, fv', L, q', hk, rfl, hI⟩ := hrel
    obtain ⟨W0, rfl⟩ : ∃ W0, W0 = wr := ⟨_, rfl⟩
    by_cases hlt : k < p.ds.length
    · obtain ⟨o, ni, fi, r, z1, z2, z3, z4, z5, z6⟩ := HFN.out k hlt
      have hfit := HFIT.out _ (List.getElem_mem hlt)
      have hun := HUN.out _ (List.getElem_mem hlt)
      have hsn : (p.ds.take (k + 1)).map (·.1) = (p.ds.take k).map (·.1) ++ [p.ds[k].1] := by rw [List.take_succ_eq_append_getElem hlt, List.map_append]; rfl
      have hls := hI.size hk
      have HLS := Lib.hid hls
      have HSN := Lib.hid hsn
      have HII := Lib.hid hI
      have Z1 := Lib.hid z1
      have Z2 := Lib.hid z2
      have Z5 := Lib.hid z5
      have Z6 := Lib.hid z6
      have HFT := Lib.hid hfit
      clear hI hsn hls z1 z2 z5 z6 hfit
      generalize p.ds[k].1 = d at *
      obtain ⟨W1, hW1⟩ : ∃ W1, W1 = W0.alloc (.cells #[.string ⟨#[]⟩, .string ⟨#[]⟩, .slice none 0 0, .bool false] 59) := ⟨_, rfl⟩
      have hk1 : Keep Non W0 W1 := by rw [hW1]; exact (Keep.refl _ _).alloc _
      have hz1 : W1.heap.size = W0.heap.size + 1 := by rw [hW1]; simp
      have hb1 : Blk W1 W0.heap.size fzero 59 := by rw [hW1]; exact Blk.new W0 fzero _
      have hbl0 := HII.out.dec.rt.lt
      have HK1 := Lib.hid hk1
      have HB1 := Lib.hid hb1
      have HZ1 := Lib.hid hz1
      have HD1' := Lib.hid (HII.out.dec.far hk1)
      clear hk1 hb1 hz1
      go_upto_region 9 with (fail)
      rw [← hW1]
      clear hW1
      obtain ⟨gf, hgf⟩ : ∃ gf, gf = W0.heap.size := ⟨_, rfl⟩
      rw [← hgf] at HB1 ⊢
      have HGF := Lib.hid hgf
      have hbf : b1 ≠ gf := by omega
      have hbw : b1 < W1.heap.size := by have := HZ1.out; omega
      have hunl : d.units.length ≤ 1000 := by omega
      clear hgf
      go_wp2_with (go_at_call 23; go_must (refine (readFunc gD gt g b1 c1 q' bs v all bs.length PP NN MM p.ds.length gf k o ni fi d r W1 HD1'.out HB1.out hbl hal hbf hbw hlt hb44 hl1 Z1.out Z2.out z3 z4 z4 Z5.out Z6.out HFT.out hunl).mono ?_); rintro e w2 ⟨rfl, q2, uv, hF⟩; obtain ⟨ua, uc, rfl⟩ := hF.row.reads.slice; have e0 : w2.cell? ⟨gf, 0, none⟩ = some (.string d.name) := (by rw [hF.blk.cell]; rfl); have e1 : w2.cell? ⟨gf, 1, none⟩ = some (.string d.file) := (by rw [hF.blk.cell]; rfl); have e2 : w2.cell? ⟨gf, 2, none⟩ = some (.slice ua d.units.length uc) := (by rw [hF.blk.cell]; rfl); have e3 : w2.cell? ⟨gf, 3, none⟩ = some (.bool d.lit) := (by rw [hF.blk.cell]; rfl); have e2a : (w2.alloc (.cells #[.string d.name, .string d.file, .slice none 0 0, .bool d.lit] 40)).cell? ⟨gf, 2, none⟩ = some (.slice ua d.units.length uc) := (by rw [(hF.blk.alloc _).cell]; rfl))
      obtain ⟨W3, hW3⟩ : ∃ W3, W3 = w2.alloc (.cells #[.string d.name, .string d.file, .slice none 0 0, .bool d.lit] 40) := ⟨_, rfl⟩
      have hk3 : Keep Non w2 W3 := by rw [hW3]; exact (Keep.refl _ _).alloc _
      have hd3 : Blk W3 w2.heap.size [.string d.name, .string d.file, .slice none 0 0, .bool d.lit] 40 := by rw [hW3]; exact Blk.new w2 [.string d.name, .string d.file, .slice none 0 0, .bool d.lit] _
      rw [← hW3]
      clear hW3
      have hK2 : Keep (fun i => i = g ∨ W0.heap.size ≤ i) W0 w2 := (HK1.out.mono (fun _ _ h => h.elim)).trans hF.keep (fun i hi e => by have := HGF.out; rcases e with e | e; exact .inl e; exact .inr (by omega))
      have HK3 : Hid (Keep (fun i => i = g ∨ W0.heap.size ≤ i) W0 W3) := Lib.hid (hK2.trans hk3 (fun _ _ h => h.elim))
      have HDC := Lib.hid (hF.dec.far hk3)
      have HR3 := Lib.hid (hF.row.keep hk3 (fun _ _ h => h))
      have HZ3 : Hid (W0.heap.size ≤ w2.heap.size) := Lib.hid hK2.size
      have HD3' := Lib.hid hd3
      have hun3 := hunl
      clear e0 e1 e2 e3 e2a hk3 hd3 hK2 hF HD1' HK1 HZ1 HB1 z3 z4 hbf hbw Z1 Z2 Z5 Z6
      generalize w2.heap.size = gd at *
      rw [List.take_of_length_le (Nat.le_refl _)] at HR3
      go_loopw [50] (fun i w2 => ∃ (j : Nat) (uv' : Value), j ≤ d.units.length ∧ i = .int .i64 j ∧ Blk w2 gd [.string d.name, .string d.file, uv', .bool d.lit] 40 ∧ Row w2 49 5 uv' j ((d.units.take j).flatMap Ut.cells) ∧ Keep (At gd) W3 w2 ∧ (∀ b, uv'.ownBlock = some b → W3.heap.size ≤ b)) (fun i _ => d.units.length - (intOf i).toNat)
      case atStart => exact ⟨0, _, by omega, rfl, HD3'.out, Row.nil _ _ _, Keep.refl _ _, fun b hb => by simp [Value.ownBlock] at hb⟩
      case round =>
        obtain ⟨j, uv', hj, rfl, hbd, hrow, hkk, hnew⟩ := hrel
        by_cases hjl : j < d.units.length
        · have hu2 : Reads wr 6 (.slice ua d.units.length uc) d.units.length (d.units.flatMap Ut.cells6) := HR3.out.reads.keep hkk (fun b hb e => HR3.out.neBlk HD3'.out (by decide) (by rw [hb]; exact congrArg some e))
          obtain ⟨bb, offb, cb', hvb, hcb⟩ := hu2.at (by omega) (by omega)
          cases hvb
          obtain ⟨r0, r1, r2, r3, r4, r5⟩ := six_at hcb hjl
          have hsn := cells_snoc hjl
          have HSN2 := Lib.hid hsn
          have HUT := Lib.hid (ut_one d.units[j])
          have c2 : wr.cell? ⟨gd, 2, none⟩ = some uv' := by rw [hbd.cell]; rfl
          have f2 := hbd.free 2
          have hgdl := hbd.lt
          have HBD := Lib.hid hbd
          have HROW := Lib.hid hrow
          have HKK := Lib.hid hkk
          have HNEW := Lib.hid hnew
          have hng : ∀ b, uv'.ownBlock = some b → b ≠ gd := fun b hb e => hrow.neBlk hbd (by decide) (by rw [hb, e])
          have HNG := Lib.hid hng
          clear hsn hcb hu2 hbd hrow hkk hnew hng
          have hcu : d.units[j].cells = [.int .u32 d.units[j].sl, .int .u32 d.units[j].sc, .int .u32 d.units[j].el, .int .u32 d.units[j].ec, .int .u32 d.units[j].ns] := rfl
          rw [hcu] at HSN2 HUT
          clear hcu
          generalize d.units[j] = u at *
          go_wp2_with (at_builtin; go_must (refine wpList_app (n := j) (m := 1) sliceIU rfl _ _ rfl rfl ((HROW.out.alloc _).alloc _) rfl (Reads.fiveAt (by simp)) HUT.out (by unfold maxLen; omega) (by omega) ?_); intro v1 w1 r1 g1 n1; have hb1 := ((HBD.out.alloc _).alloc _).keep g1.keep (fun e => HNG.out _ e rfl); have c3 : w1.cell? ⟨gd, 2, none⟩ = some uv' := (by rw [hb1.cell]; rfl); have f3 := hb1.free 2; have hl3' := hb1.lt; obtain ⟨va, vc, rfl⟩ := r1.reads.slice)
          go_roundw
          case measure => simp [intOf]; omega
          case rel =>
            have hz := HKK.out.size
            have hb2 := hb1.set 2 (.slice va (j + 1) vc)
            refine ⟨j + 1, _, by omega, by go_num, hb2, ?_, ?_, fun b hb => ?_⟩
            · rw [HSN2.out]
              refine r1.keep (Keep.one w1 gd 2 _) (fun b hb e => ?_)
              have e : b = gd := e
              exact r1.neBlk hb1 (by decide) (by rw [hb, e])
            · exact (((HKK.out.alloc _).alloc _).trans g1.keep (fun i hi e => by have := HNEW.out i e; omega)).setAt gd 2 _ rfl
            · rcases g1.lies hb with e | e
              · exact HNEW.out b e
              · simp at e; omega
        · obtain rfl : j = d.units.length := by omega
          rw [List.take_of_length_le (Nat.le_refl _)] at hrow
          have hDw : Dec wr gD gt g b1 c1 q2 bs v all bs.length PP NN MM p.ds.length := by
            obtain ⟨ds, hds, _⟩ := HDC.out.blk
            exact HDC.out.keep hkk (fun e => hds.ne HD3'.out (by decide) e) (fun e => HDC.out.rt.blk.ne HD3'.out (by decide) e) (fun e => HDC.out.rt.rd.blk.ne HD3'.out (by decide) e) (fun e => by have e : b1 = gd := e; have := HZ3.out; omega) (fun b hb e => HDC.out.rt.row.neBlk HD3'.out (by decide) (by rw [hb]; exact congrArg some e))
          have hKT : Keep (fun i => i = g ∨ W0.heap.size ≤ i) W0 wr := HK3.out.trans hkk (fun i hi e => .inr (by have e : i = gd := e; have := HZ3.out; omega))
          have hII := HII.out.step hKT (fun i e => e) hDw
          obtain ⟨fva, fvc, rfl⟩ := hII.row.reads.slice
          obtain ⟨uva, uvc, rfl⟩ := hrow.reads.slice
          have c0 : wr.cell? ⟨gd, 0, none⟩ = some (.string d.name) := by rw [hbd.cell]; rfl
          have c1' : wr.cell? ⟨gd, 1, none⟩ = some (.string d.file) := by rw [hbd.cell]; rfl
          have c2 : wr.cell? ⟨gd, 2, none⟩ = some (.slice uva d.units.length uvc) := by rw [hbd.cell]; rfl
          have c3 : wr.cell? ⟨gd, 3, none⟩ = some (.bool d.lit) := by rw [hbd.cell]; rfl
          have e3 : wr.cell? ⟨g6, 3, none⟩ = some (.slice fva L.length fvc) := by rw [hII.out.cell]; rfl
          have HI2 := Lib.hid hII
          have HROW := Lib.hid hrow
          have HONE := Lib.hid (d_one d uva d.units.length uvc)
          have HNEW := Lib.hid hnew
          have hng : ∀ b, (Value.slice fva L.length fvc).ownBlock = some b → b ≠ g6 := fun b hb e => hII.row.neBlk hII.out (by decide) (by rw [hb, e])
          have HNG := Lib.hid hng
          have HW3 : Hid (w.heap.size ≤ W3.heap.size) := Lib.hid (by have a1 := HII.out.keep.size; have a2 := HK3.out.size; omega)
          clear hII hrow hbd hnew hng hkk hKT hDw
          go_wp2_with (at_builtin; go_must (refine wpList_app (n := L.length) (m := 1) sliceID rfl _ _ rfl rfl (HI2.out.row.alloc _) rfl (Reads.fourAt (by simp)) HONE.out (by have := HLS.out; unfold maxLen; omega) (by have := HLS.out; omega) ?_); intro v1 w1 r1 g1 n1; have hb1 := (HI2.out.out.alloc _).keep g1.keep (fun e => HNG.out _ e rfl); have e4 : w1.cell? ⟨g6, 3, none⟩ = some (.slice fva L.length fvc) := (by rw [hb1.cell]; rfl); have f3 := hb1.free 3; have hl3' := hb1.lt; obtain ⟨va, vc, rfl⟩ := r1.reads.slice)
          go_roundw
          case measure => simp [intOf]; omega
          case rel =>
            have hz := HI2.out.keep.size
            have hzr := HI2.out.row
            have k1 := Keep.one w1 g6 3 (.slice va (L.length + 1) vc)
            refine ⟨k + 1, .slice va (L.length + 1) vc, L ++ [(d, .slice uva d.units.length uvc)], q2, by omega, by go_num, ?_, ?_, ?_, ?_, ?_, ?_, ?_, HI2.out.l2, HI2.out.l6, fun b hb => ?_, ?_, HI2.out.lg, fun hb => ?_, HI2.out.n6⟩
            · have hd := HI2.out.dec
              obtain ⟨ds, hds, _⟩ := hd.blk
              have fvk : ∀ {b : Nat} {T : TypeId}, Kd wr b = some T → T ≠ 40 → ¬ Own (.slice fva L.length fvc) b := fun hk hT e => kd_false (hzr.kd e) hk (fun e' => hT (Option.some.inj e').symm)
              have d1 := (hd.far ((Keep.refl Non wr).alloc (.cells #[.string d.name, .string d.file, .slice uva d.units.length uvc, .bool d.lit] 40)))
              have d2 := d1.keep g1.keep (fvk hds.kd (by decide)) (fvk hd.rt.blk.kd (by decide)) (fvk hd.rt.rd.blk.kd (by decide)) (fun e => HI2.out.nb e) (fun b hb e => fvk (hd.rt.row.kd hb) (by decide) e)
              have ho := HI2.out.out
              exact d2.keep k1 (fun e => hds.ne ho (by decide) e) (fun e => hd.rt.blk.ne ho (by decide) e) (fun e => hd.rt.rd.blk.ne ho (by decide) e) (fun e => HI2.out.n6 e) (fun b hb e => hd.rt.row.neBlk ho (by decide) (by rw [hb]; exact congrArg some e))
            · exact hb1.set 3 (.slice va (L.length + 1) vc)
            · exact ((HI2.out.res.alloc _).keep g1.keep (fun e => HI2.out.row.neBlk HI2.out.res (by decide) e)).keep k1 (fun e => HG26.out e)
            · have := r1.keep k1 (fun b hb e => r1.neBlk hb1 (by decide) (by rw [hb]; exact congrArg some e))
              simpa [dl4, dcells] using this
            · rw [List.map_append, HI2.out.same, HSN.out]; rfl
            · intro x hx
              have key : Row wr 49 5 x.2 x.1.units.length (x.1.units.flatMap Ut.cells) := by
                rcases List.mem_append.1 hx with hx | hx
                · exact HI2.out.rows x hx
                · simp at hx; subst hx; exact HROW.out
              have k2 := (key.alloc (.cells #[.string d.name, .string d.file, .slice uva d.units.length uvc, .bool d.lit] 40)).keep g1.keep (fun b hb e => key.ne hzr (by decide) hb e)
              exact k2.keep k1 (fun b hb e => k2.neBlk hb1 (by decide) (by rw [hb]; exact congrArg some e))
            · exact ((HI2.out.keep.alloc _).trans g1.keep (fun i hi e => by have := HI2.out.lf i e; omega)).setNew HI2.out.l6 3 _
            · rcases g1.lies hb with e | e
              · exact HI2.out.lf b e
              · simp at e; omega
            · intro x hx b hb
              rcases List.mem_append.1 hx with hx | hx
              · exact HI2.out.lu x hx b hb
              · simp at hx; subst hx
                have a1 := HNEW.out b hb
                have a2 := HW3.out
                omega
            · have hlt1 := HI2.out.dec.rt.lt
              rcases g1.lies hb with e | e
              · exact HI2.out.nb e
              · simp at e; omega
    · obtain rfl : k = p.ds.length := by omega
      obtain ⟨fva, fvc, rfl⟩ := hI.row.reads.slice
      have hls := hI.size (Nat.le_refl _)
      have e0 : W0.cell? ⟨g6, 0, none⟩ = some (.string p.path) := by rw [hI.out.cell]; rfl
      have e1 : W0.cell? ⟨g6, 1, none⟩ = some (.string p.name) := by rw [hI.out.cell]; rfl
      have e2 : W0.cell? ⟨g6, 2, none⟩ = some (.string p.mod) := by rw [hI.out.cell]; rfl
      have e3 : W0.cell? ⟨g6, 3, none⟩ = some (.slice fva L.length fvc) := by rw [hI.out.cell]; rfl
      have c0 : W0.cell? ⟨g2, 0, none⟩ = some (.string ⟨#[]⟩) := by rw [hI.res.cell]; rfl
      have c1 : W0.cell? ⟨g2, 1, none⟩ = some (.string ⟨#[]⟩) := by rw [hI.res.cell]; rfl
      have c2 : W0.cell? ⟨g2, 2, none⟩ = some (.string ⟨#[]⟩) := by rw [hI.res.cell]; rfl
      have c3 : W0.cell? ⟨g2, 3, none⟩ = some (.slice none 0 0) := by rw [hI.res.cell]; rfl
      have f0 := hI.res.free 0
      have f1 := hI.res.free 1
      have f2 := hI.res.free 2
      have f3 := hI.res.free 3
      have hl2' := hI.res.lt
      have HI2 := Lib.hid hI
      have HLS := Lib.hid hls
      clear hI hls
      go_wp2
      have hb := (((HI2.out.res.set 0 (.string p.path)).set 1 (.string p.name)).set 2 (.string p.mod)).set 3 (.slice fva L.length fvc)
      refine bodyPost_ret (read_results g2 _ _ _ _ _ rfl hb rfl rfl) rfl ?_
      have K : Keep (At g2) W0 ((((W0.setCell ⟨g2, 0, none⟩ (.string p.path)).setCell ⟨g2, 1, none⟩ (.string p.name)).setCell ⟨g2, 2, none⟩ (.string p.mod)).setCell ⟨g2, 3, none⟩ (.slice fva L.length fvc)) := ((((Keep.refl _ _).setAt _ _ _ (atSelf _)).setAt _ _ _ (atSelf _)).setAt _ _ _ (atSelf _)).setAt _ _ _ (atSelf _)
      have hres := HI2.out.res
      refine ⟨_, L, rfl, ⟨HI2.out.row.reads.keep K (fun b hb e => HI2.out.row.neBlk hres (by decide) (by rw [hb]; exact congrArg some e)), fun x hx => (HI2.out.rows x hx).reads.keep K (fun b hb e => (HI2.out.rows x hx).neBlk hres (by decide) (by rw [hb]; exact congrArg some e))⟩, ?_, HI2.out.keep.trans K (fun i hi e => by have := HI2.out.l2; have e : i = g2 := e; omega), HI2.out.row.keep K (fun b hb e => HI2.out.row.neBlk hres (by decide) (by rw [hb]; exact congrArg some e))⟩
      have := HI2.out.same
      rwa [List.take_of_length_le (Nat.le_refl _)] at this
end Go.Proofs.YtbmidlaakbpnlaaDoor
