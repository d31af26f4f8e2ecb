/-
  THE CONTRACT of impl.Meta.
-/
import Derived.Test.YtbmidlaakbpnlaaDoorMe10
import Derived.Test.YtbmidlaakbpnlaaDoorPk3
namespace Go.Proofs.YtbmidlaakbpnlaaDoor
open Go.RowKit
open Go.ChangeShapes Go.WideShapes Go.ChangeAt Go.Deep
open Plain (M64)

theorem sliceCU : SliceT Tryd.prog 57 61 (.agg #[.int .u32 0, .int .u32 0, .int .u32 0, .int .u32 0, .int .u32 0, .int .u32 0]) 6 24 := ⟨Tryd.underlying57, by kernel_rfl, rfl, by decide⟩
theorem sliceInt : SliceT Tryd.prog 32 3 (.int .i64 0) 1 8 := ⟨Tryd.underlying32, by kernel_rfl, rfl, by decide⟩
theorem Reads.sixAt {w : World} {x y z u t s : Value} {T : TypeId} {g : Nat} (hg : g = w.heap.size) : Reads (w.alloc (.cells #[x, y, z, u, t, s] T)) 6 (.slice (some ⟨g, 0, none⟩) 1 1) 1 [x, y, z, u, t, s] := by
  subst hg
  refine ⟨rfl, .inr ⟨_, 1, rfl, fun j v hj => ?_⟩⟩
  rw [addr_add, Nat.zero_add, (Blk.new w [x, y, z, u, t, s] T).cell]
  exact hj
theorem ut6_one (u : Ut) : ∀ v ∈ u.cells6, v.oneCell' = true := by
  intro v hv
  simp [Ut.cells6] at hv
  rcases hv with rfl | rfl | rfl | rfl | rfl | rfl <;> rfl
theorem cells6_snoc {l : List Ut} {k : Nat} (h : k < l.length) : (l.take (k + 1)).flatMap Ut.cells6 = (l.take k).flatMap Ut.cells6 ++ l[k].cells6 := by
  rw [List.take_succ_eq_append_getElem h, List.flatMap_append]; simp
/-- The numbers up to k. -/
def TN (k : Nat) : List Value := (List.range k).map fun i : Nat => .int .i64 (i : Int)
theorem TN_snoc (k : Nat) : TN (k + 1) = TN k ++ [.int .i64 (k : Int)] := by simp [TN, List.range_succ]
theorem TN_length (k : Nat) : (TN k).length = k := by simp [TN]
theorem TN_at {n k : Nat} (h : k < n) : (TN n)[k]? = some (.int .i64 (k : Int)) := by simp [TN, h]
/-- The descriptions alone. -/
def Pkg.dl (p : Pkg) : List Dsc := p.ds.map (·.1)
def Pkg.ms (p : Pkg) (k : Nat) : Ms := Ms.run p.path p.name p.mod (p.dl.take k)
def Pkg.P (p : Pkg) : Nat := place tabA p.path
def Pkg.N (p : Pkg) : Nat := place (tabB p.path) p.name
def Pkg.M (p : Pkg) : Nat := place (tabC p.path p.name) p.mod
theorem Pkg.dl_length (p : Pkg) : p.dl.length = p.ds.length := by simp [Pkg.dl]
theorem Pkg.ms_snoc (p : Pkg) {k : Nat} (h : k < p.ds.length) : p.ms (k + 1) = (p.ms k).step p.ds[k].1 := by
  have h' : k < p.dl.length := by rw [p.dl_length]; exact h
  rw [Pkg.ms, Ms.run_snoc h', Pkg.ms]
  simp [Pkg.dl]
theorem Pkg.ms_len (p : Pkg) (hg : p.good) (hw : p.wide) : ∀ k, k ≤ p.ds.length → (p.ms k).all.length ≤ 20 ∧ (p.ms k).es.length = k ∧ ∀ e ∈ (p.ms k).es, e.length ≤ 60000 := by
  intro k hk
  obtain ⟨_, _, _, g4, g5⟩ := hg
  have := Ms.run_len p.path p.name p.mod p.dl (by rw [p.dl_length]; omega) (fun d hd => by
    simp [Pkg.dl] at hd
    obtain ⟨v, hd⟩ := hd
    have a1 := g5 _ hd
    have a2 := hw.2.2.2.2 _ hd
    exact ⟨by have := a1.2.2; simp only at this; omega, a2.1⟩) k (by rw [p.dl_length]; exact hk)
  refine ⟨by have := this.1; unfold Pkg.ms; omega, this.2.1, this.2.2⟩
theorem Pkg.places_le (p : Pkg) : p.P ≤ 1000 ∧ p.N ≤ 1000 ∧ p.M ≤ 1000 := by
  have a1 := place_le tabA p.path
  have a2 := place_le (tabB p.path) p.name
  have a3 := place_le (tabC p.path p.name) p.mod
  have b1 := tabA_len
  have b2 := tabB_len p.path
  have b3 := tabC_len p.path p.name
  unfold Pkg.P Pkg.N Pkg.M
  omega
/-- On the way. -/
structure MI (w wr : World) (p : Pkg) (k g gh mb : Nat) (st tm fb : Value) (bb n c : Nat) (xs : List Value) (tv : Value) (E : List (Value × List UInt8)) : Prop where
  bd : Bd (fun i => w.heap.size ≤ i) wr g gh mb st tm fb (.slice (some ⟨bb, 0, none⟩) n c) n xs p.P p.N p.M (p.ms k).all (p.ms k).hash E
  cap : 4 ≤ c
  es : E.map (·.2) = (p.ms k).es
  told : Row wr 3 1 tv k (TN k)
  keep : Keep Non w wr
  nt : ∀ b, tv.ownBlock = some b → w.heap.size ≤ b
theorem MI.far {w wr w' : World} {p : Pkg} {k g gh mb : Nat} {st tm fb : Value} {bb n c : Nat} {xs : List Value} {tv : Value} {E : List (Value × List UInt8)} (h : MI w wr p k g gh mb st tm fb bb n c xs tv E) {S : Nat → Prop} (kk : Keep S wr w') (hs : ∀ i, S i → wr.heap.size ≤ i) : MI w w' p k g gh mb st tm fb bb n c xs tv E := by
  have hlt : ∀ i, i < wr.heap.size → ¬ S i := fun i hi e => by have := hs i e; omega
  exact ⟨h.bd.keep kk (fun i hi => hlt i (h.bd.lt hi)), h.cap, h.es, h.told.keep kk (fun b hb => hlt b (h.told.lt hb)), h.keep.trans kk (fun i hi e => by have := hs i e; have := h.keep.size; omega), h.nt⟩
/-- Behind impl.Meta. -/
def MetaPost (w : World) (p : Pkg) (e : Ending) (w' : World) : Prop :=
  ∃ v tv, e = .returned (.tuple #[v, tv, .bool true]) ∧ Row w' 5 1 v (mtotal (p.ms p.ds.length)) (B (mbytes (p.ms p.ds.length) (mtotal (p.ms p.ds.length)) p.P p.N p.M)) ∧ Row w' 3 1 tv p.ds.length (TN p.ds.length) ∧ Keep Non w w' ∧ (∀ b, v.ownBlock = some b → w.heap.size ≤ b) ∧ (∀ b, tv.ownBlock = some b → w.heap.size ≤ b)
def MetaNo (w : World) (e : Ending) (w' : World) : Prop := e = .returned (.tuple #[.slice none 0 0, .slice none 0 0, .bool false]) ∧ Keep Non w w'
theorem results_tmp3 {fn : Func} {t u v : Tmp} (h : fn.results = #[.tmp t, .tmp u, .tmp v]) (tmps : Array Value) (P : Program) (w : World) :
    (results fn tmps).run P w = .ok (.tuple #[tmps.getD t undef, tmps.getD u undef, tmps.getD v undef]) w := by
  simp [results, h]
set_option maxRecDepth 100000 in
set_option maxHeartbeats 2000000 in
theorem metaNo (name mod : ByteArray) (fv : Value) (a : Option Addr) (n c : Nat) (hv : fv = .slice a n c) (w : World) : Calls Tryd.prog 8 #[.agg #[.string emp, .string name, .string mod, fv]] w (MetaNo w) := by
  subst hv
  go_enter Tryd.func8, Tryd.ntmps8
  go_wp2_with fail
  refine (newEmpty name mod _).mono ?_
  rintro e w2 ⟨t, b, rfl, k2⟩
  have K2 := Lib.hid k2
  clear k2
  go_wp2
  refine bodyPost_ret (results_tmp3 rfl _ _ _) rfl ?_
  exact ⟨rfl, ((Keep.refl _ _).alloc _).trans' K2.out⟩
/-- A function was added. -/
theorem MI.more {w W w' : World} {p : Pkg} {k g gh mb : Nat} {st tm fb : Value} {bb n c : Nat} {xs : List Value} {tv : Value} {E : List (Value × List UInt8)} (h : MI w W p k g gh mb st tm fb bb n c xs tv E) (hk : k < p.ds.length) {Q : Nat → Prop} (hQ : ∀ i, Q i → BdF g gh mb st tm fb (.slice (some ⟨bb, 0, none⟩) n c) E i ∨ W.heap.size ≤ i) (kk : Keep Q W w')
    {st' fb' ev : Value} {bb' n' c' : Nat} {ys : List Value} (hb : Bd Q w' g gh mb st' tm fb' (.slice (some ⟨bb', 0, none⟩) n' c') n' ys p.P p.N p.M (added (added (p.ms k).all p.ds[k].1.name) p.ds[k].1.file) (fnvs (p.ms k).hash p.ds[k].1.hash) (E ++ [(ev, encF (p.ms k).all p.ds[k].1)])) :
    Row w' 3 1 tv k (TN k) ∧ Bd (fun i => w.heap.size ≤ i) w' g gh mb st' tm fb' (.slice (some ⟨bb', 0, none⟩) n' c') n' ys p.P p.N p.M (p.ms (k + 1)).all (p.ms (k + 1)).hash (E ++ [(ev, encF (p.ms k).all p.ds[k].1)]) ∧ (E ++ [(ev, encF (p.ms k).all p.ds[k].1)]).map (·.2) = (p.ms (k + 1)).es ∧ Keep Non w w' := by
  have hz := h.keep.size
  have hQw : ∀ i, Q i → w.heap.size ≤ i := fun i hi => by
    rcases hQ i hi with e | e
    · exact h.bd.ok i e
    · omega
  rw [p.ms_snoc hk]
  refine ⟨h.told.keep kk (fun b hb e => ?_), hb.narrow (fun i hi => hQw i (hb.ok i hi)) (fun i hi => by have := kk.size; omega), ?_, h.keep.trans kk (fun i hi e => by have := hQw i e; omega)⟩
  · rcases hQ b e with e | e
    · have hkd := h.told.kd hb
      rcases h.bd.kd e with h | h | h | h | h | h <;> exact kd_false h hkd (by decide)
    · have := h.told.lt hb; omega
  · rw [List.map_append, h.es]; rfl
set_option maxRecDepth 100000 in
set_option maxHeartbeats 8000000 in
theorem metaT (p : Pkg) (fv : Value) (w : World) (h : DescR w fv p.ds) (hg : p.good) (hw : p.wide) : Calls Tryd.prog 8 #[.agg #[.string p.path, .string p.name, .string p.mod, fv]] w (MetaPost w p) := by
  obtain ⟨fa, fc, rfl⟩ := h.reads.slice
  have hlen := p.ms_len hg hw
  have HLEN := Lib.hid hlen
  obtain ⟨g1, g2, g3, g4, g5⟩ := hg
  obtain ⟨W1, hW1⟩ : ∃ W1, W1 = w.alloc (.cells #[.string p.path, .string p.name, .string p.mod, .slice fa p.ds.length fc] 24) := ⟨_, rfl⟩
  have hk1 : Keep Non w W1 := by rw [hW1]; exact (Keep.refl _ _).alloc _
  have hz1 : W1.heap.size = w.heap.size + 1 := by rw [hW1]; simp
  have hb1 : Blk W1 w.heap.size [.string p.path, .string p.name, .string p.mod, .slice fa p.ds.length fc] 24 := by rw [hW1]; exact Blk.new w [.string p.path, .string p.name, .string p.mod, .slice fa p.ds.length fc] _
  have HK1 := Lib.hid hk1
  have HB1 := Lib.hid hb1
  have HZ1 := Lib.hid hz1
  have HH := Lib.hid h
  have HP := Lib.hid (g1.2 rfl)
  have HW := Lib.hid hw.2.2.2.2
  have HG := Lib.hid g5
  have h60 := g1.1
  have h61 := g2.1
  have h62 := g3.1
  clear h hk1 hz1 hb1 hlen g1 g2 g3 g5 hw
  go_enter Tryd.func8, Tryd.ntmps8
  go_wp2_with fail
  rw [← hW1]
  clear hW1
  refine (newBuilder p.path p.name p.mod W1 HP.out (by omega) (by omega) (by omega)).mono ?_
  rintro e w2 ⟨g, gh, mb, st, tm, bb, rfl, k2, b2⟩
  have y3 : w2.cell? ⟨w.heap.size, 3, none⟩ = some (.slice fa p.ds.length fc) := by rw [(HB1.out.keep k2 (fun h => h)).cell]; rfl
  have hI0 : MI w (w2.alloc (.cells #[] 3)) p 0 g gh mb st tm (.slice none 0 0) bb 0 256 [] (.slice (some ⟨w2.heap.size, 0, none⟩) 0 0) [] := by
    refine ⟨?_, by decide, rfl, Row.lit w2 3 1 [] 0 (by decide) rfl, (HK1.out.trans' k2).alloc _, fun b hb => ?_⟩
    · have := b2.far ((Keep.refl Non w2).alloc (.cells #[] 3))
      refine this.narrow (fun i hi => ?_) (fun i hi => ?_)
      · have := this.ok i hi; have := HZ1.out; omega
      · have := k2.size; have := HZ1.out; simp at hi; omega
    · have := k2.size; have := HZ1.out; simp [Value.ownBlock] at hb; omega
  have hlt2 : w.heap.size < w2.heap.size := by have := k2.size; have := HZ1.out; omega
  have HI0 := Lib.hid hI0
  clear hI0 b2 k2
  go_wp2
  obtain ⟨WL, hWL⟩ : ∃ WL, WL = w2.alloc (.cells #[] 3) := ⟨_, rfl⟩
  rw [← hWL] at HI0 ⊢
  clear hWL y3 hlt2
  go_loopw [7, 30] (fun tv i wr => ∃ (k : Nat) (st fb : Value) (bb n c : Nat) (xs : List Value) (E : List (Value × List UInt8)), k ≤ p.ds.length ∧ i = .int .i64 k ∧ MI w wr p k g gh mb st tm fb bb n c xs tv E) (fun _ i _ => p.ds.length - (intOf i).toNat)
  case atStart => exact ⟨0, st, _, bb, 0, 256, [], [], by omega, rfl, HI0.out⟩
  case round =>
    obtain ⟨k, st, fb, bb, n, c, xs, E, hk, rfl, hI⟩ := hrel
    obtain ⟨W0, rfl⟩ : ∃ W0, W0 = wr := ⟨_, rfl⟩
    obtain ⟨tva, tvc, rfl⟩ := hI.told.reads.slice
    by_cases hlt : k < p.ds.length
    · have hR := HH.out.far hI.keep
      obtain ⟨ba, off, ca', hva, hca⟩ := hR.reads.at (by omega) (by omega)
      cases hva
      obtain ⟨q0, q1, q2, q3⟩ := four_at hca hlt
      have hU := hR.units _ (List.getElem_mem hlt)
      have hfit := HW.out _ (List.getElem_mem hlt)
      have hsm := HG.out _ (List.getElem_mem hlt)
      have hmore := @MI.more w W0 -- kept whole until the call
      have hEl : E.length = k := by
        have a1 := congrArg List.length hI.es
        have a2 := (HLEN.out k (by omega)).2.1
        simp at a1
        omega
      have hal := (HLEN.out k (by omega)).1
      have HEL := Lib.hid hEl
      have HU := Lib.hid hU
      have HII := Lib.hid hI
      have HFIT := Lib.hid hfit.1
      obtain ⟨s1, s2, s3⟩ := hsm
      obtain ⟨x, hx⟩ : ∃ x, x = p.ds[k] := ⟨_, rfl⟩
      rw [← hx] at q0 q1 q2 q3 HU HFIT s1 s2 s3
      have HX := Lib.hid hx
      clear hca hR hI hU hfit hEl hx hmore
      obtain ⟨d, uv⟩ := x
      dsimp only at *
      obtain ⟨ua, uc, rfl⟩ := HU.out.slice
      obtain ⟨W2, hW2⟩ : ∃ W2, W2 = (W0.alloc (.cells #[.string d.name, .string d.file, .slice ua d.units.length uc, .bool d.lit] 40)).alloc (.cells #[.string d.name, .string d.file, .slice none 0 0, .bool d.lit] 59) := ⟨_, rfl⟩
      have hk2 : Keep Non W0 W2 := by rw [hW2]; exact ((Keep.refl _ _).alloc _).alloc _
      have hz2 : W2.heap.size = W0.heap.size + 1 + 1 := by rw [hW2]; simp
      have hd2 : Blk W2 (W0.heap.size + 1) [.string d.name, .string d.file, .slice none 0 0, .bool d.lit] 59 := by
        have := Blk.new (W0.alloc (.cells #[.string d.name, .string d.file, .slice ua d.units.length uc, .bool d.lit] 40)) [.string d.name, .string d.file, .slice none 0 0, .bool d.lit] 59
        rw [hW2]
        simpa using this
      have HK2 := Lib.hid hk2
      have HZ2 := Lib.hid hz2
      have HD2 := Lib.hid hd2
      clear hk2 hz2 hd2
      go_wp2_with fail
      rw [← hW2]
      clear hW2
      obtain ⟨gd, hgd⟩ : ∃ gd, gd = W0.heap.size + 1 := ⟨_, rfl⟩
      rw [← hgd] at HD2 ⊢
      have HGD := Lib.hid hgd
      clear hgd
      go_loopw [44] (fun i w2 => ∃ (j : Nat) (uv' : Value), j ≤ d.units.length ∧ i = .int .i64 j ∧ Blk w2 gd [.string d.name, .string d.file, uv', .bool d.lit] 59 ∧ Row w2 61 6 uv' j ((d.units.take j).flatMap Ut.cells6) ∧ Keep (At gd) W2 w2 ∧ (∀ b, uv'.ownBlock = some b → W2.heap.size ≤ b)) (fun i _ => d.units.length - (intOf i).toNat)
      case atStart => exact ⟨0, _, by omega, rfl, HD2.out, Row.nil _ _ _, Keep.refl _ _, fun b hb => by simp [Value.ownBlock] at hb⟩
      case round =>
        obtain ⟨j, uv', hj, rfl, hbd, hrow, hkk, hnew⟩ := hrel
        by_cases hjl : j < d.units.length
        · have hu2 : Reads wr 5 (.slice ua d.units.length uc) d.units.length (d.units.flatMap Ut.cells) := (HU.out.keep HK2.out (fun _ _ h => h)).keep hkk (fun b hb e => by
            have a1 := HU.out.blk (by omega) (by decide) b hb
            have a2 := HGD.out
            have e : b = gd := e
            omega)
          obtain ⟨bb2, offb, cb', hvb, hcb⟩ := hu2.at (by omega) (by omega)
          cases hvb
          obtain ⟨r0, r1, r2, r3, r4⟩ := five_at hcb hjl
          have hsn := cells6_snoc hjl
          have HSN2 := Lib.hid hsn
          have HUT := Lib.hid (ut6_one d.units[j])
          have c2 : wr.cell? ⟨gd, 2, none⟩ = some uv' := by rw [hbd.cell]; rfl
          have f2 := hbd.free 2
          have hgdl := hbd.lt
          have HBD := Lib.hid hbd
          have HROW := Lib.hid hrow
          have HKK := Lib.hid hkk
          have HNEW := Lib.hid hnew
          have hng : ∀ b, uv'.ownBlock = some b → b ≠ gd := fun b hb e => hrow.neBlk hbd (by decide) (by rw [hb, e])
          have HNG := Lib.hid hng
          clear hsn hcb hu2 hbd hrow hkk hnew hng
          have hcu : d.units[j].cells6 = [.int .u32 d.units[j].sl, .int .u32 d.units[j].sc, .int .u32 d.units[j].el, .int .u32 d.units[j].ec, .int .u32 d.units[j].ns, .int .u32 0] := rfl
          rw [hcu] at HSN2 HUT
          clear hcu
          generalize d.units[j] = u at *
          go_wp2_with (at_builtin; go_must (refine wpList_app (n := j) (m := 1) sliceCU rfl _ _ rfl rfl ((HROW.out.alloc _).alloc _) rfl (Reads.sixAt (by simp)) HUT.out (by unfold maxLen; omega) (by omega) ?_); intro v1 w1 r1 g1 n1; have hb1 := ((HBD.out.alloc _).alloc _).keep g1.keep (fun e => HNG.out _ e rfl); have c3 : w1.cell? ⟨gd, 2, none⟩ = some uv' := (by rw [hb1.cell]; rfl); have f3 := hb1.free 2; have hl3 := hb1.lt; obtain ⟨va, vc, rfl⟩ := r1.reads.slice)
          go_roundw
          case measure => simp [intOf]; omega
          case rel =>
            have hz := HKK.out.size
            have hb2 := hb1.set 2 (.slice va (j + 1) vc)
            refine ⟨j + 1, _, by omega, by go_num, hb2, ?_, ?_, fun b hb => ?_⟩
            · rw [HSN2.out]
              refine r1.keep (Keep.one w1 gd 2 _) (fun b hb e => ?_)
              have e : b = gd := e
              exact r1.neBlk hb1 (by decide) (by rw [hb, e])
            · exact (((HKK.out.alloc _).alloc _).trans g1.keep (fun i hi e => by have := HNEW.out i e; omega)).setAt gd 2 _ (atSelf _)
            · rcases g1.lies hb with e | e
              · exact HNEW.out b e
              · simp at e; omega
        · obtain rfl : j = d.units.length := by omega
          rw [List.take_of_length_le (Nat.le_refl _)] at hrow
          have hKT : Keep (fun i => W0.heap.size ≤ i) W0 wr := (HK2.out.mono (fun _ _ h => h.elim)).trans hkk (fun i hi e => by have e : i = gd := e; have := HGD.out; omega)
          have hII := HII.out.far hKT (fun i h => h)
          obtain ⟨uva, uvc, rfl⟩ := hrow.reads.slice
          have c0 : wr.cell? ⟨gd, 0, none⟩ = some (.string d.name) := by rw [hbd.cell]; rfl
          have c1 : wr.cell? ⟨gd, 1, none⟩ = some (.string d.file) := by rw [hbd.cell]; rfl
          have c2 : wr.cell? ⟨gd, 2, none⟩ = some (.slice uva d.units.length uvc) := by rw [hbd.cell]; rfl
          have c3 : wr.cell? ⟨gd, 3, none⟩ = some (.bool d.lit) := by rw [hbd.cell]; rfl
          have HI2 := Lib.hid hII
          have HROW := Lib.hid hrow
          clear hII hrow hbd hnew hkk hKT
          obtain ⟨Q, hQ⟩ : ∃ Q : Nat → Prop, Q = fun i => BdF g gh mb st tm fb (.slice (some ⟨bb, 0, none⟩) n c) E i ∨ wr.heap.size ≤ i := ⟨_, rfl⟩
          have hbd : Bd Q wr g gh mb st tm fb (.slice (some ⟨bb, 0, none⟩) n c) n xs p.P p.N p.M (p.ms k).all (p.ms k).hash E := HI2.out.bd.narrow (fun i hi => by rw [hQ]; exact .inl hi) (fun i hi => by rw [hQ]; exact .inr hi)
          have HBD := Lib.hid hbd
          have HQ : Hid (∀ i, Q i → BdF g gh mb st tm fb (.slice (some ⟨bb, 0, none⟩) n c) E i ∨ wr.heap.size ≤ i) := Lib.hid (fun i hi => by rw [hQ] at hi; exact hi)
          clear hbd hQ
          go_wp2_with fail
          refine (addFunc Q g gh mb st tm fb bb n c xs p.P p.N p.M (p.ms k).all (p.ms k).hash E d (.slice uva d.units.length uvc) wr HBD.out HI2.out.cap HROW.out HFIT.out (by omega) (by omega) (by omega) (by omega) (by have := HEL.out; omega)).mono ?_
          rintro e w4 ⟨he, k4, st4, fb4, vb, vn, vc, ys, ev, b4, hvc⟩
          rw [HEL.out] at he
          subst he
          have hx := HX.out
          have hd : d = p.ds[k].1 := by rw [← hx]
          have hb4 : Bd Q w4 g gh mb st4 tm fb4 (.slice (some ⟨vb, 0, none⟩) vn vc) vn ys p.P p.N p.M (added (added (p.ms k).all p.ds[k].1.name) p.ds[k].1.file) (fnvs (p.ms k).hash p.ds[k].1.hash) (E ++ [(ev, encF (p.ms k).all p.ds[k].1)]) := by rw [← hd]; exact b4
          obtain ⟨m1, m2, m3, m4⟩ := HI2.out.more hlt HQ.out k4 hb4
          have M1 := Lib.hid m1
          have M2 := Lib.hid m2
          have M3 := Lib.hid m3
          have M4 := Lib.hid m4
          have HNT := Lib.hid HI2.out.nt
          have HNB : Hid (∀ b, (Value.slice tva k tvc).ownBlock = some b → ¬ BdF g gh mb st4 tm fb4 (.slice (some ⟨vb, 0, none⟩) vn vc) (E ++ [(ev, encF (p.ms k).all p.ds[k].1)]) b) := Lib.hid (fun b hb e => by
            have hkd := m1.kd hb
            rcases m2.kd e with h | h | h | h | h | h <;> exact kd_false h hkd (by decide))
          clear b4 k4 hb4 hx hd m1 m2 m3 m4
          go_wp2_with (at_builtin; go_must (refine wpList_app (n := k) (m := 1) sliceInt rfl _ _ rfl rfl (M1.out.alloc _) rfl (Reads.oneAt (by simp)) (int_one _ _) (by unfold maxLen; omega) (by omega) ?_); intro v5 w5 r5 g5 n5)
          go_roundw
          case measure => simp [intOf]; omega
          case rel =>
            have hz := M4.out.size
            refine ⟨k + 1, st4, fb4, vb, vn, vc, ys, E ++ [(ev, encF (p.ms k).all p.ds[k].1)], by omega, by go_num, (M2.out.far ((Keep.refl Non w4).alloc (.cells #[.int .i64 k] 3))).keep g5.keep (fun i hi e => HNB.out i e hi), hvc, M3.out, ?_, (M4.out.alloc _).trans g5.keep (fun i hi e => by have := HNT.out i e; omega), fun b hb => ?_⟩
            · rw [TN_snoc]; exact r5
            · rcases g5.lies hb with e | e
              · exact HNT.out b e
              · simp at e; omega
    · obtain rfl : k = p.ds.length := by omega
      obtain ⟨Q, hQ⟩ : ∃ Q : Nat → Prop, Q = fun i => BdF g gh mb st tm fb (.slice (some ⟨bb, 0, none⟩) n c) E i ∨ W0.heap.size ≤ i := ⟨_, rfl⟩
      have hE : EW Q (W0.alloc (.cells #[.slice none 0 0, .int .i64 0] 66)) g gh mb st tm fb (.slice (some ⟨bb, 0, none⟩) n c) n xs p.P p.N p.M (p.ms p.ds.length).all (p.ms p.ds.length).hash E W0.heap.size (.slice none 0 0) 0 [] := by
        refine ⟨(hI.bd.far ((Keep.refl Non W0).alloc _)).narrow (fun i hi => by rw [hQ]; exact .inl hi) (fun i hi => by rw [hQ]; simp at hi; exact .inr (by omega)), ⟨Blk.new W0 [.slice none 0 0, .int .i64 0] _, Row.nil _ _ _, Nat.le_refl _⟩, fun b hb => by simp [Value.ownBlock] at hb, by rw [hQ]; exact .inr (Nat.le_refl _), fun b hb => by simp [Value.ownBlock] at hb⟩
      have HQ : Hid (∀ i, Q i → BdF g gh mb st tm fb (.slice (some ⟨bb, 0, none⟩) n c) E i ∨ W0.heap.size ≤ i) := Lib.hid (fun i hi => by rw [hQ] at hi; exact hi)
      have HE := Lib.hid hE
      have HII := Lib.hid hI
      obtain ⟨hl1, hl2, hl3⟩ := HLEN.out p.ds.length (Nat.le_refl _)
      obtain ⟨pl1, pl2, pl3⟩ := p.places_le
      have HES := Lib.hid hI.es
      have hel : E.length ≤ 100 := by
        have a1 := congrArg List.length hI.es
        simp at a1
        omega
      have hle : ∀ e ∈ E, e.2.length ≤ 60000 := fun e he => hl3 e.2 (by rw [← hI.es]; exact List.mem_map_of_mem he)
      have HLE := Lib.hid hle
      clear hQ hE hI hle hl2 hl3
      go_wp2_with fail
      refine (emit Q g gh mb st tm fb bb n c xs p.P p.N p.M (p.ms p.ds.length).all (p.ms p.ds.length).hash E W0.heap.size _ _ HE.out HII.out.cap pl1 pl2 pl3 (by omega) hel HLE.out).mono ?_
      rintro e w4 ⟨dv, pv4, rfl, hwr, k4⟩
      have es : (⟨(p.ms p.ds.length).all, (p.ms p.ds.length).hash, E.map (·.2)⟩ : Ms) = p.ms p.ds.length := by rw [HES.out]
      rw [es] at hwr
      have hml := mbytes_length (p.ms p.ds.length) (mtotal (p.ms p.ds.length)) p.P p.N p.M
      have hmb : 0 < mtotal (p.ms p.ds.length) ∧ mtotal (p.ms p.ds.length) ≤ 10000000 := by
        have a1 := HII.out.bd.tab.short
        have a2 := tones_len _ a1
        have a3 := uleb_len64 (v := (p.ms p.ds.length).all.length) (by unfold M64; omega)
        have a4 := flatten_len (b := 60000) (p.ms p.ds.length).es (HLEN.out _ (Nat.le_refl _)).2.2
        have a5 := (HLEN.out p.ds.length (Nat.le_refl _)).2.1
        simp only [mtotal, mbase, tbytes, List.length_append]
        omega
      have hrow : Row w4 5 1 pv4 (mtotal (p.ms p.ds.length)) (B (mbytes (p.ms p.ds.length) (mtotal (p.ms p.ds.length)) p.P p.N p.M)) := by
        have := hwr.row
        rw [hml] at this
        exact this
      have htold : Row w4 3 1 (.slice tva p.ds.length tvc) p.ds.length (TN p.ds.length) := by
        refine (HII.out.told.alloc _).keep k4 (fun b hb e => ?_)
        have hkd := HII.out.told.kd hb
        rcases HQ.out b e with e | e
        · rcases HII.out.bd.kd e with h | h | h | h | h | h <;> exact kd_false h hkd (by decide)
        · have := HII.out.told.lt hb; omega
      have hkk : Keep Non w w4 := by
        refine (HII.out.keep.alloc _).trans k4 (fun i hi e => ?_)
        have := HII.out.keep.size
        rcases HQ.out i e with e | e
        · have := HII.out.bd.ok i e; omega
        · omega
      have HWR := Lib.hid hwr
      have HROW := Lib.hid hrow
      have HTOLD := Lib.hid htold
      have HKK := Lib.hid hkk
      have HNT := Lib.hid HII.out.nt
      clear hwr hml hrow htold hkk k4 es
      go_wp2_with fail
      refine (wbytes pv4 W0.heap.size 4 _ (HWR.out.blk.alloc _)).mono ?_
      rintro e w6 ⟨rfl, rfl⟩
      go_wp2_with (at_builtin; go_must (refine wpList_app (n := 0) (m := mtotal (p.ms p.ds.length)) sliceBytes rfl _ _ rfl rfl (Row.lit _ 5 1 [] 0 (by decide) rfl) rfl (HROW.out.alloc _).reads (B_one _) (by unfold maxLen; omega) (by omega) ?_); intro v5 w5 r5 g5 n5)
      refine bodyPost_ret (results_tmp3 rfl _ _ _) rfl ?_
      have hz := HKK.out.size
      obtain ⟨c1, c2⟩ := g5.copied rfl
      refine ⟨v5, _, rfl, ?_, HTOLD.out.keep c1 (fun _ _ h => h), HKK.out.trans' c1, fun b hb => by have := c2 b hb; omega, HNT.out⟩
      rw [Nat.zero_add] at r5
      exact r5
end Go.Proofs.YtbmidlaakbpnlaaDoor
