/-
  THE CONTRACT of a new builder of descriptions.
-/
import Derived.Test.YtbmidlaakbpnlaaDoorMe3
namespace Go.Proofs.YtbmidlaakbpnlaaDoor
open Go.RowKit
open Go.ChangeShapes Go.WideShapes Go.ChangeAt Go.Deep
open Plain (M64)

section
variable {Q : Nat → Prop} {w w' : World} {g gh mb : Nat} {st tm fv bt : Value} {n : Nat} {xs : List Value} {p q m p' q' m' : Nat} {all : List ByteArray} {h : Nat × Nat} {E : List (Value × List UInt8)}
theorem Bd.setR (H : Bd Q w g gh mb st tm fv bt n xs p q m all h E) (i : Nat) (u : Value) (hr : (brest fv bt gh p q m).set i u = brest fv bt gh p' q' m') : Bd Q (w.setCell ⟨g, 4 + i, none⟩ u) g gh mb st tm fv bt n xs p' q' m' all h E := by
  have k2 := Keep.one w g (4 + i) u
  have hg := H.tab.blk.kd
  have t2 := H.tab.setRest (by decide) (by decide) i u
  rw [hr] at t2
  refine ⟨t2, H.hash.keep k2 (fun e => ?_), H.l1, H.l2, H.row.keep k2 (fun b hb e => ?_), H.shape, H.fns.keep k2 (fun b hb e => ?_), fun e he => (H.encs e he).keep k2 (fun b hb e' => ?_), H.sep, H.sepE, H.ok, fun i hi => H.fresh i (by simpa using hi)⟩
  · exact kd_false H.hash.kd (kd_at e hg) (by decide)
  · exact kd_false (H.row.kd hb) (kd_at e hg) (by decide)
  · exact kd_false (H.fns.kd hb) (kd_at e hg) (by decide)
  · exact kd_false ((H.encs _ he).kd hb) (kd_at e' hg) (by decide)
theorem Bd.hs {b c : Nat} (H : Bd Q w g gh mb st tm fv (.slice (some ⟨b, 0, none⟩) n c) n xs p q m all h E) (hc : 4 ≤ c) : HS w gh b n c h := ⟨H.hash, H.l1, H.l2, ⟨xs, H.row⟩, hc⟩
theorem Bd.cell (H : Bd Q w g gh mb st tm fv bt n xs p q m all h E) (i : Nat) : w.cell? ⟨g, 4 + i, none⟩ = (brest fv bt gh p q m)[i]? := by
  rw [H.tab.blk.cell]
  simp [tcells, show 4 + i = i + 4 by omega]
/-- A text, hashed. -/
theorem Bd.text (H : Bd Q w g gh mb st tm fv bt n xs p q m all h E) {l : List UInt8} (k : Keep (At gh) w w') (hb : Blk w' gh [.int .u64 (fnvs h l).1, .int .u64 (fnvs h l).2] 124) : Bd Q w' g gh mb st tm fv bt n xs p q m all (fnvs h l) E ∧ Keep Q w w' := by
  have hh := H.hash.kd
  refine ⟨⟨H.tab.keep k (fun i hi e => ?_), hb, (fnvs_lt l h H.l1 H.l2).1, (fnvs_lt l h H.l1 H.l2).2, H.row.keep k (fun b hb e => kd_false (H.row.kd hb) (kd_at e hh) (by decide)), H.shape, H.fns.keep k (fun b hb e => kd_false (H.fns.kd hb) (kd_at e hh) (by decide)), fun e he => (H.encs e he).keep k (fun b hb e' => kd_false ((H.encs e he).kd hb) (kd_at e' hh) (by decide)), H.sep, H.sepE, H.ok, fun i hi => H.fresh i (Nat.le_trans k.size hi)⟩, k.mono (fun i _ e => H.ok i (.inr (.inl e)))⟩
  rcases H.tab.kd hi with h | h | h | h
  · exact kd_false h (kd_at e hh) (by decide)
  · exact kd_false h (kd_at e hh) (by decide)
  · exact kd_false h (kd_at e hh) (by decide)
  · obtain ⟨_, _, r0, _⟩ := H.tab.tmp
    exact kd_false (r0.kd h) (kd_at e hh) (by decide)
end
/-- The table of a new builder. -/
def emp : ByteArray := ⟨#[]⟩
def tabA : List ByteArray := added [] emp
def tabB (path : ByteArray) : List ByteArray := added tabA path
def tabC (path name : ByteArray) : List ByteArray := added (tabB path) name
def tabN (path name mod : ByteArray) : List ByteArray := added (tabC path name) mod
theorem tabA_len : tabA.length ≤ 1 := by have := added_length [] emp; simp [tabA]; simpa using this.2
theorem tabB_len (path : ByteArray) : (tabB path).length ≤ 2 := by have := added_length tabA path; have := tabA_len; unfold tabB; omega
theorem tabC_len (path name : ByteArray) : (tabC path name).length ≤ 3 := by have := added_length (tabB path) name; have := tabB_len path; unfold tabC; omega
theorem tabN_len (path name mod : ByteArray) : (tabN path name mod).length ≤ 4 := by have := added_length (tabC path name) mod; have := tabC_len path name; unfold tabN; omega
def hash0 : Nat × Nat := (7809847782465536322, 7113472399480571277)
def hashN (path name mod : ByteArray) : Nat × Nat := fnvs (fnvs (fnvs hash0 path.data.toList) name.data.toList) mod.data.toList
/-- What is new. -/
structure NewB (w wx : World) (g gh bb : Nat) : Prop where
  blk : Blk wx g ([.map none, .slice none 0 0, .slice none 0 0, .bool false] ++ brest (.slice none 0 0) (.slice (some ⟨bb, 0, none⟩) 0 256) gh 0 0 0) 87
  hash : Blk wx gh [.int .u64 hash0.1, .int .u64 hash0.2] 124
  row : Row wx 5 1 (.slice (some ⟨bb, 0, none⟩) 0 256) 0 []
  keep : Keep Non w wx
  lg : w.heap.size ≤ g
  lh : w.heap.size ≤ gh
  lb : w.heap.size ≤ bb
theorem newB_of {w wB : World} {gh bb : Nat} (row : Row wB 5 1 (.slice (some ⟨bb, 0, none⟩) 0 256) 0 []) (hash : Blk wB gh [.int .u64 7809847782465536322, .int .u64 7113472399480571277] 124) (k : Keep Non w wB) (lb : w.heap.size ≤ bb) (lh : w.heap.size ≤ gh) :
    NewB w (wB.alloc (.cells #[.map none, .slice none 0 0, .slice none 0 0, .bool false, .slice none 0 0, .slice (some ⟨bb, 0, none⟩) 0 256, .pointer (some ⟨gh, 0, none⟩), .int .u32 0, .int .u32 0, .int .u32 0, .bool false, .nilIface] 87)) wB.heap.size gh bb where
  blk := Blk.new wB ([.map none, .slice none 0 0, .slice none 0 0, .bool false] ++ brest (.slice none 0 0) (.slice (some ⟨bb, 0, none⟩) 0 256) gh 0 0 0) _
  hash := hash.alloc _
  row := row.alloc _
  keep := k.alloc _
  lg := k.size
  lh := lh
  lb := lb
/-- Behind New. -/
def NewPost (path name mod : ByteArray) (w : World) (e : Ending) (w' : World) : Prop :=
  ∃ g gh mb st tm bb, e = .returned (.tuple #[.pointer (some ⟨g, 0, none⟩), .nilIface]) ∧ Keep Non w w' ∧
    Bd (fun i => w.heap.size ≤ i) w' g gh mb st tm (.slice none 0 0) (.slice (some ⟨bb, 0, none⟩) 0 256) 0 [] (place tabA path) (place (tabB path) name) (place (tabC path name) mod) (tabN path name mod) (hashN path name mod) []
set_option maxRecDepth 100000 in
set_option maxHeartbeats 4000000 in
theorem newEmpty (name mod : ByteArray) (w : World) :
    Calls Tryd.prog 14 #[.string emp, .string name, .string mod] w fun e w' => ∃ t a, e = .returned (.tuple #[.pointer none, .iface t (.pointer (some a))]) ∧ Keep Non w w' := by
  unfold emp
  go_enter Tryd.func14, Tryd.ntmps14
  go_wp2_with fail
  refine (errorsNew _ _).mono ?_
  rintro e w1 ⟨t, a, rfl, k⟩
  go_wp2
  go_ret2
  exact ⟨t, a, rfl, k⟩
theorem makeB (W : World) : ∃ W', (Instr.makeSlice 31 (.int .i64 0) (.int .i64 256)).run Tryd.prog W = .ok (.slice (some ⟨W.heap.size, 0, none⟩) 0 256) W' ∧ Row W' 5 1 (.slice (some ⟨W.heap.size, 0, none⟩) 0 256) 0 [] ∧ Keep Non W W' := by
  obtain ⟨i, hi, hz, hsz, hb⟩ := info_parts sliceBytes.row
  obtain ⟨W', h1, h2, h3⟩ := run_make_own (P := Tryd.prog) W 0 31 5 i (.int .u8 0) 1 Tryd.underlying31 hi hz hsz .i64 .i64 256 (by rw [hb]; decide) (by decide) (Nat.zero_le _)
  exact ⟨W', h1, h2, (Keep.of_grown h3).mono (fun i _ e => by simp at e)⟩
set_option maxRecDepth 100000 in
set_option maxHeartbeats 8000000 in
theorem newBuilder (path name mod : ByteArray) (w : World) (hp : path ≠ emp) (h1 : path.size ≤ 1000) (h2 : name.size ≤ 1000) (h3 : mod.size ≤ 1000) :
    Calls Tryd.prog 14 #[.string path, .string name, .string mod] w (NewPost path name mod w) := by
  have hnb : path.toList.isEmpty = false := by
    rw [List.isEmpty_eq_false_iff]
    intro e
    apply hp
    apply Go.WideShapes.bytes_inj
    rw [Go.ByteArray.toList_eq] at e
    rw [e]; rfl
  obtain ⟨F, hF⟩ : ∃ F : World → World, F = fun W => Classical.choose (makeB W) := ⟨_, rfl⟩
  have hmk : ∀ W : World, (Instr.makeSlice 31 (.int .i64 0) (.int .i64 256)).run Tryd.prog W = .ok (.slice (some ⟨W.heap.size, 0, none⟩) 0 256) (F W) := fun W => by rw [hF]; exact (Classical.choose_spec (makeB W)).1
  have hmr : ∀ W : World, Row (F W) 5 1 (.slice (some ⟨W.heap.size, 0, none⟩) 0 256) 0 [] ∧ Keep Non W (F W) := fun W => by rw [hF]; exact (Classical.choose_spec (makeB W)).2
  have HMR := Lib.hid hmr
  clear hF hmr
  go_enter Tryd.func14, Tryd.ntmps14
  go_upto_region 3 with (fail)
  go_cut [8] from 12 to 15 (fun v wx => ∃ g gh bb, v = .pointer (some ⟨g, 0, none⟩) ∧ NewB w wx g gh bb)
  case first =>
    go_region_with (go_at_call 25; go_must (refine (newFnv _).mono ?_); rintro e w2 ⟨rfl, b2, k2⟩)
    all_goals
      go_wp2_with fail
      go_meet
      case rel =>
        first
        | exact ⟨_, _, _, rfl, newB_of ((HMR.out w.drew).1.keep k2 (fun _ _ h => h)) b2 (((HMR.out w.drew).2.undrew).trans k2 (fun _ _ h => h)) (Nat.le_refl _) (HMR.out w.drew).2.undrew.size⟩
        | exact ⟨_, _, _, rfl, newB_of (HMR.out w2).1 (b2.keep (HMR.out w2).2 (fun h => h)) (k2.undrew.trans (HMR.out w2).2 (fun _ _ h => h)) k2.undrew.size (Nat.le_refl _)⟩
  case rest =>
    obtain ⟨g, gh, bb, rfl, hN⟩ := hcut
    have HN := Lib.hid hN
    clear hN HMR hmk
    go_wp2_with fail
    refine (initWriter g _ _ wc HN.out.blk).mono ?_
    rintro e w1 ⟨rfl, mb, tm, t1, k1, l1, l2⟩
    obtain ⟨hh, hhe⟩ : ∃ hh, hh = hash0 := ⟨_, rfl⟩
    have hBB : bb < wc.heap.size := HN.out.row.lt rfl
    have hz := HN.out.keep.size
    have hkg := HN.out.blk.kd
    have B0 : Bd (fun i => w.heap.size ≤ i) w1 g gh mb (.slice none 0 0) tm (.slice none 0 0) (.slice (some ⟨bb, 0, none⟩) 0 256) 0 [] 0 0 0 [] hh [] := by
      subst hhe
      refine ⟨t1, HN.out.hash.keep k1 (fun e => kd_false HN.out.hash.kd (kd_at e hkg) (by decide)), by decide, by decide, HN.out.row.keep k1 (fun b hb e => kd_false (HN.out.row.kd hb) (kd_at e hkg) (by decide)), ⟨_, _, rfl⟩, Row.nil _ _ _, by simp, fun b hb e => ?_, by simp, fun i hi => ?_, fun i hi => ?_⟩
      · have := l2 b hb
        simp [Value.ownBlock] at e; omega
      · have a1 := HN.out.lg
        have a2 := HN.out.lh
        have a3 := HN.out.lb
        rcases hi with hi | rfl | hi | hi | ⟨e, he, hi⟩
        · rcases hi with rfl | rfl | hi | hi
          · exact a1
          · omega
          · simp [Value.ownBlock] at hi
          · have := l2 i hi; omega
        · exact a2
        · simp [Value.ownBlock] at hi
        · simp [Value.ownBlock] at hi; omega
        · simp at he
      · have := k1.size; omega
    have HB0 := Lib.hid B0
    have HK0 : Hid (Keep (fun i => w.heap.size ≤ i) w w1) := Lib.hid ((HN.out.keep.mono (fun _ _ h => h.elim)).trans k1 (fun i _ e => by have := HN.out.lg; have e : i = g := e; omega))
    have HHE := Lib.hid hhe
    have HPA := tabA_len
    have HPB := tabB_len path
    have HPC := tabC_len path name
    clear hBB hz hkg B0 t1 k1 l1 l2 hhe
    go_wp2_with fail
    refine (lookup g _ _ mb _ tm false [] emp w1 HB0.out.tab (by decide) (by decide) (by decide) (by decide) (.inl rfl)).mono ?_
    rintro e w2 ⟨st2, rfl, t2, k2, l2⟩
    obtain ⟨b2, q2⟩ := HB0.out.look t2 k2 l2
    have HB2 := Lib.hid b2
    have HK2 := Lib.hid (HK0.out.trans' q2)
    clear t2 k2 l2 b2 q2 HB0 HK0
    go_wp2_with fail
    refine (lookup g _ _ mb _ tm false tabA path w2 HB2.out.tab (by decide) (by decide) (by omega) h1 (.inl rfl)).mono ?_
    rintro e w3 ⟨st3, rfl, t3, k3, l3⟩
    obtain ⟨b3, q3⟩ := HB2.out.look t3 k3 l3
    have f7 := b3.tab.blk.free 7
    have x7 : w3.cell? ⟨g, 7, none⟩ = some (.int .u32 0) := b3.cell 3
    have hg3 := b3.tab.blk.lt
    have b4 : Bd (fun i => w.heap.size ≤ i) (w3.setCell ⟨g, 7, none⟩ (.int .u32 (place tabA path))) g gh mb st3 tm (.slice none 0 0) (.slice (some ⟨bb, 0, none⟩) 0 256) 0 [] (place tabA path) 0 0 (tabB path) hh [] := b3.setR 3 _ rfl
    have HB4 := Lib.hid b4
    have HK4 := Lib.hid ((HK2.out.trans' q3).setAt g 7 (.int .u32 (place tabA path)) HN.out.lg)
    clear t3 k3 l3 b3 q3 b4 HB2 HK2
    go_wp2_with fail
    refine (lookup g _ _ mb _ tm false (tabB path) name _ HB4.out.tab (by decide) (by decide) (by omega) h2 (.inl rfl)).mono ?_
    rintro e w5 ⟨st5, rfl, t5, k5, l5⟩
    obtain ⟨b5, q5⟩ := HB4.out.look t5 k5 l5
    have f8 := b5.tab.blk.free 8
    have x8 : w5.cell? ⟨g, 8, none⟩ = some (.int .u32 0) := b5.cell 4
    have hg5 := b5.tab.blk.lt
    have b6 : Bd (fun i => w.heap.size ≤ i) (w5.setCell ⟨g, 8, none⟩ (.int .u32 (place (tabB path) name))) g gh mb st5 tm (.slice none 0 0) (.slice (some ⟨bb, 0, none⟩) 0 256) 0 [] (place tabA path) (place (tabB path) name) 0 (tabC path name) hh [] := b5.setR 4 _ rfl
    have HB6 := Lib.hid b6
    have HK6 := Lib.hid ((HK4.out.trans' q5).setAt g 8 (.int .u32 (place (tabB path) name)) HN.out.lg)
    clear t5 k5 l5 b5 q5 b6 HB4 HK4 f7 hg3
    go_wp2_with fail
    refine (lookup g _ _ mb _ tm false (tabC path name) mod _ HB6.out.tab (by decide) (by decide) (by omega) h3 (.inl rfl)).mono ?_
    rintro e w7 ⟨st7, rfl, t7, k7, l7⟩
    obtain ⟨b7, q7⟩ := HB6.out.look t7 k7 l7
    have f9 := b7.tab.blk.free 9
    have x9 : w7.cell? ⟨g, 9, none⟩ = some (.int .u32 0) := b7.cell 5
    have hg7 := b7.tab.blk.lt
    have b8 : Bd (fun i => w.heap.size ≤ i) (w7.setCell ⟨g, 9, none⟩ (.int .u32 (place (tabC path name) mod))) g gh mb st7 tm (.slice none 0 0) (.slice (some ⟨bb, 0, none⟩) 0 256) 0 [] (place tabA path) (place (tabB path) name) (place (tabC path name) mod) (tabN path name mod) hh [] := b7.setR 5 _ rfl
    have x6 : w7.cell? ⟨g, 6, none⟩ = some (.pointer (some ⟨gh, 0, none⟩)) := b7.cell 2
    have HB8 := Lib.hid b8
    have HK8 := Lib.hid ((HK6.out.trans' q7).setAt g 9 (.int .u32 (place (tabC path name) mod)) HN.out.lg)
    clear t7 k7 l7 b7 q7 b8 HB6 HK6 f8 hg5
    have hz10 := HB8.out.hash.lt
    obtain ⟨W10, c10, hc10, kc10, rc10, zc10⟩ := conv (w7.setCell ⟨g, 9, none⟩ (.int .u32 (place (tabC path name) mod))) path
    have ez : (w7.setCell ⟨g, 9, none⟩ (.int .u32 (place (tabC path name) mod))).heap.size = w7.heap.size := by simp
    rw [ez] at hc10 rc10 zc10 hz10
    have b10 := HB8.out.far kc10
    have hl10 : path.data.toList.length = path.size := Array.length_toList
    go_wp2_with fail
    refine (fnvWrite gh _ _ _ path.data.toList _ b10.hash b10.l1 b10.l2 (by rw [hl10]; exact rc10) (by omega) (fun _ e => by simp [Value.ownBlock] at e; omega)).mono ?_
    rintro e V10 ⟨rfl, bb10, kk10⟩
    obtain ⟨b11, q11⟩ := b10.text kk10 bb10
    have HB11 := Lib.hid b11
    have HK11 := Lib.hid ((HK8.out.trans (kc10.mono (S' := fun i => w.heap.size ≤ i) (fun _ _ h => h.elim)) (fun _ _ h => h)).trans' q11)
    have x11 : V10.cell? ⟨g, 6, none⟩ = some (.pointer (some ⟨gh, 0, none⟩)) := b11.cell 2
    clear x6 x9 f9 hg7 ez hc10 kc10 rc10 zc10 b10 bb10 kk10 b11 q11 HB8 HK8 hz10 hl10
    obtain ⟨hh0, hhe0⟩ : ∃ z, z = fnvs hh path.data.toList := ⟨_, rfl⟩
    rw [← hhe0] at HB11
    have HHE0 := Lib.hid hhe0
    clear hhe0
    have hz12 := HB11.out.hash.lt
    obtain ⟨W12, c12, hc12, kc12, rc12, zc12⟩ := conv V10 name
    have b12 := HB11.out.far kc12
    have hl12 : name.data.toList.length = name.size := Array.length_toList
    go_wp2_with fail
    refine (fnvWrite gh _ _ _ name.data.toList _ b12.hash b12.l1 b12.l2 (by rw [hl12]; exact rc12) (by omega) (fun _ e => by simp [Value.ownBlock] at e; omega)).mono ?_
    rintro e V12 ⟨rfl, bb12, kk12⟩
    obtain ⟨b13, q13⟩ := b12.text kk12 bb12
    have HB13 := Lib.hid b13
    have HK13 := Lib.hid ((HK11.out.trans (kc12.mono (S' := fun i => w.heap.size ≤ i) (fun _ _ h => h.elim)) (fun _ _ h => h)).trans' q13)
    have x13 : V12.cell? ⟨g, 6, none⟩ = some (.pointer (some ⟨gh, 0, none⟩)) := b13.cell 2
    clear hc12 kc12 rc12 zc12 b12 bb12 kk12 b13 q13 HB11 HK11 hz12 hl12
    obtain ⟨hh1, hhe1⟩ : ∃ z, z = fnvs hh0 name.data.toList := ⟨_, rfl⟩
    rw [← hhe1] at HB13
    have HHE1 := Lib.hid hhe1
    clear hhe1
    have hz14 := HB13.out.hash.lt
    obtain ⟨W14, c14, hc14, kc14, rc14, zc14⟩ := conv V12 mod
    have b14 := HB13.out.far kc14
    have hl14 : mod.data.toList.length = mod.size := Array.length_toList
    go_wp2_with fail
    refine (fnvWrite gh _ _ _ mod.data.toList _ b14.hash b14.l1 b14.l2 (by rw [hl14]; exact rc14) (by omega) (fun _ e => by simp [Value.ownBlock] at e; omega)).mono ?_
    rintro e V14 ⟨rfl, bb14, kk14⟩
    obtain ⟨b15, q15⟩ := b14.text kk14 bb14
    have HB15 := Lib.hid b15
    have HK15 := Lib.hid ((HK13.out.trans (kc14.mono (S' := fun i => w.heap.size ≤ i) (fun _ _ h => h.elim)) (fun _ _ h => h)).trans' q15)
    have x15 : V14.cell? ⟨g, 6, none⟩ = some (.pointer (some ⟨gh, 0, none⟩)) := b15.cell 2
    clear hc14 kc14 rc14 zc14 b14 bb14 kk14 b15 q15 HB13 HK13 hz14 hl14
    go_wp2
    go_ret2
    refine ⟨g, gh, mb, st7, tm, bb, rfl, ?_, ?_⟩
    · exact HK15.out.mono (fun i hi e => by omega)
    · have := HB15.out
      rw [HHE1.out, HHE0.out, HHE.out] at this
      exact this
end Go.Proofs.YtbmidlaakbpnlaaDoor
