/-
  WHAT COMES IN: functions and segments, as they lie in memory.
-/
import Derived.Test.YtcpegoofbenoiaaGreatDoorZCg
import Derived.Test.YtcpegoofbenoiaaGreatDoorZCp
import Derived.Laws.EntriesVeiled
namespace Go.Proofs.YtcpegoofbenoiaaGreatDoor
open Go.RowKit
open Go.ChangeShapes Go.WideShapes Go.ChangeAt Go.Deep
open Plain (M64)

/-- A function's cells, its counters' slice beside it. -/
def fl3 (x : Fc × Value) : List Value := [.int .u32 x.1.pkg, .int .u32 x.1.fn, x.2]
theorem fl3_length (x : Fc × Value) : (fl3 x).length = 3 := rfl
/-- A slice of functions. -/
structure FR (w : World) (v : Value) (L : List (Fc × Value)) : Prop where
  reads : Reads w 3 v L.length (L.flatMap fl3)
  cs : ∀ x ∈ L, Reads w 1 x.2 x.1.cs.length (U32 x.1.cs)
theorem FR.keep {S : Nat → Prop} {w w' : World} {v : Value} {L : List (Fc × Value)} (h : FR w v L) (k : Keep S w w') (hv : ∀ b, v.ownBlock = some b → ¬ S b) (hu : ∀ x ∈ L, ∀ b, x.2.ownBlock = some b → ¬ S b) : FR w' v L :=
  ⟨h.reads.keep k hv, fun x hx => (h.cs x hx).keep k (hu x hx)⟩
theorem FR.far {w w' : World} {v : Value} {L : List (Fc × Value)} (h : FR w v L) (k : Keep Non w w') : FR w' v L := h.keep k (fun _ _ h => h) (fun _ _ _ _ h => h)
theorem three_at {w : World} {b off : Nat} {L : List (Fc × Value)} (h : ∀ j u, (L.flatMap fl3)[j]? = some u → w.cell? ⟨b, off + j, none⟩ = some u) {k : Nat} (hk : k < L.length) :
    w.cell? ⟨b, off + k * 3, none⟩ = some (.int .u32 L[k].1.pkg) ∧ w.cell? ⟨b, off + k * 3 + 1, none⟩ = some (.int .u32 L[k].1.fn) ∧ w.cell? ⟨b, off + k * 3 + 2, none⟩ = some L[k].2 := by
  simp only [Nat.add_assoc]
  refine ⟨h (k * 3) _ ?_, h (k * 3 + 1) _ ?_, h (k * 3 + 2) _ ?_⟩
  · have := flat_get fl3_length L k 0 hk (by decide)
    rw [Nat.add_zero] at this
    rw [this]; rfl
  · rw [flat_get fl3_length L k 1 hk (by decide)]; rfl
  · rw [flat_get fl3_length L k 2 hk (by decide)]; rfl
/-- A segment, its slices beside it. -/
structure SgV where
  args : List ByteArray
  os : ByteArray
  arch : ByteArray
  funs : List (Fc × Value)
  av : Value
  fv : Value
def SgV.sg (x : SgV) : Sg := ⟨x.args, x.os, x.arch, x.funs.map (·.1)⟩
def sl4 (x : SgV) : List Value := [x.av, .string x.os, .string x.arch, x.fv]
theorem sl4_length (x : SgV) : (sl4 x).length = 4 := rfl
structure SegR (w : World) (v : Value) (L : List SgV) : Prop where
  reads : Reads w 4 v L.length (L.flatMap sl4)
  args : ∀ x ∈ L, Reads w 1 x.av x.args.length (Ts x.args)
  funs : ∀ x ∈ L, FR w x.fv x.funs
theorem SegR.far {w w' : World} {v : Value} {L : List SgV} (h : SegR w v L) (k : Keep Non w w') : SegR w' v L :=
  ⟨h.reads.keep k (fun _ _ h => h), fun x hx => (h.args x hx).keep k (fun _ _ h => h), fun x hx => (h.funs x hx).far k⟩
theorem seg_at {w : World} {b off : Nat} {L : List SgV} (h : ∀ j u, (L.flatMap sl4)[j]? = some u → w.cell? ⟨b, off + j, none⟩ = some u) {k : Nat} (hk : k < L.length) :
    w.cell? ⟨b, off + k * 4, none⟩ = some L[k].av ∧ w.cell? ⟨b, off + k * 4 + 1, none⟩ = some (.string L[k].os) ∧ w.cell? ⟨b, off + k * 4 + 2, none⟩ = some (.string L[k].arch) ∧ w.cell? ⟨b, off + k * 4 + 3, none⟩ = some L[k].fv := by
  simp only [Nat.add_assoc]
  refine ⟨h (k * 4) _ ?_, h (k * 4 + 1) _ ?_, h (k * 4 + 2) _ ?_, h (k * 4 + 3) _ ?_⟩
  · have := flat_get sl4_length L k 0 hk (by decide)
    rw [Nat.add_zero] at this
    rw [this]; rfl
  · rw [flat_get sl4_length L k 1 hk (by decide)]; rfl
  · rw [flat_get sl4_length L k 2 hk (by decide)]; rfl
  · rw [flat_get sl4_length L k 3 hk (by decide)]; rfl
end Go.Proofs.YtcpegoofbenoiaaGreatDoor
/-
  CONTRACT: the counters of functions are written, one behind the other.
-/
namespace Go.Proofs.YtcpegoofbenoiaaGreatDoor
open Go.RowKit
open Go.ChangeShapes Go.WideShapes Go.ChangeAt Go.Deep
open Plain (M64)

/-- The closure that writes a function's counters. -/
def emFn (ba bf : Nat) : Value := .func (.func 71) #[] #[.pointer (some ⟨ba, 0, none⟩), .pointer (some ⟨bf, 0, none⟩)]
theorem fcB_len (packed : Bool) (f : Fc) (h1 : f.pkg < 4294967296) (h2 : f.fn < 4294967296) (h3 : ∀ v ∈ f.cs, v < 4294967296) (h4 : f.cs.length ≤ 12) : (fcB packed f).length ≤ 75 := by
  have a1 := numB_len packed (v := f.cs.length) (by omega)
  have a2 := numB_len packed h1
  have a3 := numB_len packed h2
  have a4 := nums_len packed f.cs h3
  simp only [fcB, List.length_append]
  omega
theorem fcsB_snoc (packed : Bool) {l : List Fc} {k : Nat} (h : k < l.length) : fcsB packed (l.take (k + 1)) = fcsB packed (l.take k) ++ fcB packed l[k] := by
  rw [fcsB, List.take_succ_eq_append_getElem h, List.flatMap_append]; simp [fcsB]
theorem fcsB_len (packed : Bool) : ∀ (l : List Fc), (∀ f ∈ l, 1 ≤ f.cs.length ∧ f.cs.length ≤ 12) → (∀ f ∈ l, f.pkg < 4294967296 ∧ f.fn < 4294967296 ∧ ∀ v ∈ f.cs, v < 4294967296) → (fcsB packed l).length ≤ 75 * l.length
  | [], _, _ => by simp [fcsB]
  | f :: l, h1, h2 => by
    obtain ⟨a1, a2, a3⟩ := h2 f List.mem_cons_self
    have b1 := fcB_len packed f a1 a2 a3 (h1 f List.mem_cons_self).2
    have b2 := fcsB_len packed l (fun x hx => h1 x (List.mem_cons_of_mem _ hx)) (fun x hx => h2 x (List.mem_cons_of_mem _ hx))
    rw [fcsB, List.flatMap_cons, List.length_append, List.length_cons]
    rw [fcsB] at b2
    omega
def VisPost (Q : Nat → Prop) (gc : Nat) (gs : Value) (gb st al fl segs gw : Nat) (bs' : List UInt8) (fe' bc bx : Nat) (w : World) (e : Ending) (w' : World) : Prop :=
  ∃ tm' pv', e = .returned .nilIface ∧ PC w' gc gs gb fe' st al tm' fl segs gw pv' bs' bc bx ∧ Keep Q w w' ∧ ∀ i, PCF gc gw bx tm' pv' i → Q i
set_option maxRecDepth 100000 in
set_option maxHeartbeats 8000000 in
theorem visitT (packed : Bool) (Q : Nat → Prop) (fs : List (Fc × Value)) (fv : Value) (gc : Nat) (gs : Value) (gb fe st al : Nat) (tm : Value) (fl segs gw : Nat) (pv : Value) (bs : List UInt8) (ba bc bx bw bf : Nat) (w : World) (h : PC w gc gs gb fe st al tm fl segs gw pv bs bc bx) (hfl : fl = if packed then 2 else 1) (hbl : bs.length ≤ 100000) (hfe : fe ≤ 100000)
    (hb : Bxs w gc gw ba bc bw bf) (hQ : ∀ i, PCF gc gw bx tm pv i → Q i) (hQn : ∀ i, w.heap.size ≤ i → Q i) (hF : ∀ w', Keep Q w w' → FR w' fv fs) (hn : fs.length ≤ 8) (h1 : ∀ x ∈ fs, 1 ≤ x.1.cs.length ∧ x.1.cs.length ≤ 12) (h2 : ∀ x ∈ fs, x.1.pkg < 4294967296 ∧ x.1.fn < 4294967296 ∧ ∀ v ∈ x.1.cs, v < 4294967296) :
    Calls Tryz.prog 156 #[.agg #[fv], emFn ba bf] w (VisPost Q gc gs gb st al fl segs gw (bs ++ fcsB packed (fs.map (·.1))) (fe + fs.length) bc bx w) := by
  obtain ⟨fa, fc, rfl⟩ := (hF w (Keep.refl _ _)).reads.slice
  have hpc := h.far ((Keep.refl Non w).alloc (.cells #[.slice fa fs.length fc] 65))
  have hbb := hb.far ((Keep.refl Non w).alloc (.cells #[.slice fa fs.length fc] 65))
  have hk : Keep Q w (w.alloc (.cells #[.slice fa fs.length fc] 65)) := (Keep.refl _ _).alloc _
  have HP0 := Lib.hid hpc
  have HB0 := Lib.hid hbb
  have HK0 := Lib.hid hk
  have HQ0 := Lib.hid hQ
  have HQN := Lib.hid hQn
  have HF := Lib.hid hF
  have H1 := Lib.hid h1
  have H2 := Lib.hid h2
  clear h hb hpc hbb hk hQ hQn hF h1 h2
  unfold emFn
  go_enter Tryz.func156, Tryz.ntmps156
  go_wp2_with fail
  go_loopw [11] (fun i wr => ∃ (k : Nat) (tm' pv' : Value), k ≤ fs.length ∧ i = .int .i64 k ∧ PC wr gc gs gb (fe + k) st al tm' fl segs gw pv' (bs ++ fcsB packed ((fs.map (·.1)).take k)) bc bx ∧ Bxs wr gc gw ba bc bw bf ∧ Keep Q w wr ∧ (∀ i, PCF gc gw bx tm' pv' i → Q i)) (fun i _ => fs.length - (intOf i).toNat)
  case atStart => exact ⟨0, tm, pv, by omega, rfl, by simpa [fcsB] using HP0.out, HB0.out, HK0.out, HQ0.out⟩
  case round =>
    obtain ⟨k, tm', pv', hk, rfl, p, b, kp, q⟩ := hrel
    have HP := Lib.hid p
    have HBb := Lib.hid b
    have HK := Lib.hid kp
    have HQ' := Lib.hid q
    clear p b kp q
    by_cases hlt : k < fs.length
    · obtain ⟨b3, o3, c3, hv3, hc3⟩ := (HF.out wr HK.out).reads.at (by omega) (by decide)
      cases hv3
      obtain ⟨d0, d1, d2⟩ := three_at hc3 hlt
      have HC := Lib.hid ((HF.out wr HK.out).cs fs[k] (List.getElem_mem hlt))
      have hx1 := H1.out _ (List.getElem_mem hlt)
      have hx2 := H2.out _ (List.getElem_mem hlt)
      have hfb := fcsB_len packed ((fs.map (·.1)).take k) (fun f hf => by
        obtain ⟨x, hx, rfl⟩ := List.mem_map.1 (List.mem_of_mem_take hf); exact H1.out x hx) (fun f hf => by
        obtain ⟨x, hx, rfl⟩ := List.mem_map.1 (List.mem_of_mem_take hf); exact H2.out x hx)
      rw [List.length_take, List.length_map, Nat.min_eq_left hk] at hfb
      have hget : fs[k].1 = (fs.map (·.1))[k]'(by simpa using hlt) := by simp
      have HX2 := Lib.hid hx2
      have HGET := Lib.hid hget
      clear hc3 hget hx2
      generalize fs[k] = x at *
      obtain ⟨f, cv⟩ := x
      simp only at *
      obtain ⟨ca, cc, rfl⟩ := HC.out.slice
      go_upto_region 4 with (fail)
      obtain ⟨W2, hW2⟩ : ∃ W, W = wr.alloc (.cells #[.int .u32 f.pkg, .int .u32 f.fn, .slice ca f.cs.length cc] 82) := ⟨_, rfl⟩
      have k2 : Keep Non wr W2 := by rw [hW2]; exact (Keep.refl _ _).alloc _
      have hb2 : Blk W2 wr.heap.size [.int .u32 f.pkg, .int .u32 f.fn, .slice ca f.cs.length cc] 82 := by rw [hW2]; exact Blk.new wr [.int .u32 f.pkg, .int .u32 f.fn, .slice ca f.cs.length cc] _
      have HK2 := Lib.hid k2
      have HV2 := Lib.hid hb2
      have HP2 := Lib.hid (HP.out.far k2)
      have HB2 := Lib.hid (HBb.out.far k2)
      have HC2 := Lib.hid (HC.out.keep k2 (fun _ _ h => h))
      have hsz : Hid (wr.heap.size < W2.heap.size) := Lib.hid hb2.lt
      rw [← hW2]
      clear hW2 k2 hb2 d0 d1 d2
      obtain ⟨gv, hgv⟩ : ∃ g, g = wr.heap.size := ⟨_, rfl⟩
      rw [← hgv] at HV2 hsz ⊢
      have HGV := Lib.hid hgv
      clear hgv
      have z0 : W2.cell? ⟨gv, 0, none⟩ = some (.int .u32 f.pkg) := by rw [HV2.out.cell]; rfl
      have z1 : W2.cell? ⟨gv, 1, none⟩ = some (.int .u32 f.fn) := by rw [HV2.out.cell]; rfl
      have z2 : W2.cell? ⟨gv, 2, none⟩ = some (.slice ca f.cs.length cc) := by rw [HV2.out.cell]; rfl
      have hm : 0 < f.cs.length := by omega
      have h63 : 0 + f.cs.length ≤ maxLen := by unfold maxLen; omega
      have h64 : (0 + f.cs.length) * 4 ≤ 140737488355328 := by omega
      have hlen5 : Hid ((bs ++ fcsB packed ((fs.map (·.1)).take k)).length ≤ 1000000) := Lib.hid (by rw [List.length_append]; omega)
      go_region_held3 (fun w' => w'.cell? ⟨gv, 0, none⟩ = some (.int .u32 f.pkg) ∧ w'.cell? ⟨gv, 1, none⟩ = some (.int .u32 f.fn) ∧ w'.cell? ⟨gv, 2, none⟩ = some (.slice ca f.cs.length cc))
        (first
          | exact ⟨z0, z1, z2⟩
          | exact ⟨k6.out.cell (kk.out.cell z0 (fun h => h)) o6.out, k6.out.cell (kk.out.cell z1 (fun h => h)) o6.out, k6.out.cell (kk.out.cell z2 (fun h => h)) o6.out⟩
          | exact ⟨kk.out.cell z0 (fun h => h), kk.out.cell z1 (fun h => h), kk.out.cell z2 (fun h => h)⟩
          | go_keep)
        (first
          | (refine step_app (n := 0) (xs := []) (m := f.cs.length) (news := U32 f.cs) sliceU32 rfl _ _ rfl rfl (Row.lit W2.drew 36 1 [] 0 (by decide) rfl) rfl (HC2.out.drew.alloc (.cells #[] 36)) hm (U32_one _) h63 h64 ?_; intro v5 w5 r5 g5; rw [Nat.zero_add, List.nil_append] at r5; obtain ⟨va, vc, rfl⟩ := r5.reads.slice; have R5 := Lib.hid r5; have kk := Lib.hid (Keep.trans (S := Non) ((Keep.refl Non W2).drew.alloc (.cells #[] 36)) g5.keep (fun i hi e => by simp [Own, Value.ownBlock, Act.eval] at e; omega)); clear r5 g5)
          | (go_at_call 71; refine (emitT packed f _ gc gs gb (fe + k) st al tm' fl segs gw pv' _ ba bc bx bw bf _ (HP2.out.far kk.out) hfl hlen5.out (by omega) (HB2.out.far kk.out) R5.out HX2.out.1 HX2.out.2.1 HX2.out.2.2 (by omega)).mono ?_; rintro e w6 ⟨tm6, pv6, rfl, p6, k6', l6, m6⟩; have o6 := Lib.hid ((HP2.out.far kk.out).off (HV2.out.keep kk.out (fun h => h)) (by decide) (by decide) (by decide)); have P6 := Lib.hid p6; have B6 := Lib.hid ((HB2.out.far kk.out).step (HP2.out.far kk.out) k6'); have k6 := Lib.hid k6'; have L6 := Lib.hid l6; have M6 := Lib.hid m6; clear p6 k6' l6 m6))
      all_goals
        go_wp2_with fail
        go_roundw
        case measure => simp [intOf]; omega
        case rel =>
          have kN := HK2.out.trans' kk.out
          have kQ : Keep Q wr w6 := (kN.mono (fun _ _ h => h.elim)).trans k6.out (fun i _ e => HQ'.out i e)
          refine ⟨k + 1, tm6, pv6, by omega, by go_num, ?_, B6.out, HK.out.trans' kQ, fun i hi => ?_⟩
          · rw [fcsB_snoc packed (by simpa using hlt), ← HGET.out, ← List.append_assoc, ← Nat.add_assoc]
            exact P6.out
          · have hsz2 := kN.size
            have hsz3 := HK.out.size
            rcases hi with (e | e | e | e) | e
            · exact HQ'.out i (.inl (.inl e))
            · rcases L6.out i e with e | e
              · exact HQ'.out i (.inl (.inr (.inl e)))
              · exact HQN.out i (by omega)
            · exact HQ'.out i (.inl (.inr (.inr (.inl e))))
            · rcases M6.out i e with e | e
              · exact HQ'.out i (.inl (.inr (.inr (.inr e))))
              · exact HQN.out i (by omega)
            · exact HQ'.out i (.inr e)
    · obtain rfl : k = fs.length := by omega
      go_wp2_with fail
      go_ret
      refine ⟨tm', pv', rfl, ?_, HK.out, HQ'.out⟩
      have := HP.out
      rw [List.take_of_length_le (by simp)] at this
      exact this
end Go.Proofs.YtcpegoofbenoiaaGreatDoor
/-
  CONTRACT: writeCounters.
-/
namespace Go.Proofs.YtcpegoofbenoiaaGreatDoor
open Go.RowKit
open Go.ChangeShapes Go.WideShapes Go.ChangeAt Go.Deep
open Plain (M64)

theorem aheadVisit (v : Value) (w : World) : (nilAhead 344 65 (.agg #[v]) "VisitFuncs").run Tryz.prog w = .ok (some false) w := by kernel_rfl
theorem methodVisit (v : Value) (w : World) : (method 344 65 (.agg #[v]) "VisitFuncs").run Tryz.prog w = .ok (156, .agg #[v]) w := by kernel_rfl
def WcPost (Q : Nat → Prop) (gc : Nat) (gs : Value) (gb st al fl segs gw : Nat) (bs' : List UInt8) (fe' : Nat) (w : World) (e : Ending) (w' : World) : Prop :=
  ∃ tm' pv', e = .returned .nilIface ∧ PB w' gc gs gb fe' st al tm' fl segs gw pv' bs' ∧ Keep Q w w' ∧ ∀ i, TWF gc gw tm' pv' i → Q i
set_option maxRecDepth 100000 in
set_option maxHeartbeats 8000000 in
theorem writeCountersT (packed : Bool) (Q : Nat → Prop) (fs : List (Fc × Value)) (fv : Value) (gc : Nat) (gs : Value) (gb fe st al : Nat) (tm : Value) (fl segs gw : Nat) (pv : Value) (bs : List UInt8) (w : World) (h : PB w gc gs gb fe st al tm fl segs gw pv bs) (hfl : fl = if packed then 2 else 1) (hbl : bs.length ≤ 100000) (hfe : fe ≤ 100000)
    (hQ : ∀ i, TWF gc gw tm pv i → Q i) (hQn : ∀ i, w.heap.size ≤ i → Q i) (hF : ∀ w', Keep Q w w' → FR w' fv fs) (hn : fs.length ≤ 8) (h1 : ∀ x ∈ fs, 1 ≤ x.1.cs.length ∧ x.1.cs.length ≤ 12) (h2 : ∀ x ∈ fs, x.1.pkg < 4294967296 ∧ x.1.fn < 4294967296 ∧ ∀ v ∈ x.1.cs, v < 4294967296) :
    Calls Tryz.prog 40 #[.pointer (some ⟨gc, 0, none⟩), .iface 65 (.agg #[fv]), .pointer (some ⟨gw, 0, none⟩)] w (WcPost Q gc gs gb st al fl segs gw (bs ++ fcsB packed (fs.map (·.1))) (fe + fs.length) w) := by
  obtain ⟨fa, fc, rfl⟩ := (hF w (Keep.refl _ _)).reads.slice
  have hlt := h.lt
  obtain ⟨W1, hW1⟩ : ∃ W, W = (w.alloc (.cells #[.pointer (some ⟨gc, 0, none⟩)] 57)).alloc (.cells #[.pointer (some ⟨gw, 0, none⟩)] 54) := ⟨_, rfl⟩
  have s1 : W1.heap.size = w.heap.size + 1 + 1 := by rw [hW1]; simp
  have k1 : Keep Non w W1 := by rw [hW1]; exact ((Keep.refl _ _).alloc _).alloc _
  have a1 : Blk W1 w.heap.size [.pointer (some ⟨gc, 0, none⟩)] 57 := by rw [hW1]; exact (Blk.new w [.pointer (some ⟨gc, 0, none⟩)] _).alloc _
  have b1 : Blk W1 (w.heap.size + 1) [.pointer (some ⟨gw, 0, none⟩)] 54 := by
    have := Blk.new (w.alloc (.cells #[.pointer (some ⟨gc, 0, none⟩)] 57)) [.pointer (some ⟨gw, 0, none⟩)] 54
    rw [hW1]
    simpa using this
  have x0 : W1.cell? ⟨w.heap.size, 0, none⟩ = some (.pointer (some ⟨gc, 0, none⟩)) := by rw [a1.cell]; rfl
  have hmk : ∀ W, (Instr.makeSlice 33 (.int .i64 4) (.int .i64 4)).run Tryz.prog W = _ := fun W => run_make_row' (P := Tryz.prog) 33 5 (.int .u8 0) 1 Tryz.underlying33 (by kernel_rfl) rfl .i64 .i64 4 (by omega) (by omega) W
  have hna := aheadVisit
  have hme := methodVisit
  have H := Lib.hid h
  have HQ := Lib.hid hQ
  have HQN := Lib.hid hQn
  have HF := Lib.hid hF
  have H1 := Lib.hid h1
  have H2 := Lib.hid h2
  have HK1 := Lib.hid k1
  have HA1 := Lib.hid a1
  have HS1 := Lib.hid b1
  have HZ1 := Lib.hid s1
  have HLT := Lib.hid hlt
  clear h hQ hQn hF h1 h2 k1 a1 b1 s1 hlt
  go_enter Tryz.func40, Tryz.ntmps40
  go_upto_region 1 with (fail)
  rw [← hW1]
  clear hW1
  go_upto_region 4 with (fail)
  have hm : madeCells #[.int .u8 0] 4 = (B (List.replicate 4 0)).toArray := by
    apply Array.ext'
    rw [toList_madeCells_one]
    simp [B]
  rw [hm]
  obtain ⟨W4, hW4⟩ : ∃ W, W = ((W1.alloc (.cells (B (List.replicate 4 0)).toArray 5)).alloc (.cells #[.slice (some ⟨W1.heap.size, 0, none⟩) 4 4] 33)).alloc (.cells #[wrFn w.heap.size (W1.heap.size + 1) (w.heap.size + 1)] 148) := ⟨_, rfl⟩
  have k4 : Keep Non W1 W4 := by rw [hW4]; exact (((Keep.refl _ _).alloc _).alloc _).alloc _
  have r4 : Row W4 5 1 (.slice (some ⟨W1.heap.size, 0, none⟩) 4 4) 4 (B (List.replicate 4 0)) := by
    rw [hW4]
    exact ((Row.lit W1 5 1 (B (List.replicate 4 0)) 4 (by decide) (by simp [B])).alloc _).alloc _
  have c4 : Blk W4 (W1.heap.size + 1) [.slice (some ⟨W1.heap.size, 0, none⟩) 4 4] 33 := by
    have := (Blk.new (W1.alloc (.cells (B (List.replicate 4 0)).toArray 5)) [.slice (some ⟨W1.heap.size, 0, none⟩) 4 4] 33).alloc (.cells #[wrFn w.heap.size (W1.heap.size + 1) (w.heap.size + 1)] 148)
    rw [hW4]
    simpa using this
  have f4 : Blk W4 (W1.heap.size + 1 + 1) [wrFn w.heap.size (W1.heap.size + 1) (w.heap.size + 1)] 148 := by
    have := Blk.new ((W1.alloc (.cells (B (List.replicate 4 0)).toArray 5)).alloc (.cells #[.slice (some ⟨W1.heap.size, 0, none⟩) 4 4] 33)) [wrFn w.heap.size (W1.heap.size + 1) (w.heap.size + 1)] 148
    rw [hW4]
    simpa using this
  have k0 := HK1.out.trans' k4
  have hz := HZ1.out
  have hp : PC W4 gc gs gb fe st al tm fl segs gw pv bs (W1.heap.size + 1) W1.heap.size := ⟨H.out.far k0, c4, ⟨_, r4⟩, fun e => by have := HLT.out _ (.inr (.inl e)); omega, fun e => by have := HLT.out _ (.inr (.inr (.inr e))); omega⟩
  have hb : Bxs W4 gc gw w.heap.size (W1.heap.size + 1) (w.heap.size + 1) (W1.heap.size + 1 + 1) := ⟨HA1.out.keep k4 (fun h => h), HS1.out.keep k4 (fun h => h), f4⟩
  have hq : ∀ i, PCF gc gw W1.heap.size tm pv i → Q i := by
    rintro i (e | e)
    · exact HQ.out i e
    · exact HQN.out i (by omega)
  have hqn : ∀ i, W4.heap.size ≤ i → Q i := fun i hi => HQN.out i (by have := k0.size; omega)
  have kQ : Keep Q w W4 := k0.mono (fun _ _ h => h.elim)
  have HP := Lib.hid hp
  have HB := Lib.hid hb
  have HQ4 := Lib.hid hq
  have HQN4 := Lib.hid hqn
  have HKQ := Lib.hid kQ
  clear k4 r4 c4 f4 k0 hp hb hq hqn kQ hz
  unfold wrFn at hW4
  rw [← hW4]
  clear hW4 hm hmk
  go_wp2_with (go_at_call 156; refine (visitT packed Q fs _ gc gs gb fe st al tm fl segs gw pv bs w.heap.size (W1.heap.size + 1) W1.heap.size (w.heap.size + 1) (W1.heap.size + 1 + 1) W4 HP.out hfl hbl hfe HB.out HQ4.out HQN4.out (fun w' k' => HF.out w' (HKQ.out.trans' k')) hn H1.out H2.out).mono ?_; rintro e w5 ⟨tm5, pv5, rfl, p5, k5, q5⟩)
  go_ret
  exact ⟨tm5, pv5, rfl, p5.pb, HKQ.out.trans' k5, fun i hi => q5 i (.inl hi)⟩
end Go.Proofs.YtcpegoofbenoiaaGreatDoor
