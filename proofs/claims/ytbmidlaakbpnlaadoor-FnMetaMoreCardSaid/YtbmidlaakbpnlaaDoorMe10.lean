/-
  THE CONTRACT of a builder's Emit.
-/
import Derived.Test.YtbmidlaakbpnlaaDoorMe9
import Derived.Test.YtbmidlaakbpnlaaDoorKf
import Derived.Deep.MidRow
namespace Go.Proofs.YtbmidlaakbpnlaaDoor
open Go.RowKit
open Go.ChangeShapes Go.WideShapes Go.ChangeAt Go.Deep
open Plain (M64)

section
variable {Q : Nat → Prop} {w w' : World} {g gh mb gw : Nat} {st tm fv bt pv : Value} {n pos : Nat} {xs : List Value} {p q m : Nat} {all : List ByteArray} {h : Nat × Nat} {E : List (Value × List UInt8)} {bs : List UInt8}
theorem EW.narrow {Q' : Nat → Prop} (H : EW Q w g gh mb st tm fv bt n xs p q m all h E gw pv pos bs) (hq : ∀ i, i < w.heap.size → Q i → Q' i) (hf : ∀ i, w.heap.size ≤ i → Q' i) : EW Q' w g gh mb st tm fv bt n xs p q m all h E gw pv pos bs :=
  ⟨H.bd.narrow (fun i hi => hq i (H.bd.lt hi) (H.bd.ok i hi)) hf, H.wr, H.sep, hq gw H.wr.blk.lt H.qg, fun b hb => hq b (H.wr.row.lt hb) (H.qp b hb)⟩
end
theorem EW.keepQ {Q : Nat → Prop} {S : Nat → Prop} {w w' : World} {g gh mb gw : Nat} {st tm fv bt pv : Value} {n pos : Nat} {xs : List Value} {p q m : Nat} {all : List ByteArray} {h : Nat × Nat} {E : List (Value × List UInt8)} {bs : List UInt8} (H : EW Q w g gh mb st tm fv bt n xs p q m all h E gw pv pos bs) (k : Keep S w w') (hs : ∀ i, Q i → ¬ S i) : EW Q w' g gh mb st tm fv bt n xs p q m all h E gw pv pos bs :=
  ⟨H.bd.keep k (fun i hi => hs i (H.bd.ok i hi)), ⟨H.wr.blk.keep k (hs gw H.qg), H.wr.row.keep k (fun b hb => hs b (H.qp b hb)), H.wr.le⟩, H.sep, H.qg, H.qp⟩
set_option maxHeartbeats 2000000 in
theorem head_fold (p q m nf nn : Nat) (dg : List UInt8) (hd : dg.length = 16) : List.foldl (fun cs x => cs.setIfInBounds (4 + x.snd) x.fst) #[Value.int .u32 0, .int .u32 q, .int .u32 p, .int .u32 m, .int .u8 0, .int .u8 0, .int .u8 0, .int .u8 0, .int .u8 0, .int .u8 0, .int .u8 0, .int .u8 0, .int .u8 0, .int .u8 0, .int .u8 0, .int .u8 0, .int .u8 0, .int .u8 0, .int .u8 0, .int .u8 0, .int .u8 0, .int .u8 0, .int .u8 0, .int .u8 0, .int .u32 nf, .int .u32 nn] (B dg).zipIdx = (hcells 0 p q m dg nf nn).toArray := by
  obtain ⟨a0, a1, a2, a3, a4, a5, a6, a7, a8, a9, a10, a11, a12, a13, a14, a15, rfl⟩ := sixteen hd
  simp [hcells, B, List.zipIdx]
theorem hcells_length (len p q m nf nn : Nat) (dg : List UInt8) (hd : dg.length = 16) : (hcells len p q m dg nf nn).length = 26 := by simp [hcells, B_length, hd]
theorem hcells_one (len p q m nf nn : Nat) (dg : List UInt8) : ∀ v ∈ hcells len p q m dg nf nn, v.oneCell' = true := by
  intro v hv
  simp only [hcells, List.mem_append] at hv
  rcases hv with (hv | hv) | hv
  · simp at hv
    rcases hv with rfl | rfl | rfl | rfl <;> rfl
  · exact B_one _ v hv
  · simp at hv
    rcases hv with rfl | rfl | rfl <;> rfl
theorem head_store (W : World) (p q m nf nn : Nat) (dg : List UInt8) (hd : dg.length = 16) :
    ∃ V, (Instr.storeAt 100 (.pointer (some ⟨W.heap.size, 0, none⟩)) (.agg (hcells 0 p q m dg nf nn).toArray)).run Tryd.prog (W.alloc (.cells #[.int .u32 0, .int .u32 0, .int .u32 0, .int .u32 0, .int .u8 0, .int .u8 0, .int .u8 0, .int .u8 0, .int .u8 0, .int .u8 0, .int .u8 0, .int .u8 0, .int .u8 0, .int .u8 0, .int .u8 0, .int .u8 0, .int .u8 0, .int .u8 0, .int .u8 0, .int .u8 0, .int .u8 0, .int .u8 0, .int .u8 0, .int .u8 0, .int .u32 0, .int .u32 0] 100)).drew = .ok () V ∧ Blk V W.heap.size (hcells 0 p q m dg nf nn) 100 ∧ Keep Non W V := by
  have hb := (Blk.new W [.int .u32 0, .int .u32 0, .int .u32 0, .int .u32 0, .int .u8 0, .int .u8 0, .int .u8 0, .int .u8 0, .int .u8 0, .int .u8 0, .int .u8 0, .int .u8 0, .int .u8 0, .int .u8 0, .int .u8 0, .int .u8 0, .int .u8 0, .int .u8 0, .int .u8 0, .int .u8 0, .int .u8 0, .int .u8 0, .int .u8 0, .int .u8 0, .int .u32 0, .int .u32 0] 100).drew
  have hl := hcells_length 0 p q m nf nn dg hd
  have hs := run_storeVar_row (P := Tryd.prog) _ W.heap.size _ 100 _ (hcells 0 p q m dg nf nn).toArray hb (by rw [List.size_toArray, hl]; kernel_rfl) (by simp [hl]) (all_oneCell_toArray (hcells_one _ _ _ _ _ _ _))
  refine ⟨_, by simp only [Instr.storeAt, Instr.sureAddr, Sem.run_bind, Sem.run_pure, Result.andThen_ok, hs]; rfl, ?_, ?_⟩
  · have := setRow_heap _ W.heap.size _ (hcells 0 p q m dg nf nn).toArray 100 (0, 0) hb
    exact this
  · exact ((Keep.refl _ _).alloc _).drew.trans (Keep.setRow _ _ _) (fun i hi e => by have e : i = W.heap.size := e; omega)
theorem apartB : Apart 87 := ⟨by decide, by decide, by decide, by decide, by decide⟩
def zeros16 : List Value := List.replicate 16 (.int .u8 0)
theorem methodSeek (a : Addr) (w : World) : (method 270 64 (.pointer (some a)) "Seek").run Tryd.prog w = .ok (78, .pointer (some a)) w := by kernel_rfl
def Seek0Post (Q : Nat → Prop) (g gh mb : Nat) (st tm fv bt : Value) (n : Nat) (xs : List Value) (p q m : Nat) (all : List ByteArray) (h : Nat × Nat) (E : List (Value × List UInt8)) (gw : Nat) (pv : Value) (bs : List UInt8) (w : World) (e : Ending) (w' : World) : Prop :=
  e = .returned (.tuple #[.int .i64 0, .nilIface]) ∧ EW Q w' g gh mb st tm fv bt n xs p q m all h E gw pv 0 bs ∧ Keep Q w w'
theorem EW.seek0 {Q : Nat → Prop} {w : World} {g gh mb gw : Nat} {st tm fv bt pv : Value} {n pos : Nat} {xs : List Value} {p q m : Nat} {all : List ByteArray} {h : Nat × Nat} {E : List (Value × List UInt8)} {bs : List UInt8} (H : EW Q w g gh mb st tm fv bt n xs p q m all h E gw pv pos bs) (hbl : bs.length ≤ 4000000000) :
    Calls Tryd.prog 78 #[.pointer (some ⟨gw, 0, none⟩), .int .i64 0, .int .i64 0] w (Seek0Post Q g gh mb st tm fv bt n xs p q m all h E gw pv bs w) := by
  obtain ⟨pa, pc, rfl⟩ := H.wr.row.reads.slice
  refine (wseek pa pc bs.length gw pos 0 0 w (by decide) H.wr.blk hbl H.wr.le (by decide) (by decide)).mono ?_
  rintro e w' ⟨at', r, rfl, hr, hb, k, hat⟩
  have h0 : (0 : Int) ≤ seekTo 0 pos bs.length 0 ∧ seekTo 0 pos bs.length 0 ≤ bs.length := by simp [seekTo]
  rw [if_pos h0] at hb
  rw [decide_eq_true h0] at hr
  have hr : r = .nilIface := hr
  have ha := hat h0
  subst hr
  subst ha
  have hg := H.bd.keep k (fun i hi e => H.ngw (by rw [← show i = gw from e]; exact hi))
  refine ⟨by simp [seekTo], ⟨hg, ⟨by simpa [seekTo] using hb, H.wr.row.keep k (fun b hb e => H.wr.ne (by rw [hb]; exact congrArg some e)), Nat.zero_le _⟩, H.sep, H.qg, H.qp⟩, k.mono (fun i _ e => by rw [show i = gw from e]; exact H.qg)⟩
theorem dig_store (g : Nat) (dg : List UInt8) (W : World) (hb : Blk W g zeros16 67) (hd : dg.length = 16) :
    ∃ V, (Instr.storeAt 67 (.pointer (some ⟨g, 0, none⟩)) (.agg (B dg).toArray)).run Tryd.prog W = .ok () V ∧ Blk V g (B dg) 67 ∧ Keep (At g) W V := by
  have hl : (B dg).length = 16 := by rw [B_length, hd]
  have hs := run_storeVar_row (P := Tryd.prog) _ g _ 67 _ (B dg).toArray hb (by rw [List.size_toArray, hl]; kernel_rfl) (by simp [hl, zeros16]) (all_oneCell_toArray (B_one _))
  refine ⟨_, by simp only [Instr.storeAt, Instr.sureAddr, Sem.run_bind, Sem.run_pure, Result.andThen_ok, hs]; rfl, ?_, Keep.setRow _ _ _⟩
  have := setRow_heap _ g _ (B dg).toArray 67 (0, 0) hb
  exact this
theorem dig_results (g : Nat) (dg : List UInt8) {fn : Func} {t u : Tmp} (h : fn.results = #[.cell t 67, .tmp u]) {tmps : Array Value} {W : World} (hb : Blk W g (B dg) 67) (hd : dg.length = 16) {uv : Value} (ht : tmps[t]?.getD undef = .pointer (some ⟨g, 0, none⟩)) (hu : tmps[u]?.getD undef = uv) :
    (results fn tmps).run Tryd.prog W = .ok (.tuple #[.agg (B dg).toArray, uv]) W := by
  have hl := run_loadVar_mid (P := Tryd.prog) W g 0 67 (B dg) (.array 16 5) hb.range (by kernel_rfl) rfl (by rw [B_length, hd]; kernel_rfl)
  simp [results, h, ht, hu, hl, asAddr]
/-- Behind Emit. -/
def EmitPost (Q : Nat → Prop) (p q m : Nat) (s : Ms) (gw : Nat) (w : World) (e : Ending) (w' : World) : Prop :=
  ∃ dv pv', e = .returned (.tuple #[dv, .nilIface]) ∧ Wr w' gw pv' 4 (mbytes s (mtotal s) p q m) ∧ Keep Q w w'
set_option maxRecDepth 100000 in
set_option maxHeartbeats 8000000 in
theorem emit (Q0 : Nat → Prop) (g gh mb : Nat) (st tm fv : Value) (bb n c : Nat) (xs : List Value) (p q m : Nat) (all : List ByteArray) (h : Nat × Nat) (E : List (Value × List UInt8)) (gw : Nat) (pv : Value) (w : World)
    (H0 : EW Q0 w g gh mb st tm fv (.slice (some ⟨bb, 0, none⟩) n c) n xs p q m all h E gw pv 0 []) (hc : 4 ≤ c) (hp : p ≤ 1000) (hq : q ≤ 1000) (hm : m ≤ 1000) (hal : all.length ≤ 900) (hEl : E.length ≤ 100) (hle : ∀ e ∈ E, e.2.length ≤ 60000) :
    Calls Tryd.prog 16 #[.pointer (some ⟨g, 0, none⟩), .iface 64 (.pointer (some ⟨gw, 0, none⟩))] w (EmitPost Q0 p q m ⟨all, h, E.map (·.2)⟩ gw w) := by
  -- the two local arrays
  obtain ⟨W1, hW1⟩ : ∃ W1, W1 = w.alloc (.cells #[.int .u8 0, .int .u8 0, .int .u8 0, .int .u8 0, .int .u8 0, .int .u8 0, .int .u8 0, .int .u8 0, .int .u8 0, .int .u8 0, .int .u8 0, .int .u8 0, .int .u8 0, .int .u8 0, .int .u8 0, .int .u8 0] 67) := ⟨_, rfl⟩
  obtain ⟨W2, hW2⟩ : ∃ W2, W2 = W1.alloc (.cells #[.int .u8 0, .int .u8 0, .int .u8 0, .int .u8 0, .int .u8 0, .int .u8 0, .int .u8 0, .int .u8 0, .int .u8 0, .int .u8 0, .int .u8 0, .int .u8 0, .int .u8 0, .int .u8 0, .int .u8 0, .int .u8 0] 67) := ⟨_, rfl⟩
  have z1 : W1.heap.size = w.heap.size + 1 := by rw [hW1]; simp
  have z2 : W2.heap.size = w.heap.size + 2 := by rw [hW2]; simp [z1]
  have b1 : Blk W1 w.heap.size zeros16 67 := by rw [hW1]; exact Blk.new w zeros16 _
  have b2 : Blk W2 (w.heap.size + 1) zeros16 67 := by
    have := Blk.new W1 zeros16 67
    rw [z1] at this
    rw [hW2]; exact this
  have b1' : Blk W2 w.heap.size zeros16 67 := by rw [hW2]; exact b1.alloc _
  have kW : Keep Non w W2 := by rw [hW2, hW1]; exact ((Keep.refl _ _).alloc _).alloc _
  obtain ⟨Q, hQ⟩ : ∃ Q : Nat → Prop, Q = fun i => Q0 i ∧ i ≠ w.heap.size ∧ i ≠ w.heap.size + 1 := ⟨_, rfl⟩
  have H2 : EW Q W2 g gh mb st tm fv (.slice (some ⟨bb, 0, none⟩) n c) n xs p q m all h E gw pv 0 [] := by
    have hn := (H0.narrow (Q' := fun i => Q0 i ∧ i ≠ w.heap.size ∧ i ≠ w.heap.size + 1 ∨ W2.heap.size ≤ i ∨ w.heap.size ≤ i ∧ i < W2.heap.size) (fun i hi hq => .inl ⟨hq, by omega, by omega⟩) (fun i hi => by omega)).far kW
    refine ⟨?_, hn.wr, hn.sep, ?_, fun b hb => ?_⟩
    · refine hn.bd.narrow (fun i hi => ?_) (fun i hi => ?_)
      · have hl := H0.bd.lt hi
        rw [hQ]
        exact ⟨H0.bd.ok i hi, by omega, by omega⟩
      · rw [hQ]
        exact ⟨H0.bd.fresh i (by omega), by omega, by omega⟩
    · have hl := H0.wr.blk.lt
      rw [hQ]
      exact ⟨H0.qg, by omega, by omega⟩
    · have hl := H0.wr.row.lt hb
      rw [hQ]
      exact ⟨H0.qp b hb, by omega, by omega⟩
  have HQ1 : Hid (∀ i, Q i → Q0 i) := Lib.hid (fun i hi => by rw [hQ] at hi; exact hi.1)
  have HQ2 : Hid (¬ Q w.heap.size) := Lib.hid (fun hi => by rw [hQ] at hi; exact hi.2.1 rfl)
  have HQ3 : Hid (¬ Q (w.heap.size + 1)) := Lib.hid (fun hi => by rw [hQ] at hi; exact hi.2.2 rfl)
  have HH2 := Lib.hid H2
  have HB1 := Lib.hid b1'
  have HB2 := Lib.hid b2
  have HKW := Lib.hid kW
  have HLE := Lib.hid hle
  have HZ2 := Lib.hid z2
  have y6 : W2.cell? ⟨g, 6, none⟩ = some (.pointer (some ⟨gh, 0, none⟩)) := H2.bd.cell 2
  have hgz := H2.bd.tab.blk.lt
  rw [hW2, hW1] at y6 hgz
  clear H0 H2 hle hQ z1 z2 b1 b2 b1' kW
  go_enter Tryd.func16, Tryd.ntmps16
  go_upto_region 2 with (fail)
  rw [← hW1, ← hW2] at y6 hgz
  rw [← hW1, ← hW2]
  clear hW1 hW2
  have HG2 : Hid (g ≠ w.heap.size + 1) := Lib.hid (fun e => HQ3.out (by rw [← e]; exact HH2.out.bd.ok g (.inl (.inl rfl))))
  obtain ⟨dg, hdg⟩ : ∃ dg, dg = digest h := ⟨_, rfl⟩
  have hdl : dg.length = 16 := by rw [hdg]; exact digest_length h
  have HDG := Lib.hid hdg
  have HDL := Lib.hid hdl
  clear hdl hdg
  go_cut [] from 17 to 23 (fun wx => Blk wx (w.heap.size + 1) (B dg) 67 ∧ Keep (At (w.heap.size + 1)) W2 wx)
  case first =>
    go_region_held3 (fun w' => w'.cell? ⟨g, 6, none⟩ = some (.pointer (some ⟨gh, 0, none⟩)))
      (first
        | go_keep
        | (exact k4.cell (k3.cell y6 (fun h => h)) (fun e => HG2.out e))
        | (exact k3.cell y6 (fun h => h)))
      (first
        | (go_at_call 32; refine (fnvSum gh h _ HH2.out.bd.hash.drew).mono ?_; rintro e w3 ⟨sv, rfl, r3, k3, l3⟩; obtain ⟨sg, sc, rfl⟩ := r3.at (by decide))
        | (refine step_cp (n := 16) (T := 67) (cur := zeros16) Tryd.underlying31 (by kernel_rfl) rfl _ _ rfl rfl rfl (HB2.out.keep k3.undrew (fun h => h)) r3.reads (by decide) (by decide) (B_one _) ?_; intro w4 b4 k4))
    all_goals
      go_wp2_with fail
      go_meet
      case rel =>
        refine ⟨?_, ?_⟩
        · have : splice zeros16 0 ((B (digest h)).take (min 16 16)) = B dg := by
            rw [HDG.out, List.take_of_length_le (by rw [B_length, digest_length]; decide), splice, B_length, digest_length]
            simp [zeros16]
          rw [this] at b4
          exact b4
        · exact (k3.undrew.mono (fun _ _ h => h.elim)).trans k4 (fun _ _ e => e)
  case rest => 
    obtain ⟨b3, k3⟩ := hcut
    obtain ⟨W3, rfl⟩ : ∃ W3, W3 = wc := ⟨_, rfl⟩
    have h3 := HH2.out.keepQ k3 (fun i hi e => HQ3.out (by rw [← show i = w.heap.size + 1 from e]; exact hi))
    have b1 := HB1.out.keep k3 (fun e => by have e : w.heap.size = w.heap.size + 1 := e; omega)
    have hK3 : Keep (At (w.heap.size + 1)) W2 W3 := k3
    obtain ⟨fa, fc, hfv⟩ := h3.bd.fns.reads.slice
    subst hfv
    have y7 : W3.cell? ⟨g, 7, none⟩ = some (.int .u32 p) := h3.bd.cell 3
    have y8 : W3.cell? ⟨g, 8, none⟩ = some (.int .u32 q) := h3.bd.cell 4
    have y9 : W3.cell? ⟨g, 9, none⟩ = some (.int .u32 m) := h3.bd.cell 5
    have y4 : W3.cell? ⟨g, 4, none⟩ = some (.slice fa E.length fc) := h3.bd.cell 0
    have hgz3 := h3.bd.tab.blk.lt
    have HR := Lib.hid b3.range
    have H3 := Lib.hid h3
    have B1 := Lib.hid b1
    have B3 := Lib.hid b3
    have HK3 := Lib.hid hK3
    clear h3 b1 b3 hK3 k3 y6 hgz HB1 HB2 HH2
    have hn2z : w.heap.size + 1 < W3.heap.size := B3.out.lt
    have hu16 : Tryd.prog.underlying 67 = some (.array 16 5) := by kernel_rfl
    have hi16 : (Tryd.prog.info? 67).map (·.size) = some 16 := by kernel_rfl
    have hwE : IntKind.u32.wrap (E.length : Int) = (E.length : Int) := by simp [IntKind.wrap, IntKind.bits, IntKind.signed]; omega
    have hrg : W3.rangeAt (w.heap.size + 1) 0 (B dg) := HR.out
    have hsz16 : (Tryd.prog.info? 67).map (·.size) = some (B dg).length := by rw [B_length, HDL.out]; exact hi16
    have hra : ∀ o, ((W3.alloc o).drew).rangeAt (w.heap.size + 1) 0 (B dg) := fun o => range_keep hrg ((Keep.refl Non W3).alloc _).drew (fun h => h)
    have hBl : (B dg).length = 16 := by rw [B_length, HDL.out]
    have hfold := head_fold p q m all.length E.length dg HDL.out
    obtain ⟨V, hst, hVb, hVk⟩ := head_store W3 p q m all.length E.length dg HDL.out
    have HVB := Lib.hid hVb
    have HRG := Lib.hid hrg
    generalize (hcells 0 p q m dg all.length E.length).toArray = A at hfold hst
    clear hVb hi16
    go_upto_region 3 with (fail)
    go_cut [7] from 24 to 47 (fun v wx => v = .pointer (some ⟨W3.heap.size, 0, none⟩) ∧ Blk wx W3.heap.size (hcells 0 p q m dg all.length E.length) 100 ∧ Keep Non W3 wx)
    case first =>
      -- BEGIN GEN
      refine wp_region_noPanic ?_
      refine wp_region_held_drew (S := fun w' => w'.cell? ⟨g, 7, none⟩ = some (.int .u32 p) ∧ w'.cell? ⟨g, 8, none⟩ = some (.int .u32 q) ∧ w'.cell? ⟨g, 9, none⟩ = some (.int .u32 m) ∧ w'.cell? ⟨g, 4, none⟩ = some (.slice fa E.length fc) ∧ w'.rangeAt (w.heap.size + 1) 0 (B dg)) (by kernel_rfl) ⟨((Keep.refl Non W3).drew).cell y7 (fun h => h), ((Keep.refl Non W3).drew).cell y8 (fun h => h), ((Keep.refl Non W3).drew).cell y9 (fun h => h), ((Keep.refl Non W3).drew).cell y4 (fun h => h), range_keep hrg ((Keep.refl Non W3).drew) (fun h => h)⟩ (fun hHeld => ?_)
      refine wpAnyH_take (i := 0) (oi := _) (v := ?zv1) (by simp only [List.getElem?_toArray, List.getElem?_cons_zero]; rfl) (by kernel_rfl) (by kernel_rfl) (by kernel_rfl) (fun _ _ _ h => h) (Or.inl ⟨by rfl, ?zy1⟩) (by assumption) ?zr1
      case zy1 => (intro wz hSw; (try dsimp only at hSw); go_simp <;> with_reducible rfl)
      try simp only [Act.put, List.setIfInBounds_toArray, List.set_cons_zero, List.set_cons_succ]
      refine wpAnyH_take (i := 1) (oi := _) (v := ?zv2) (by simp only [List.getElem?_toArray, List.getElem?_cons_succ, List.getElem?_cons_zero]; rfl) (by kernel_rfl) (by kernel_rfl) (by kernel_rfl) (fun _ _ _ h => h) (Or.inl ⟨by rfl, ?zy2⟩) (by assumption) ?zr2
      case zy2 => (intro wz hSw; (try dsimp only at hSw); go_simp <;> with_reducible rfl)
      try simp only [Act.put, List.setIfInBounds_toArray, List.set_cons_zero, List.set_cons_succ]
      refine wpAnyH_take (i := 2) (oi := _) (v := ?zv3) (by simp only [List.getElem?_toArray, List.getElem?_cons_succ, List.getElem?_cons_zero]; rfl) (by kernel_rfl) (by kernel_rfl) (by kernel_rfl) (fun _ _ _ h => h) (Or.inl ⟨by rfl, ?zy3⟩) (by assumption) ?zr3
      case zy3 => (intro wz hSw; (try dsimp only at hSw); go_simp <;> with_reducible rfl)
      try simp only [Act.put, List.setIfInBounds_toArray, List.set_cons_zero, List.set_cons_succ]
      refine wpAnyH_take (i := 3) (oi := _) (v := ?zv4) (by simp only [List.getElem?_toArray, List.getElem?_cons_succ, List.getElem?_cons_zero]; rfl) (by kernel_rfl) (by kernel_rfl) (by kernel_rfl) (fun _ _ _ h => h) (Or.inl ⟨by rfl, ?zy4⟩) (by assumption) ?zr4
      case zy4 => (intro wz hSw; (try dsimp only at hSw); go_simp <;> with_reducible rfl)
      try simp only [Act.put, List.setIfInBounds_toArray, List.set_cons_zero, List.set_cons_succ]
      refine wpAnyH_take (i := 4) (oi := _) (v := ?zv5) (by simp only [List.getElem?_toArray, List.getElem?_cons_succ, List.getElem?_cons_zero]; rfl) (by kernel_rfl) (by kernel_rfl) (by kernel_rfl) (fun _ _ _ h => h) (Or.inl ⟨by rfl, ?zy5⟩) (by assumption) ?zr5
      case zy5 => (intro wz hSw; (try dsimp only at hSw); go_simp <;> with_reducible rfl)
      try simp only [Act.put, List.setIfInBounds_toArray, List.set_cons_zero, List.set_cons_succ]
      refine wpAnyH_take (i := 5) (oi := _) (v := ?zv6) (by simp only [List.getElem?_toArray, List.getElem?_cons_succ, List.getElem?_cons_zero]; rfl) (by kernel_rfl) (by kernel_rfl) (by kernel_rfl) (fun _ _ _ h => h) (Or.inl ⟨by rfl, ?zy6⟩) (by assumption) ?zr6
      case zy6 => (intro wz hSw; (try dsimp only at hSw); go_simp <;> with_reducible rfl)
      try simp only [Act.put, List.setIfInBounds_toArray, List.set_cons_zero, List.set_cons_succ]
      refine wpAnyH_take (i := 6) (oi := _) (v := ?zv7) (by simp only [List.getElem?_toArray, List.getElem?_cons_succ, List.getElem?_cons_zero]; rfl) (by kernel_rfl) (by kernel_rfl) (by kernel_rfl) (fun _ _ _ h => h) (Or.inl ⟨by rfl, ?zy7⟩) (by assumption) ?zr7
      case zy7 => (intro wz hSw; (try dsimp only at hSw); go_simp <;> with_reducible rfl)
      try simp only [Act.put, List.setIfInBounds_toArray, List.set_cons_zero, List.set_cons_succ]
      refine wpAnyH_take (i := 7) (oi := _) (v := ?zv8) (by simp only [List.getElem?_toArray, List.getElem?_cons_succ, List.getElem?_cons_zero]; rfl) (by kernel_rfl) (by kernel_rfl) (by kernel_rfl) (fun _ _ _ h => h) (Or.inl ⟨by rfl, ?zy8⟩) (by assumption) ?zr8
      case zy8 => (intro wz hSw; (try dsimp only at hSw); go_simp <;> with_reducible rfl)
      try simp only [Act.put, List.setIfInBounds_toArray, List.set_cons_zero, List.set_cons_succ]
      refine wpAnyH_take (i := 8) (oi := _) (v := ?zv9) (by simp only [List.getElem?_toArray, List.getElem?_cons_succ, List.getElem?_cons_zero]; rfl) (by kernel_rfl) (by kernel_rfl) (by kernel_rfl) (fun _ _ _ h => h) (Or.inl ⟨by rfl, ?zy9⟩) (by assumption) ?zr9
      case zy9 => (intro wz hSw; (try dsimp only at hSw); go_simp <;> with_reducible rfl)
      try simp only [Act.put, List.setIfInBounds_toArray, List.set_cons_zero, List.set_cons_succ]
      refine wpAnyH_take (i := 9) (oi := _) (v := ?zv10) (by simp only [List.getElem?_toArray, List.getElem?_cons_succ, List.getElem?_cons_zero]; rfl) (by kernel_rfl) (by kernel_rfl) (by kernel_rfl) (fun _ _ _ h => h) (Or.inl ⟨by rfl, ?zy10⟩) (by assumption) ?zr10
      case zy10 => (intro wz hSw; (try dsimp only at hSw); go_simp <;> with_reducible rfl)
      try simp only [Act.put, List.setIfInBounds_toArray, List.set_cons_zero, List.set_cons_succ]
      refine wpAnyH_take (i := 10) (oi := _) (v := ?zv11) (by simp only [List.getElem?_toArray, List.getElem?_cons_succ, List.getElem?_cons_zero]; rfl) (by kernel_rfl) (by kernel_rfl) (by kernel_rfl) (fun _ _ _ h => h) (Or.inl ⟨by rfl, ?zy11⟩) (by assumption) ?zr11
      case zy11 => (intro wz hSw; (try dsimp only at hSw); go_simp <;> with_reducible rfl)
      try simp only [Act.put, List.setIfInBounds_toArray, List.set_cons_zero, List.set_cons_succ]
      refine wpAnyH_take (i := 11) (oi := _) (v := ?zv12) (by simp only [List.getElem?_toArray, List.getElem?_cons_succ, List.getElem?_cons_zero]; rfl) (by kernel_rfl) (by kernel_rfl) (by kernel_rfl) (fun _ _ _ h => h) (Or.inl ⟨by rfl, ?zy12⟩) (by assumption) ?zr12
      case zy12 => (intro wz hSw; (try dsimp only at hSw); go_simp <;> with_reducible rfl)
      try simp only [Act.put, List.setIfInBounds_toArray, List.set_cons_zero, List.set_cons_succ]
      refine wpAnyH_take (i := 12) (oi := _) (v := ?zv13) (by simp only [List.getElem?_toArray, List.getElem?_cons_succ, List.getElem?_cons_zero]; rfl) (by kernel_rfl) (by kernel_rfl) (by kernel_rfl) (fun _ _ _ h => h) (Or.inl ⟨by rfl, ?zy13⟩) (by assumption) ?zr13
      case zy13 => (intro wz hSw; (try dsimp only at hSw); go_simp <;> with_reducible rfl)
      try simp only [Act.put, List.setIfInBounds_toArray, List.set_cons_zero, List.set_cons_succ]
      refine wpAnyH_take (i := 13) (oi := _) (v := ?zv14) (by simp only [List.getElem?_toArray, List.getElem?_cons_succ, List.getElem?_cons_zero]; rfl) (by kernel_rfl) (by kernel_rfl) (by kernel_rfl) (fun _ _ _ h => h) (Or.inl ⟨by rfl, ?zy14⟩) (by assumption) ?zr14
      case zy14 => (intro wz hSw; (try dsimp only at hSw); go_simp <;> with_reducible rfl)
      try simp only [Act.put, List.setIfInBounds_toArray, List.set_cons_zero, List.set_cons_succ]
      refine wpAnyH_take (i := 14) (oi := _) (v := ?zv15) (by simp only [List.getElem?_toArray, List.getElem?_cons_succ, List.getElem?_cons_zero]; rfl) (by kernel_rfl) (by kernel_rfl) (by kernel_rfl) (fun _ _ _ h => h) (Or.inl ⟨by rfl, ?zy15⟩) (by assumption) ?zr15
      case zy15 => (intro wz hSw; (try dsimp only at hSw); go_simp <;> with_reducible rfl)
      try simp only [Act.put, List.setIfInBounds_toArray, List.set_cons_zero, List.set_cons_succ]
      refine wpAnyH_take (i := 16) (oi := _) (v := ?zv16) (by simp only [List.getElem?_toArray, List.getElem?_cons_succ, List.getElem?_cons_zero]; rfl) (by kernel_rfl) (by kernel_rfl) (by kernel_rfl) (fun _ _ _ h => h) (Or.inl ⟨by rfl, ?zy16⟩) (by assumption) ?zr16
      case zy16 => (intro wz hSw; (try dsimp only at hSw); go_simp <;> with_reducible rfl)
      try simp only [Act.put, List.setIfInBounds_toArray, List.set_cons_zero, List.set_cons_succ]
      refine wpAnyH_take (i := 17) (oi := _) (v := ?zv17) (by simp only [List.getElem?_toArray, List.getElem?_cons_succ, List.getElem?_cons_zero]; rfl) (by kernel_rfl) (by kernel_rfl) (by kernel_rfl) (fun _ _ _ h => h) (Or.inl ⟨by rfl, ?zy17⟩) (by assumption) ?zr17
      case zy17 => (intro wz hSw; (try dsimp only at hSw); go_simp <;> with_reducible rfl)
      try simp only [Act.put, List.setIfInBounds_toArray, List.set_cons_zero, List.set_cons_succ]
      refine wpAnyH_take (i := 18) (oi := _) (v := ?zv18) (by simp only [List.getElem?_toArray, List.getElem?_cons_succ, List.getElem?_cons_zero]; rfl) (by kernel_rfl) (by kernel_rfl) (by kernel_rfl) (fun _ _ _ h => h) (Or.inl ⟨by rfl, ?zy18⟩) (by assumption) ?zr18
      case zy18 => (intro wz hSw; (try dsimp only at hSw); go_simp <;> with_reducible rfl)
      try simp only [Act.put, List.setIfInBounds_toArray, List.set_cons_zero, List.set_cons_succ]
      refine wpAnyH_take (i := 19) (oi := _) (v := ?zv19) (by simp only [List.getElem?_toArray, List.getElem?_cons_succ, List.getElem?_cons_zero]; rfl) (by kernel_rfl) (by kernel_rfl) (by kernel_rfl) (fun _ _ _ h => h) (Or.inl ⟨by rfl, ?zy19⟩) (by assumption) ?zr19
      case zy19 => (intro wz hSw; (try dsimp only at hSw); go_simp <;> with_reducible rfl)
      try simp only [Act.put, List.setIfInBounds_toArray, List.set_cons_zero, List.set_cons_succ]
      refine wpAnyH_take (i := 20) (oi := _) (v := ?zv20) (by simp only [List.getElem?_toArray, List.getElem?_cons_succ, List.getElem?_cons_zero]; rfl) (by kernel_rfl) (by kernel_rfl) (by kernel_rfl) (fun _ _ _ h => h) (Or.inl ⟨by rfl, ?zy20⟩) (by assumption) ?zr20
      case zy20 => (intro wz hSw; (try dsimp only at hSw); go_simp <;> with_reducible rfl)
      try simp only [Act.put, List.setIfInBounds_toArray, List.set_cons_zero, List.set_cons_succ]
      refine wpAnyH_take (i := 21) (oi := _) (v := ?zv21) (by simp only [List.getElem?_toArray, List.getElem?_cons_succ, List.getElem?_cons_zero]; rfl) (by kernel_rfl) (by kernel_rfl) (by kernel_rfl) (fun _ _ _ h => h) (Or.inl ⟨by rfl, ?zy21⟩) (by assumption) ?zr21
      case zy21 => (intro wz hSw; (try dsimp only at hSw); go_simp <;> with_reducible rfl)
      try simp only [Act.put, List.setIfInBounds_toArray, List.set_cons_zero, List.set_cons_succ]
      refine wpAnyH_take (i := 22) (oi := _) (v := _) (by simp only [List.getElem?_toArray, List.getElem?_cons_succ, List.getElem?_cons_zero]; rfl) (by kernel_rfl) (by kernel_rfl) (by kernel_rfl) (fun _ _ _ h => h) (yieldsIf_load_mid (by rfl) _ _ rfl _ _ rfl (B dg) _ (fun w h => h.2.2.2.2) hu16 rfl hsz16) (by assumption) ?_
      try simp only [Act.put, List.setIfInBounds_toArray, List.set_cons_zero, List.set_cons_succ]
      refine wpAnyH_ready (rs := [15, 24]) (by kernel_rfl) (by simp) ?_
      refine AllReadyH.cons (o := _) (by simp only [List.getElem?_toArray, List.getElem?_cons_succ, List.getElem?_cons_zero]; rfl) (fun K hK => ?_) ?_
      · go_simp
        go_at_call 33
        refine (nentries g _ _ mb st tm false all _ (H3.out.bd.tab.far (by first | exact (Keep.refl _ _).drew | exact (Keep.refl _ _).drew.alloc _)) (by omega)).mono ?_
        rintro e w3 ⟨rfl, rfl⟩
        go_simp
        refine hK.out _ _ ⟨((Keep.refl Non W3).drew).cell y7 (fun h => h), ((Keep.refl Non W3).drew).cell y8 (fun h => h), ((Keep.refl Non W3).drew).cell y9 (fun h => h), ((Keep.refl Non W3).drew).cell y4 (fun h => h), range_keep hrg ((Keep.refl Non W3).drew) (fun h => h)⟩ (fun hHeld => ?_)
        clear hK K
        try simp only [Act.put, List.setIfInBounds_toArray, List.set_cons_zero, List.set_cons_succ]
        refine wpAnyH_take (i := 23) (oi := _) (v := ?zv22) (by simp only [List.getElem?_toArray, List.getElem?_cons_succ, List.getElem?_cons_zero]; rfl) (by kernel_rfl) (by kernel_rfl) (by kernel_rfl) (fun _ _ _ h => h) (Or.inl ⟨by rfl, ?zy22⟩) (by assumption) ?zr22
        case zy22 => (intro wz hSw; (try dsimp only at hSw); go_simp <;> with_reducible rfl)
        try simp only [Act.put, List.setIfInBounds_toArray, List.set_cons_zero, List.set_cons_succ]
        refine wpAnyH_ready (rs := [24]) (by kernel_rfl) (by simp) ?_
        refine AllReadyH.cons (o := _) (by simp only [List.getElem?_toArray, List.getElem?_cons_succ, List.getElem?_cons_zero]; rfl) (fun K hK => ?_) ?_
        · go_simp
          refine hK.out _ _ ⟨(((Keep.refl Non W3).alloc _).drew).cell y7 (fun h => h), (((Keep.refl Non W3).alloc _).drew).cell y8 (fun h => h), (((Keep.refl Non W3).alloc _).drew).cell y9 (fun h => h), (((Keep.refl Non W3).alloc _).drew).cell y4 (fun h => h), range_keep hrg (((Keep.refl Non W3).alloc _).drew) (fun h => h)⟩ (fun hHeld => ?_)
          clear hK K
          try simp only [Act.put, List.setIfInBounds_toArray, List.set_cons_zero, List.set_cons_succ]
          refine wpAnyH_ready (rs := [25]) (by kernel_rfl) (by simp) ?_
          refine AllReadyH.cons (o := _) (by simp only [List.getElem?_toArray, List.getElem?_cons_succ, List.getElem?_cons_zero]; rfl) (fun K hK => ?_) ?_
          · rw [if_pos (by rfl)]
            refine wp_store_any _ _ _ rfl rfl rfl hst ?_
            refine hK.out _ _ ⟨hVk.cell y7 (fun h => h), hVk.cell y8 (fun h => h), hVk.cell y9 (fun h => h), hVk.cell y4 (fun h => h), range_keep hrg hVk (fun h => h)⟩ (fun hHeld => ?_)
            clear hK K
            refine wpAnyH_done (by kernel_rfl) ?_ _
            refine NoPanic.normal ?_
            go_wp2_with fail
            go_meet
            case rel => exact ⟨rfl, HVB.out, hVk⟩
          · exact AllReadyH.nil
        · exact AllReadyH.nil
      · refine AllReadyH.cons (o := _) (by simp only [List.getElem?_toArray, List.getElem?_cons_succ, List.getElem?_cons_zero]; rfl) (fun K hK => ?_) ?_
        · go_simp
          refine hK.out _ _ ⟨(((Keep.refl Non W3).alloc _).drew).cell y7 (fun h => h), (((Keep.refl Non W3).alloc _).drew).cell y8 (fun h => h), (((Keep.refl Non W3).alloc _).drew).cell y9 (fun h => h), (((Keep.refl Non W3).alloc _).drew).cell y4 (fun h => h), range_keep hrg (((Keep.refl Non W3).alloc _).drew) (fun h => h)⟩ (fun hHeld => ?_)
          clear hK K
          try simp only [Act.put, List.setIfInBounds_toArray, List.set_cons_zero, List.set_cons_succ]
          refine wpAnyH_ready (rs := [15]) (by kernel_rfl) (by simp) ?_
          refine AllReadyH.cons (o := _) (by simp only [List.getElem?_toArray, List.getElem?_cons_succ, List.getElem?_cons_zero]; rfl) (fun K hK => ?_) ?_
          · go_simp
            go_at_call 33
            refine (nentries g _ _ mb st tm false all _ (H3.out.bd.tab.far ((Keep.refl _ _).alloc _).drew) (by omega)).mono ?_
            rintro e w3 ⟨rfl, rfl⟩
            go_simp
            refine hK.out _ _ ⟨(((Keep.refl Non W3).alloc _).drew).cell y7 (fun h => h), (((Keep.refl Non W3).alloc _).drew).cell y8 (fun h => h), (((Keep.refl Non W3).alloc _).drew).cell y9 (fun h => h), (((Keep.refl Non W3).alloc _).drew).cell y4 (fun h => h), range_keep hrg (((Keep.refl Non W3).alloc _).drew) (fun h => h)⟩ (fun hHeld => ?_)
            clear hK K
            try simp only [Act.put, List.setIfInBounds_toArray, List.set_cons_zero, List.set_cons_succ]
            refine wpAnyH_take (i := 23) (oi := _) (v := ?zv23) (by simp only [List.getElem?_toArray, List.getElem?_cons_succ, List.getElem?_cons_zero]; rfl) (by kernel_rfl) (by kernel_rfl) (by kernel_rfl) (fun _ _ _ h => h) (Or.inl ⟨by rfl, ?zy23⟩) (by assumption) ?zr23
            case zy23 => (intro wz hSw; (try dsimp only at hSw); go_simp <;> with_reducible rfl)
            try simp only [Act.put, List.setIfInBounds_toArray, List.set_cons_zero, List.set_cons_succ]
            refine wpAnyH_ready (rs := [25]) (by kernel_rfl) (by simp) ?_
            refine AllReadyH.cons (o := _) (by simp only [List.getElem?_toArray, List.getElem?_cons_succ, List.getElem?_cons_zero]; rfl) (fun K hK => ?_) ?_
            · rw [if_pos (by rfl)]
              refine wp_store_any _ _ _ rfl rfl rfl hst ?_
              refine hK.out _ _ ⟨hVk.cell y7 (fun h => h), hVk.cell y8 (fun h => h), hVk.cell y9 (fun h => h), hVk.cell y4 (fun h => h), range_keep hrg hVk (fun h => h)⟩ (fun hHeld => ?_)
              clear hK K
              refine wpAnyH_done (by kernel_rfl) ?_ _
              refine NoPanic.normal ?_
              go_wp2_with fail
              go_meet
              case rel => exact ⟨rfl, HVB.out, hVk⟩
            · exact AllReadyH.nil
          · exact AllReadyH.nil
        · exact AllReadyH.nil
      -- END GEN
    case rest =>
      obtain ⟨rfl, b4, k4⟩ := hcut
      obtain ⟨W4, rfl⟩ : ∃ W4, W4 = wc := ⟨_, rfl⟩
      obtain ⟨N3, hN3⟩ : ∃ N3, N3 = W3.heap.size := ⟨_, rfl⟩
      rw [← hN3] at b4 ⊢
      have h4 := H3.out.far k4
      have B1' := Lib.hid (B1.out.keep k4 (fun h => h))
      have B3' := Lib.hid (B3.out.keep k4 (fun h => h))
      have H4 := Lib.hid h4
      have B4 := Lib.hid b4
      have HK4 := Lib.hid k4
      have hsz26 : (Tryd.prog.info? 100).map (·.size) = some (hcells 0 p q m dg all.length E.length).length := by rw [hcells_length _ _ _ _ _ _ _ HDL.out]; kernel_rfl
      have HSZ26 := Lib.hid hsz26
      clear h4 b4 k4 hN3 y7 y8 y9 y4 hgz3 hn2z hu16 hwE hrg hsz16 hra hBl hst hfold hVk HVB HRG HR B1 B3 hsz26
      go_wp2_with ((with_reducible show wpList _ _ _ (Oper.mk (some 49) _ _ _ _ _ :: _) _ _); go_must (refine wpList_load_mid rfl _ _ rfl N3 0 rfl (hcells 0 p q m dg all.length E.length) _ B4.out.range Tryd.underlying100 rfl HSZ26.out ?_))
      refine (headBytes 0 p q m dg all.length E.length W4 HDL.out (by decide) (by omega) (by omega) (by omega) (by omega) (by omega)).mono ?_
      rintro e w5 ⟨v5, rfl, r5, k5, l5⟩
      have h5 := H4.out.far k5
      have hne5 : 0 < 44 → ∀ b, v5.ownBlock = some b → b ≠ gw ∧ pv.ownBlock ≠ some b := fun _ b hb => by
        have a1 := l5 b hb
        have a2 := H4.out.wr.blk.lt
        refine ⟨by omega, fun e => ?_⟩
        have := H4.out.wr.row.lt e
        omega
      have hml := mhead_length 0 p q m dg all.length E.length HDL.out
      have H5 := Lib.hid h5
      have R5 := Lib.hid r5.reads
      have K5 := Lib.hid (HK4.out.trans' k5)
      have K5b : Hid (Keep Non W4 w5) := Lib.hid k5
      have HNE5 := Lib.hid hne5
      have HML := Lib.hid hml
      clear h5 r5 k5 l5 hne5 hml H4 HK4
      go_wp2_with fail
      refine (writeAllC Q g gh mb st tm _ _ n xs p q m all h E gw pv 0 [] v5 44 _ w5 H5.out HML.out R5.out (by decide) (by decide) HNE5.out).mono ?_
      rintro e w6 ⟨pv6, rfl, h6, k6⟩
      obtain ⟨hd, hhd⟩ : ∃ hd, hd = mhead 0 p q m dg all.length E.length := ⟨_, rfl⟩
      rw [← hhd] at h6 HML
      have ewr : wrote [] 0 hd = hd := by simp [wrote]
      rw [ewr, Nat.zero_add, ← HML.out] at h6
      have H6 := Lib.hid h6
      have HHD := Lib.hid hhd
      have hb1 : Blk w6 w.heap.size zeros16 67 := (B1'.out.keep K5b.out (fun h => h)).keep k6 HQ2.out
      have hb3 : Blk w6 (w.heap.size + 1) (B dg) 67 := (B3'.out.keep K5b.out (fun h => h)).keep k6 HQ3.out
      have HB1 := Lib.hid hb1
      have HB3 := Lib.hid hb3
      have hk6 : Keep Q0 w w6 := by
        have a1 : Keep Q0 w W3 := (HKW.out.mono (fun _ _ h => h.elim)).trans HK3.out (fun i hi e => by have e : i = w.heap.size + 1 := e; omega)
        exact (a1.trans K5.out (fun _ _ h => h.elim)).trans k6 (fun i _ e => HQ1.out i e)
      have HK6 := Lib.hid hk6
      have hdl : hd.length ≤ 1000000 := by have := HML.out; omega
      clear ewr h6 k6 hb1 hb3 hk6 hhd H5 R5 K5 K5b HNE5 B1' B3'
      go_wp2_with fail
      refine (emitOffs Q g gh mb st tm _ bb n c xs p q m all h E gw pv6 hd 44 w6 H6.out hc hdl (by decide) hal hEl HLE.out).mono ?_
      rintro e w7 ⟨tm7, n7, xs7, pv7, rfl, h7, k7⟩
      obtain ⟨es, hes⟩ : ∃ es, es = E.map (·.2) := ⟨_, rfl⟩
      rw [← hes] at h7
      have hesl : es.length = E.length := by rw [hes]; simp
      have hfl : es.flatten.length ≤ 6000000 := by
        have := flatten_len (b := 60000) es (fun e he => by rw [hes] at he; simp at he; obtain ⟨a, he⟩ := he; exact HLE.out _ he)
        omega
      have htl : (tbytes all).length ≤ 1000000 := by
        have h1 := tones_len all h7.bd.tab.short
        have h2 := uleb_len64 (v := all.length) (by unfold M64; omega)
        simp only [tbytes, List.length_append]
        omega
      obtain ⟨b7, hb7⟩ : ∃ b7, b7 = hd ++ offs (44 + (tbytes all).length + 4 * E.length) es := ⟨_, rfl⟩
      rw [← hb7] at h7
      have hb7l : b7.length ≤ 2000000 := by
        have := offs_length es (44 + (tbytes all).length + 4 * E.length)
        rw [hb7, List.length_append, this]; omega
      have y11 : w7.cell? ⟨g, 11, none⟩ = some .nilIface := h7.bd.cell 7
      have hgz7 := h7.bd.tab.blk.lt
      have H7 := Lib.hid h7
      have HES := Lib.hid hes
      have HESL := Lib.hid hesl
      have HB7 := Lib.hid hb7
      have HB1a := Lib.hid (HB1.out.keep k7 HQ2.out)
      have HB3a := Lib.hid (HB3.out.keep k7 HQ3.out)
      have HK7 := Lib.hid (HK6.out.trans k7 (fun i _ e => HQ1.out i e))
      clear h7 hes hesl hb7 k7 H6 HB1 HB3 HK6
      go_wp2_with fail
      refine (twrite g _ _ mb st tm7 false all gw pv7 b7 w7 ⟨H7.out.bd.tab, H7.out.wr, fun b hb e => H7.out.sep b e (.inl (.inr (.inr (.inr hb))))⟩ apartB (by omega) (by omega)).mono ?_
      rintro e w8 ⟨tm8, pv8, rfl, t8, k8, l8, l8'⟩
      obtain ⟨h8, q8⟩ := H7.out.tabw t8 k8 l8 l8'
      have H8 := Lib.hid h8
      have HB1b := Lib.hid (HB1a.out.keep q8 HQ2.out)
      have HB3b := Lib.hid (HB3a.out.keep q8 HQ3.out)
      have HK8 := Lib.hid (HK7.out.trans q8 (fun i _ e => HQ1.out i e))
      clear h8 q8 t8 k8 l8 l8' H7 HB1a HB3a HK7 y11 hgz7
      go_wp2_with fail
      refine (size g _ _ mb st tm8 false all w8 H8.out.bd.tab (by decide) (by decide) (by omega)).mono ?_
      rintro e w9 ⟨tm9, rfl, t9, k9, l9⟩
      obtain ⟨h9, q9⟩ := H8.out.tabs t9 k9 l9
      have y4 : w9.cell? ⟨g, 4, none⟩ = some (.slice fa E.length fc) := h9.bd.cell 0
      have hgz9 := h9.bd.tab.blk.lt
      have H9 := Lib.hid h9
      have HB1c := Lib.hid (HB1b.out.keep q9 HQ2.out)
      have HB3c := Lib.hid (HB3b.out.keep q9 HQ3.out)
      have HK9 := Lib.hid (HK8.out.trans q9 (fun i _ e => HQ1.out i e))
      obtain ⟨T, hT⟩ : ∃ T, T = (tbytes all).length := ⟨_, rfl⟩
      rw [← hT] at htl HB7 ⊢
      have HT := Lib.hid hT
      obtain ⟨b9, hb9⟩ : ∃ b9, b9 = b7 ++ tbytes all := ⟨_, rfl⟩
      have H9' := H9
      rw [← hb9] at H9'
      have hb9l : b9.length ≤ 3000000 := by rw [hb9, List.length_append, ← hT]; omega
      have HB9 := Lib.hid hb9
      clear h9 q9 t9 k9 l9 hT hb9 H8 H9 HB1b HB3b HK8
      go_wp2
      go_loopw [9, 94] (fun o i wr => ∃ (k : Nat) (pv' : Value), k ≤ E.length ∧ i = .int .i64 k ∧ o = .int .i64 ((44 + E.length * 4 + T + (es.take k).flatten.length : Nat) : Int) ∧ EW Q wr g gh mb st tm9 (.slice fa E.length fc) (.slice (some ⟨bb, 0, none⟩) n7 c) n7 xs7 p q m all h E gw pv' (b9 ++ (es.take k).flatten).length (b9 ++ (es.take k).flatten) ∧ Keep Q w9 wr) (fun _ i _ => E.length - (intOf i).toNat)
      case atStart =>
        refine ⟨0, pv8, Nat.zero_le _, rfl, ?_, ?_, Keep.refl _ _⟩
        · rw [List.take_zero, List.flatten_nil, List.length_nil, Nat.add_zero]
          exact congrArg (Value.int .i64) (by rw [Int.natCast_add, Int.natCast_add, Int.natCast_mul]; rfl)
        · rw [List.take_zero, List.flatten_nil, List.append_nil]
          exact H9'.out
      case round =>
        obtain ⟨k, pv', hk, rfl, rfl, hE, hK⟩ := hrel
        have hfk := flatten_take_le es k
        by_cases hlt : k < E.length
        · have hlk : k < es.length := by have := HESL.out; omega
          have hfs := flatten_snoc hlk
          have hbl2 : (b9 ++ (es.take k).flatten).length ≤ 4000000000 := by rw [List.length_append]; omega
          have hx : E[k] ∈ E := List.getElem_mem hlt
          obtain ⟨fg, fcc, hfa3⟩ := hE.bd.fns.at (by omega)
          cases hfa3
          have hek : es[k] = E[k].2 := by
            have := HES.out
            subst this
            simp
          have hlek := HLE.out _ hx
          have hz4 : wr.cell? ⟨fg, k, none⟩ = some E[k].1 := by
            rw [hE.bd.fns.cell k (by omega), Evs, List.getElem?_map, List.getElem?_eq_getElem hlt]
            rfl
          have hsl := (hE.bd.encs _ hx).reads.slice
          have HE := Lib.hid hE
          have HK := Lib.hid hK
          have HFS := Lib.hid hfs
          have HEK := Lib.hid hek
          have HX := Lib.hid hx
          clear hE hK hfs hek hx
          generalize E[k] = x at *
          obtain ⟨ev, l⟩ := x
          dsimp only at *
          obtain ⟨ea, ec, rfl⟩ := hsl
          obtain ⟨F, hF⟩ : ∃ F, F = 44 + E.length * 4 + T + (es.take k).flatten.length := ⟨_, rfl⟩
          rw [← hF]
          have hFb : F ≤ 4000000000 := by omega
          have HF := Lib.hid hF
          clear hF
          have HEA := Lib.hid (HE.out.far ((Keep.refl Non wr).alloc (.cells #[.slice ea l.length ec] 93)))
          go_wp2_with fail
          refine (emitF Q g gh mb st tm9 _ _ n7 xs7 p q m all h E gw pv' _ _ (.slice ea l.length ec, l) F _ HEA.out HX.out hbl2 (by dsimp only; omega) hFb).mono ?_
          rintro e w3 ⟨pv3, rfl, h3, k3⟩
          rw [wrote_end] at h3
          have H3 := Lib.hid h3
          have K3 := Lib.hid ((HK.out.alloc (.cells #[.slice ea l.length ec] 93)).trans' k3)
          clear h3 k3
          dsimp only
          go_wp2
          go_roundw
          case measure => simp [intOf]; omega
          case rel =>
            refine ⟨k + 1, pv3, by omega, by go_num, ?_, ?_, K3.out⟩
            · have hf := HF.out
              rw [HFS.out, HEK.out, List.length_append]
              congr 1
              omega
            · have := H3.out
              rw [HFS.out, HEK.out, ← List.append_assoc, List.length_append]
              exact this
        · obtain rfl : k = E.length := by omega
          rw [List.take_of_length_le (by have := HESL.out; omega)] at hE hfk ⊢
          obtain ⟨F, hF⟩ : ∃ F, F = 44 + E.length * 4 + T + es.flatten.length := ⟨_, rfl⟩
          rw [← hF]
          have hFb : F < 4294967296 := by omega
          have hwF : IntKind.u32.wrap (F : Int) = (F : Int) := by simp [IntKind.wrap, IntKind.bits, IntKind.signed]; omega
          have hbl2 : (b9 ++ es.flatten).length ≤ 4000000000 := by rw [List.length_append]; omega
          have HF := Lib.hid hF
          have HE := Lib.hid hE
          have HB1d := Lib.hid (HB1c.out.keep hK HQ2.out)
          have HB3d := Lib.hid (HB3c.out.keep hK HQ3.out)
          have HK := Lib.hid (HK9.out.trans hK (fun i _ e => HQ1.out i e))
          have hms := methodSeek
          clear hF hE hK HB1c HB3c HK9 y4 hgz9
          go_wp2_with fail
          refine (HE.out.seek0 hbl2).mono ?_
          rintro e w10 ⟨rfl, h10, k10⟩
          have H10 := Lib.hid h10
          have HB1e := Lib.hid (HB1d.out.keep k10 HQ2.out)
          have HB3e := Lib.hid (HB3d.out.keep k10 HQ3.out)
          have HK10 := Lib.hid (HK.out.trans k10 (fun i _ e => HQ1.out i e))
          clear h10 k10 HE HK HB1d HB3d hms
          go_wp2_with fail
          refine (wrU32 Q g gh mb st tm9 _ bb n7 c xs7 p q m all h E gw pv' 0 _ F w10 H10.out hc hFb hbl2).mono ?_
          rintro e w11 ⟨xs11, pv11, rfl, h11, k11⟩
          have y11 : w11.cell? ⟨g, 11, none⟩ = some .nilIface := h11.bd.cell 7
          have hgz11 := h11.bd.tab.blk.lt
          have hr3 := HB3e.out.keep k11 HQ3.out
          have hr1 := HB1e.out.keep k11 HQ2.out
          have HR3 := Lib.hid hr3
          have HR1 := Lib.hid hr1
          have H11 := Lib.hid h11
          have HK11 := Lib.hid (HK10.out.trans k11 (fun i _ e => HQ1.out i e))
          obtain ⟨V, hst, hVb, hVk⟩ := dig_store w.heap.size dg w11 HR1.out HDL.out
          have HVB := Lib.hid hVb
          have HVK := Lib.hid hVk
          have HST := Lib.hid hst
          have hu16 : Tryd.prog.underlying 67 = some (.array 16 5) := by kernel_rfl
          have HSZ : Hid ((Tryd.prog.info? 67).map (·.size) = some (B dg).length) := Lib.hid (by rw [B_length, HDL.out]; kernel_rfl)
          have HU16 := Lib.hid hu16
          clear h11 k11 hr3 hr1 hVb hVk hst hu16 H10 HB1e HB3e HK10
          go_wp2_with (first
            | ((with_reducible show wpList _ _ _ (Oper.mk (some 136) _ _ _ _ _ :: _) _ _); go_must (refine wpList_load_mid rfl _ _ rfl (w.heap.size + 1) 0 rfl (B dg) _ HR3.out.range HU16.out rfl HSZ.out ?_))
            | ((with_reducible show wpList _ _ _ (Oper.mk none (Op.store 67 (Operand.tmp 4) (Operand.tmp 136)) _ _ _ _ :: _) _ _); go_must (refine wpList_plain rfl fun K hK => wp_store_any _ _ _ rfl rfl rfl HST.out (hK _ _ ?_))))
          refine bodyPost_ret (dig_results w.heap.size dg rfl HVB.out HDL.out rfl rfl) rfl ?_
          have hz := HK11.out
          refine ⟨_, pv11, rfl, ?_, hz.trans HVK.out (fun i hi e => by have e : i = w.heap.size := e; omega)⟩
          have hfin := H11.out.wr
          have ewr : wrote (b9 ++ es.flatten) 0 (leB 4 F) = mbytes ⟨all, h, es⟩ F p q m := by
            rw [HB9.out, HB7.out, HHD.out, HDG.out, ← HESL.out]
            have := mbytes_patch ⟨all, h, es⟩ F p q m
            simp only [mbytes, mtail, mbase] at this ⊢
            rw [HT.out, ← List.append_assoc, ← List.append_assoc] at *
            exact this
          have eF : F = mtotal ⟨all, h, es⟩ := by
            rw [HF.out, mtotal, mbase, HT.out]
            have := HESL.out
            simp only
            omega
          rw [ewr, eF, Nat.zero_add, HES.out] at hfin
          refine ⟨hfin.blk.keep HVK.out (fun e => ?_), hfin.row.keep HVK.out (fun b hb e => ?_), hfin.le⟩
          · have e : gw = w.heap.size := e
            exact HQ2.out (by rw [← e]; exact H11.out.qg)
          · have e : b = w.heap.size := e
            exact HQ2.out (by rw [← e]; exact H11.out.qp b hb)
end Go.Proofs.YtbmidlaakbpnlaaDoor
