/-
  CONTRACT: a function's counters are written.
-/
import Derived.Test.YtcpegoofbenoiaaGreatDoorZCo
namespace Go.Proofs.YtcpegoofbenoiaaGreatDoor
open Go.RowKit
open Go.ChangeShapes Go.WideShapes Go.ChangeAt Go.Deep
open Plain (M64)

theorem PCF.trans {gc gw bx : Nat} {tm tm1 pv pv1 : Value} {a b c : World} (k : Keep (PCF gc gw bx tm pv) a b) (k1 : Keep (PCF gc gw bx tm1 pv1) b c) (l1 : ∀ i, tm1.ownBlock = some i → tm.ownBlock = some i ∨ a.heap.size ≤ i) (l2 : ∀ i, pv1.ownBlock = some i → pv.ownBlock = some i ∨ a.heap.size ≤ i) : Keep (PCF gc gw bx tm pv) a c :=
  k.trans k1 (fun i hi e => by
    rcases e with (e | e | e | e) | e
    · exact .inl (.inl e)
    · exact .inl (.inr (.inl ((l1 i e).resolve_right (by omega))))
    · exact .inl (.inr (.inr (.inl e)))
    · exact .inl (.inr (.inr (.inr ((l2 i e).resolve_right (by omega)))))
    · exact .inr e)
/-- The closure that writes a number. -/
def wrFn (ba bc bw : Nat) : Value := .func (.func 69) #[] #[.pointer (some ⟨ba, 0, none⟩), .pointer (some ⟨bc, 0, none⟩), .pointer (some ⟨bw, 0, none⟩)]
/-- The boxes of the closures. -/
structure Bxs (w : World) (gc gw ba bc bw bf : Nat) : Prop where
  a : Blk w ba [.pointer (some ⟨gc, 0, none⟩)] 57
  s : Blk w bw [.pointer (some ⟨gw, 0, none⟩)] 54
  f : Blk w bf [wrFn ba bc bw] 148
theorem Bxs.keep {S : Nat → Prop} {w w' : World} {gc gw ba bc bw bf : Nat} (h : Bxs w gc gw ba bc bw bf) (k : Keep S w w') (h1 : ¬ S ba) (h2 : ¬ S bw) (h3 : ¬ S bf) : Bxs w' gc gw ba bc bw bf := ⟨h.a.keep k h1, h.s.keep k h2, h.f.keep k h3⟩
theorem Bxs.far {w w' : World} {gc gw ba bc bw bf : Nat} (h : Bxs w gc gw ba bc bw bf) (k : Keep Non w w') : Bxs w' gc gw ba bc bw bf := h.keep k (fun h => h) (fun h => h) (fun h => h)
/-- A step of the writer leaves the boxes. -/
theorem Bxs.step {w w' : World} {gc : Nat} {gs : Value} {gb fe st al : Nat} {tm : Value} {fl segs gw : Nat} {pv : Value} {bs : List UInt8} {ba bc bx bw bf : Nat} (h : Bxs w gc gw ba bc bw bf) (H : PC w gc gs gb fe st al tm fl segs gw pv bs bc bx) (k : Keep (PCF gc gw bx tm pv) w w') : Bxs w' gc gw ba bc bw bf :=
  h.keep k (H.off h.a (by decide) (by decide) (by decide)) (H.off h.s (by decide) (by decide) (by decide)) (H.off h.f (by decide) (by decide) (by decide))
theorem PC.offU {w : World} {gc : Nat} {gs : Value} {gb fe st al : Nat} {tm : Value} {fl segs gw : Nat} {pv : Value} {bs : List UInt8} {bc bx : Nat} (h : PC w gc gs gb fe st al tm fl segs gw pv bs bc bx) {v : Value} {n : Nat} {xs : List Value} (r : Row w 36 1 v n xs) : ∀ b, v.ownBlock = some b → ¬ PCF gc gw bx tm pv b := by
  rintro b hb ((e | e | e | e) | e)
  · exact r.neBlk h.pb.blk (by decide) (by rw [hb, e])
  · obtain ⟨n, xs, r'⟩ := h.pb.tmp
    exact r.ne r' (by decide) hb e
  · exact r.neBlk h.pb.wr.blk (by decide) (by rw [hb, e])
  · exact r.ne h.pb.wr.row (by decide) hb e
  · obtain ⟨xs, r'⟩ := h.row
    exact r.ne r' (by decide) hb (by rw [e]; rfl)
theorem num_snoc (packed : Bool) {l : List Nat} {k : Nat} (h : k < l.length) : (l.take (k + 1)).flatMap (numB packed) = (l.take k).flatMap (numB packed) ++ numB packed l[k] := by
  rw [List.take_succ_eq_append_getElem h, List.flatMap_append]; simp
set_option maxRecDepth 100000 in
set_option maxHeartbeats 8000000 in
theorem emitT (packed : Bool) (f : Fc) (cv : Value) (gc : Nat) (gs : Value) (gb fe st al : Nat) (tm : Value) (fl segs gw : Nat) (pv : Value) (bs : List UInt8) (ba bc bx bw bf : Nat) (w : World) (h : PC w gc gs gb fe st al tm fl segs gw pv bs bc bx) (hfl : fl = if packed then 2 else 1) (hbl : bs.length ≤ 1000000) (hfe : fe ≤ 1000000)
    (hb : Bxs w gc gw ba bc bw bf) (hcv : Row w 36 1 cv f.cs.length (U32 f.cs)) (h1 : f.pkg < 4294967296) (h2 : f.fn < 4294967296) (h3 : ∀ v ∈ f.cs, v < 4294967296) (hcl : f.cs.length ≤ 1000) :
    Calls Tryz.prog 71 #[.int .u32 f.pkg, .int .u32 f.fn, cv, .pointer (some ⟨ba, 0, none⟩), .pointer (some ⟨bf, 0, none⟩)] w (PCPost gc gs gb st al tm fl segs gw pv (bs ++ fcB packed f) (fe + 1) bc bx w) := by
  obtain ⟨ca, cc, rfl⟩ := hcv.reads.slice
  obtain ⟨pkg, fn, cs⟩ := f
  simp only at *
  have hcd : cs.length < 4294967296 := by omega
  have x0 : w.cell? ⟨ba, 0, none⟩ = some (.pointer (some ⟨gc, 0, none⟩)) := by rw [hb.a.cell]; rfl
  have x1 : w.cell? ⟨gc, 2, none⟩ = some (.int .u64 fe) := by rw [h.pb.blk.cell]; rfl
  have f1 := h.pb.blk.free 2
  have wf : IntKind.u64.wrap ((fe : Int) + 1) = ((fe + 1 : Nat) : Int) := by rw [Plain.wrap_u64 _ (by omega) (by unfold M64; omega)]; rfl
  have hga : ba ≠ gc := fun e => hb.a.ne h.pb.blk (by decide) e
  have hgs : bw ≠ gc := fun e => hb.s.ne h.pb.blk (by decide) e
  have hgf : bf ≠ gc := fun e => hb.f.ne h.pb.blk (by decide) e
  have H := Lib.hid h
  have HB := Lib.hid hb
  have HC := Lib.hid hcv
  have H3 := Lib.hid h3
  clear h hb hcv h3
  go_enter Tryz.func71, Tryz.ntmps71
  go_upto_region 2 with (fail)
  obtain ⟨W1, hW1⟩ : ∃ W, W = w.setCell ⟨gc, 2, none⟩ (.int .u64 ((fe : Int) + 1)) := ⟨_, rfl⟩
  have k1 : Keep (TWF gc gw tm pv) w W1 := by rw [hW1]; exact (Keep.one w gc 2 _).mono (fun _ _ e => .inl e)
  have p1 : PC W1 gc gs gb (fe + 1) st al tm fl segs gw pv bs bc bx := by
    refine H.out.step ?_ k1 (fun _ h => .inl h) (fun _ h => .inl h)
    rw [hW1]
    exact H.out.pb.set 2 _ (by simp [ccells])
  have HP1 := Lib.hid p1
  have HK1 := Lib.hid (k1.mono (fun i _ e => (.inl e : PCF gc gw bx tm pv i)))
  have HB1 := Lib.hid (HB.out.step H.out HK1.out)
  have HC1 := Lib.hid (HC.out.keep HK1.out (H.out.offU HC.out))
  rw [← hW1]
  clear hW1 p1 k1 x0 x1 f1 wf
  have y0 : W1.cell? ⟨bf, 0, none⟩ = some (wrFn ba bc bw) := by rw [HB1.out.f.cell]; rfl
  unfold wrFn at y0
  have HL1 : Hid (∀ b, tm.ownBlock = some b → tm.ownBlock = some b ∨ w.heap.size ≤ b) := Lib.hid (fun _ h => .inl h)
  have HM1 : Hid (∀ b, pv.ownBlock = some b → pv.ownBlock = some b ∨ w.heap.size ≤ b) := Lib.hid (fun _ h => .inl h)
  have n1 := numB_len packed hcd
  have n2 := numB_len packed h1
  have n3 := numB_len packed h2
  go_upto_region 5 with (go_at_call 69; refine (wrVal packed gc gs gb (fe + 1) st al tm fl segs gw pv bs cs.length ba bc bx bw _ HP1.out hfl hcd (by (try simp only [List.length_append]); omega) HB1.out.a HB1.out.s).mono ?_; rintro e w2 ⟨tm2, pv2, rfl, p2, k2, l2, m2⟩; have HB2 := Lib.hid (HB1.out.step HP1.out k2); have HC2 := Lib.hid (HC1.out.keep k2 (HP1.out.offU HC1.out)); have HP2 := Lib.hid p2; have HK2 := Lib.hid (PCF.trans HK1.out k2 HL1.out HM1.out); have HL2 := Lib.hid (lies_trans HK1.out.size HL1.out l2); have HM2 := Lib.hid (lies_trans HK1.out.size HM1.out m2); clear p2 k2 l2 m2 y0; have y0 : w2.cell? ⟨bf, 0, none⟩ = some (wrFn ba bc bw) := (by rw [HB2.out.f.cell]; rfl); unfold wrFn at y0)
  go_upto_region 8 with (go_at_call 69; refine (wrVal packed gc gs gb (fe + 1) st al tm2 fl segs gw pv2 (bs ++ numB packed cs.length) pkg ba bc bx bw _ HP2.out hfl h1 (by (try simp only [List.length_append]); omega) HB2.out.a HB2.out.s).mono ?_; rintro e w3 ⟨tm3, pv3, rfl, p3, k3, l3, m3⟩; have HB3 := Lib.hid (HB2.out.step HP2.out k3); have HC3 := Lib.hid (HC2.out.keep k3 (HP2.out.offU HC2.out)); have HP3 := Lib.hid p3; have HK3 := Lib.hid (PCF.trans HK2.out k3 HL2.out HM2.out); have HL3 := Lib.hid (lies_trans HK2.out.size HL2.out l3); have HM3 := Lib.hid (lies_trans HK2.out.size HM2.out m3); clear p3 k3 l3 m3 y0; have y0 : w3.cell? ⟨bf, 0, none⟩ = some (wrFn ba bc bw) := (by rw [HB3.out.f.cell]; rfl); unfold wrFn at y0)
  go_upto_region 11 with (go_at_call 69; refine (wrVal packed gc gs gb (fe + 1) st al tm3 fl segs gw pv3 (bs ++ numB packed cs.length ++ numB packed pkg) fn ba bc bx bw _ HP3.out hfl h2 (by (try simp only [List.length_append]); omega) HB3.out.a HB3.out.s).mono ?_; rintro e w4 ⟨tm4, pv4, rfl, p4, k4, l4, m4⟩; have HB4 := Lib.hid (HB3.out.step HP3.out k4); have HC4 := Lib.hid (HC3.out.keep k4 (HP3.out.offU HC3.out)); have HP4 := Lib.hid p4; have HK4 := Lib.hid (PCF.trans HK3.out k4 HL3.out HM3.out); have HL4 := Lib.hid (lies_trans HK3.out.size HL3.out l4); have HM4 := Lib.hid (lies_trans HK3.out.size HM3.out m4); clear p4 k4 l4 m4 y0; have y0 : w4.cell? ⟨bf, 0, none⟩ = some (wrFn ba bc bw) := (by rw [HB4.out.f.cell]; rfl); unfold wrFn at y0)
  go_wp2_with fail
  clear y0
  go_loopw [46] (fun i wr => ∃ (k : Nat) (tm' pv' : Value), k ≤ cs.length ∧ i = .int .i64 k ∧ PC wr gc gs gb (fe + 1) st al tm' fl segs gw pv' (bs ++ numB packed cs.length ++ numB packed pkg ++ numB packed fn ++ (cs.take k).flatMap (numB packed)) bc bx ∧ Bxs wr gc gw ba bc bw bf ∧ Row wr 36 1 (.slice ca cs.length cc) cs.length (U32 cs) ∧ Keep (PCF gc gw bx tm pv) w wr ∧ (∀ b, tm'.ownBlock = some b → tm.ownBlock = some b ∨ w.heap.size ≤ b) ∧ (∀ b, pv'.ownBlock = some b → pv.ownBlock = some b ∨ w.heap.size ≤ b)) (fun i _ => cs.length - (intOf i).toNat)
  case atStart => exact ⟨0, tm4, pv4, by omega, rfl, by simpa using HP4.out, HB4.out, HC4.out, HK4.out, HL4.out, HM4.out⟩
  case round =>
    obtain ⟨k, tm', pv', hk, rfl, p, b, c, kp, l, m⟩ := hrel
    have HP := Lib.hid p
    have HBb := Lib.hid b
    have HCc := Lib.hid c
    have HK := Lib.hid kp
    have HL := Lib.hid l
    have HM := Lib.hid m
    clear p b c kp l m
    by_cases hlt : k < cs.length
    · obtain ⟨b3, c3, hv3⟩ := HCc.out.at (by omega)
      cases hv3
      have d0 := HCc.out.cell k (by omega)
      rw [U32_at hlt] at d0
      have hv := H3.out _ (List.getElem_mem hlt)
      have hn := nums_len packed (cs.take k) (fun v hv => H3.out v (List.mem_of_mem_take hv))
      rw [List.length_take, Nat.min_eq_left hk] at hn
      have y0 : wr.cell? ⟨bf, 0, none⟩ = some (wrFn ba bc bw) := by rw [HBb.out.f.cell]; rfl
      unfold wrFn at y0
      go_wp2_with (go_at_call 69; refine (wrVal packed gc gs gb (fe + 1) st al tm' fl segs gw pv' _ cs[k] ba bc bx bw _ HP.out hfl hv (by (try simp only [List.length_append]); omega) HBb.out.a HBb.out.s).mono ?_; rintro e w5 ⟨tm5, pv5, rfl, p5, k5, l5, m5⟩)
      go_roundw
      case measure => simp [intOf]; omega
      case rel =>
        refine ⟨k + 1, tm5, pv5, by omega, by go_num, ?_, HBb.out.step HP.out k5, HCc.out.keep k5 (HP.out.offU HCc.out), PCF.trans HK.out k5 HL.out HM.out, lies_trans HK.out.size HL.out l5, lies_trans HK.out.size HM.out m5⟩
        rw [num_snoc packed hlt, ← List.append_assoc]
        exact p5
    · obtain rfl : k = cs.length := by omega
      go_wp2_with fail
      go_ret
      refine ⟨tm', pv', rfl, ?_, HK.out, HL.out, HM.out⟩
      have := HP.out
      rw [List.take_length] at this
      simpa [fcB] using this
end Go.Proofs.YtcpegoofbenoiaaGreatDoor
