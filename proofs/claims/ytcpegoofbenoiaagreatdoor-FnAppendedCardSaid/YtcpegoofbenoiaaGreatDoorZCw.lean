/-
  CONTRACT: writeSegmentPreamble.
-/
import Derived.Test.YtcpegoofbenoiaaGreatDoorZGCt
import Derived.Test.YtcpegoofbenoiaaGreatDoorZGCm
namespace Go.Proofs.YtcpegoofbenoiaaGreatDoor
open Go.RowKit
open Go.ChangeShapes Go.WideShapes Go.ChangeAt Go.Deep
open Plain (M64)

theorem PT.boxA {w w' : World} {gc gs gb fe st al : Nat} {tm : Value} {fl segs gw : Nat} {pv : Value} {bs : List UInt8} {mb : Nat} {ss sm : Value} {fz : Bool} {all : List ByteArray} (h : PT w gc gs gb fe st al tm fl segs gw pv bs mb ss sm fz all) {F' : Nat → Prop} (f : Ft (PTF gc gw gs mb tm pv ss sm) F' w w') {b : Nat} {x : Value} (hb : Blk w b [x] 57) : Blk w' b [x] 57 :=
  hb.keep f.keep (h.off hb (by decide) (by decide) (by decide) (by decide) (by decide))
theorem PT.boxS {w w' : World} {gc gs gb fe st al : Nat} {tm : Value} {fl segs gw : Nat} {pv : Value} {bs : List UInt8} {mb : Nat} {ss sm : Value} {fz : Bool} {all : List ByteArray} (h : PT w gc gs gb fe st al tm fl segs gw pv bs mb ss sm fz all) {F' : Nat → Prop} (f : Ft (PTF gc gw gs mb tm pv ss sm) F' w w') {b : Nat} {x : Value} (hb : Blk w b [x] 54) : Blk w' b [x] 54 :=
  hb.keep f.keep (h.off hb (by decide) (by decide) (by decide) (by decide) (by decide))
theorem PT.setc {w : World} {gc gs gb fe st al : Nat} {tm : Value} {fl segs gw : Nat} {pv : Value} {bs : List UInt8} {mb : Nat} {ss sm : Value} {fz : Bool} {all : List ByteArray} (h : PT w gc gs gb fe st al tm fl segs gw pv bs mb ss sm fz all) {fe' st' al' : Nat} (i : Nat) (u : Value) (e : (ccells (.pointer (some ⟨gs, 0, none⟩)) gb fe st al tm fl segs).set i u = ccells (.pointer (some ⟨gs, 0, none⟩)) gb fe' st' al' tm fl segs) :
    PT (w.setCell ⟨gc, i, none⟩ u) gc gs gb fe' st' al' tm fl segs gw pv bs mb ss sm fz all ∧ Ft (PTF gc gw gs mb tm pv ss sm) (PTF gc gw gs mb tm pv ss sm) w (w.setCell ⟨gc, i, none⟩ u) :=
  h.stepB (h.pb.set i u e) ((Keep.one w gc i u).mono (fun _ _ e => .inl e)) (fun _ h => .inl h) (fun _ h => .inl h)
theorem Ft.drew {F F' : Nat → Prop} {w w' : World} (h : Ft F F' w w') : Ft F F' w w'.drew := ⟨h.keep.drew, h.lies⟩
/-- A key's pair of places. -/
def prOf (all : List ByteArray) (kvs : List (ByteArray × ByteArray)) (s : ByteArray) : Nat × Nat := (place all s, place all ((getSM kvs s).getD ⟨#[]⟩))
def PreaPost (Q : Nat → Prop) (kvs : List (ByteArray × ByteArray)) (gc : Nat) (gs : Value) (gb fe st0 al0 fl segs gw : Nat) (all : List ByteArray) (w : World) (e : Ending) (w' : World) : Prop :=
  ∃ (tm' pv' : Value) (ks : List ByteArray), e = .returned .nilIface ∧ ks.Perm (keysL kvs) ∧ PB w' gc gs gb fe (tbytes all).length (argB (tbytes all).length (ks.map (prOf all kvs))).length tm' fl segs gw pv' (shdrB fe st0 al0 ++ tbytes all ++ argB (tbytes all).length (ks.map (prOf all kvs))) ∧ Keep Q w w' ∧ ∀ i, TWF gc gw tm' pv' i → Q i
set_option maxRecDepth 100000 in
set_option maxHeartbeats 16000000 in
theorem preaT (Q : Nat → Prop) (kvs : List (ByteArray × ByteArray)) (ma : Nat) (gc gs gb fe st al : Nat) (tm : Value) (fl segs gw : Nat) (pv : Value) (mb : Nat) (ss sm : Value) (all : List ByteArray) (w : World) (h : PT w gc gs gb fe st al tm fl segs gw pv [] mb ss sm false all) (ho : OwnsSM w ma kvs)
    (hQ : ∀ i, PTF gc gw gs mb tm pv ss sm i → Q i) (hQn : ∀ i, w.heap.size ≤ i → Q i) (hma : ¬ Q ma) (hal : all.length ≤ 30) (hkl : kvs.length ≤ 9) (hin : ∀ x ∈ kvs, place all x.1 < all.length ∧ place all x.2 < all.length) (hsz : ∀ x ∈ kvs, x.1.size ≤ 1000 ∧ x.2.size ≤ 1000)
    (h1 : fe < 18446744073709551616) (h2 : st < 4294967296) (h3 : al < 4294967296) :
    Calls Tryz.prog 39 #[.pointer (some ⟨gc, 0, none⟩), .map (some ma), .pointer (some ⟨gw, 0, none⟩)] w (PreaPost Q kvs gc (.pointer (some ⟨gs, 0, none⟩)) gb fe st al fl segs gw all w) := by
  have hlt := h.lt
  obtain ⟨W1, hW1⟩ : ∃ W, W = (w.alloc (.cells #[.pointer (some ⟨gc, 0, none⟩)] 57)).alloc (.cells #[.pointer (some ⟨gw, 0, none⟩)] 54) := ⟨_, rfl⟩
  have s1 : W1.heap.size = w.heap.size + 1 + 1 := by rw [hW1]; simp
  have k1 : Keep Non w W1 := by rw [hW1]; exact ((Keep.refl _ _).alloc _).alloc _
  have a1 : Blk W1 w.heap.size [.pointer (some ⟨gc, 0, none⟩)] 57 := by rw [hW1]; exact (Blk.new w [.pointer (some ⟨gc, 0, none⟩)] _).alloc _
  have b1 : Blk W1 (w.heap.size + 1) [.pointer (some ⟨gw, 0, none⟩)] 54 := by
    have := Blk.new (w.alloc (.cells #[.pointer (some ⟨gc, 0, none⟩)] 57)) [.pointer (some ⟨gw, 0, none⟩)] 54
    rw [hW1]
    simpa using this
  have p1 := h.far k1
  have HP1 := Lib.hid p1
  have HK1 := Lib.hid k1
  have HA1 := Lib.hid a1
  have HS1 := Lib.hid b1
  have HO := Lib.hid ho
  have HQ := Lib.hid hQ
  have HQN := Lib.hid hQn
  have HMA := Lib.hid hma
  have HIN := Lib.hid hin
  have HSZ := Lib.hid hsz
  have HTL : Hid ((tbytes all).length ≤ 30320) := Lib.hid (by
    have a := tones_len all h.tab.short
    have b := uleb_len64 (v := all.length) (by unfold M64; omega)
    rw [tbytes, List.length_append]; omega)
  clear h ho hQ hQn hma hin hsz p1 k1 a1 b1 hlt
  go_enter Tryz.func39, Tryz.ntmps39
  go_upto_region 1 with (fail)
  rw [← hW1]
  clear hW1
  obtain ⟨ba, hba⟩ : ∃ b, b = w.heap.size := ⟨_, rfl⟩
  obtain ⟨bw, hbw⟩ : ∃ b, b = w.heap.size + 1 := ⟨_, rfl⟩
  rw [← hba] at HA1
  rw [← hbw] at HS1
  rw [← hbw, ← hba]
  clear hba hbw s1
  have x0 : W1.cell? ⟨ba, 0, none⟩ = some (.pointer (some ⟨gc, 0, none⟩)) := by rw [HA1.out.cell]; rfl
  have x1 : W1.cell? ⟨bw, 0, none⟩ = some (.pointer (some ⟨gw, 0, none⟩)) := by rw [HS1.out.cell]; rfl
  have x2 : W1.cell? ⟨gc, 2, none⟩ = some (.int .u64 fe) := by rw [HP1.out.pb.blk.cell]; rfl
  have x3 : W1.cell? ⟨gc, 3, none⟩ = some (.int .u32 st) := by rw [HP1.out.pb.blk.cell]; rfl
  have x4 : W1.cell? ⟨gc, 4, none⟩ = some (.int .u32 al) := by rw [HP1.out.pb.blk.cell]; rfl
  go_cut [7] from 21 to 28 (fun v wx => v = .nilIface ∧ ∃ pv', PT wx gc gs gb fe st al tm fl segs gw pv' (shdrB fe st al) mb ss sm false all ∧ Ft (PTF gc gw gs mb tm pv ss sm) (PTF gc gw gs mb tm pv' ss sm) W1 wx)
  case first =>
    go_region_held3 (fun w' => w'.cell? ⟨ba, 0, none⟩ = some (.pointer (some ⟨gc, 0, none⟩)) ∧ w'.cell? ⟨bw, 0, none⟩ = some (.pointer (some ⟨gw, 0, none⟩)) ∧ w'.cell? ⟨gc, 2, none⟩ = some (.int .u64 fe) ∧ w'.cell? ⟨gc, 3, none⟩ = some (.int .u32 st) ∧ w'.cell? ⟨gc, 4, none⟩ = some (.int .u32 al))
      (first
        | exact ⟨x0, x1, x2, x3, x4⟩
        | exact ⟨k4.out.cell (K3.out.cell x0 (fun h => h)) n4.out.1, k4.out.cell (K3.out.cell x1 (fun h => h)) n4.out.2.1, k4.out.cell (K3.out.cell x2 (fun h => h)) n4.out.2.2, k4.out.cell (K3.out.cell x3 (fun h => h)) n4.out.2.2, k4.out.cell (K3.out.cell x4 (fun h => h)) n4.out.2.2⟩
        | exact ⟨K3.out.cell x0 (fun h => h), K3.out.cell x1 (fun h => h), K3.out.cell x2 (fun h => h), K3.out.cell x3 (fun h => h), K3.out.cell x4 (fun h => h)⟩
        | go_keep)
      (first
        | (go_at_call 60; refine (shdrBytes fe st al _ h1 h2 h3).mono ?_; rintro e w3 ⟨v3, rfl, r3, k3, l3⟩; have R3 := Lib.hid r3; have K3 := Lib.hid k3.undrew; have L3 := Lib.hid l3; clear r3 k3 l3)
        | (go_at_call 57; refine (writeAllW gw pv _ [] (shdrB fe st al) 0 _ (HP1.out.pb.wr.far K3.out) (by rw [shdrB_length]; exact R3.out.reads) (by decide) (by rw [shdrB_length]; omega) (fun _ b hb => by have hs : W1.heap.size ≤ b := (by have := L3.out b hb; simpa using this); exact ⟨fun e => by have := HP1.out.pb.wr.lt b (.inl e); omega, fun e => by have := HP1.out.pb.wr.lt b (.inr e); omega⟩)).mono ?_; rintro e w4 ⟨pv4, rfl, hw4, k4', l4⟩; have n4 : Hid ((¬ (ba = gw ∨ pv.ownBlock = some ba)) ∧ (¬ (bw = gw ∨ pv.ownBlock = some bw)) ∧ ¬ (gc = gw ∨ pv.ownBlock = some gc)) := Lib.hid (⟨fun e => HP1.out.off HA1.out (by decide) (by decide) (by decide) (by decide) (by decide) (.inl (e.elim (fun e => .inr (.inr (.inl e))) (fun e => .inr (.inr (.inr e))))), fun e => HP1.out.off HS1.out (by decide) (by decide) (by decide) (by decide) (by decide) (.inl (e.elim (fun e => .inr (.inr (.inl e))) (fun e => .inr (.inr (.inr e))))), fun e => e.elim HP1.out.pb.gcw (fun e => (HP1.out.pb.pg gc e).1 rfl)⟩); have HW4 := Lib.hid hw4; have k4 := Lib.hid k4'; have L4 := Lib.hid l4; clear hw4 k4' l4))
    all_goals
      go_wp2_with fail
      go_meet
      case rel =>
        have hw := HW4.out
        rw [show wrote [] 0 (shdrB fe st al) = shdrB fe st al by simp [wrote, shdrB_length], Nat.zero_add] at hw
        have kk : Keep (fun i => i = gw ∨ pv.ownBlock = some i) W1 w4 := (K3.out.mono (fun _ _ h => h.elim)).trans' k4.out
        have ll : ∀ b, pv4.ownBlock = some b → pv.ownBlock = some b ∨ W1.heap.size ≤ b := fun b hb => (L4.out b hb).imp id (fun h => by have := K3.out.size; omega)
        obtain ⟨q1, q2⟩ := HP1.out.stepB (HP1.out.pb.write hw kk ll) (kk.mono (fun i _ e => e.elim (fun e => .inr (.inr (.inl e))) (fun e => .inr (.inr (.inr e))))) (fun b hb => .inl hb) ll
        exact ⟨rfl, pv4, q1, q2⟩
  case rest =>
    obtain ⟨rfl, pv', p, f⟩ := hcut
    have HA2 := Lib.hid (HP1.out.boxA f HA1.out)
    have HS2 := Lib.hid (HP1.out.boxS f HS1.out)
    have HP2 := Lib.hid p
    have HF2 := Lib.hid f
    clear p f x0 x1 x2 x3 x4
    have hB0 : (shdrB fe st al).length = 16 := shdrB_length _ _ _
    obtain ⟨B0, hB⟩ : ∃ B0, B0 = shdrB fe st al := ⟨_, rfl⟩
    rw [← hB] at HP2 hB0
    have HB0 := Lib.hid hB
    clear hB
    obtain ⟨pa, pc, rfl⟩ := HP2.out.pb.wr.row.reads.slice
    have y0 : wc.cell? ⟨ba, 0, none⟩ = some (.pointer (some ⟨gc, 0, none⟩)) := by rw [HA2.out.cell]; rfl
    have y1 : wc.cell? ⟨bw, 0, none⟩ = some (.pointer (some ⟨gw, 0, none⟩)) := by rw [HS2.out.cell]; rfl
    have y2 : wc.cell? ⟨gc, 0, none⟩ = some (.pointer (some ⟨gs, 0, none⟩)) := by rw [HP2.out.pb.blk.cell]; rfl
    go_upto_region 5 with (go_at_call 21; refine (wbytes _ gw _ _ HP2.out.pb.wr.blk).mono ?_; rintro e w2 ⟨rfl, rfl⟩)
    go_upto_region 6 with (go_at_call 61; refine (PT.freeze gc gs gb fe st al tm fl segs gw _ B0 mb ss sm false all _ HP2.out).mono ?_; rintro e w3 ⟨rfl, p3, f3⟩; have HA3 := Lib.hid (HP2.out.boxA f3 HA2.out); have HS3 := Lib.hid (HP2.out.boxS f3 HS2.out); have HP3 := Lib.hid p3; have HF3 := Lib.hid (HF2.out.trans f3); clear p3 f3 y0 y1 y2)
    have y0 : w3.cell? ⟨ba, 0, none⟩ = some (.pointer (some ⟨gc, 0, none⟩)) := by rw [HA3.out.cell]; rfl
    have y1 : w3.cell? ⟨bw, 0, none⟩ = some (.pointer (some ⟨gw, 0, none⟩)) := by rw [HS3.out.cell]; rfl
    have y2 : w3.cell? ⟨gc, 0, none⟩ = some (.pointer (some ⟨gs, 0, none⟩)) := by rw [HP3.out.pb.blk.cell]; rfl
    go_cut [9] from 41 to 47 (fun v wx => v = .nilIface ∧ ∃ sm' pv', PT wx gc gs gb fe st al tm fl segs gw pv' (B0 ++ tbytes all) mb ss sm' true all ∧ Ft (PTF gc gw gs mb tm (.slice pa B0.length pc) ss sm) (PTF gc gw gs mb tm pv' ss sm') w3 wx)
    case first =>
      go_region_held3 (fun w' => w'.cell? ⟨ba, 0, none⟩ = some (.pointer (some ⟨gc, 0, none⟩)) ∧ w'.cell? ⟨bw, 0, none⟩ = some (.pointer (some ⟨gw, 0, none⟩)) ∧ w'.cell? ⟨gc, 0, none⟩ = some (.pointer (some ⟨gs, 0, none⟩)))
        (first
          | exact ⟨y0, y1, y2⟩
          | (refine ⟨?_, ?_, ?_⟩ <;> first | (rw [A4.out.cell]; rfl) | (rw [S4.out.cell]; rfl) | (rw [P4.out.pb.blk.cell]; rfl))
          | go_keep)
        (first
          | (go_at_call 62; refine (PT.write gc gs gb fe st al tm fl segs gw _ B0 mb ss sm true all _ (HP3.out.far (Keep.refl Non w3).drew) (by omega) (by omega)).mono ?_; rintro e w4 ⟨sm4, pv4, rfl, p4, f4⟩; have P4 := Lib.hid p4; have F4 := Lib.hid (Ft.far (Keep.refl Non w3).drew f4); have A4 := Lib.hid (HP3.out.boxA F4.out HA3.out); have S4 := Lib.hid (HP3.out.boxS F4.out HS3.out); clear p4 f4))
      all_goals
        go_wp2_with fail
        go_meet
        case rel => exact ⟨rfl, _, _, P4.out, F4.out⟩
    case rest =>
      obtain ⟨rfl, sm4, pv4, p, f⟩ := hcut
      have HA4 := Lib.hid (HP3.out.boxA f HA3.out)
      have HS4 := Lib.hid (HP3.out.boxS f HS3.out)
      have HP4 := Lib.hid p
      have HF4 := Lib.hid (HF3.out.trans f)
      clear p f y0 y1 y2
      obtain ⟨T, hT⟩ : ∃ T, T = (tbytes all).length := ⟨_, rfl⟩
      obtain ⟨B1, hB1⟩ : ∃ B1, B1 = B0 ++ tbytes all := ⟨_, rfl⟩
      have hl1 : B1.length = 16 + T := by rw [hB1, List.length_append, hB0, hT]
      have hTl : T ≤ 30320 := by rw [hT]; exact HTL.out
      rw [← hB1] at HP4
      have HT := Lib.hid hT
      have HB1 := Lib.hid hB1
      have HL1 := Lib.hid hl1
      have hw1 : IntKind.u32.wrap (B1.length : Int) = (B1.length : Int) := by rw [IntKind.wrap_u32]; omega
      have hw2 : IntKind.u32.wrap ((B1.length : Int) - 16) = (T : Int) := by rw [IntKind.wrap_u32]; omega
      clear hT hB1 hl1
      obtain ⟨pb, pd, rfl⟩ := HP4.out.pb.wr.row.reads.slice
      have y0 : wc.cell? ⟨ba, 0, none⟩ = some (.pointer (some ⟨gc, 0, none⟩)) := by rw [HA4.out.cell]; rfl
      have y1 : wc.cell? ⟨bw, 0, none⟩ = some (.pointer (some ⟨gw, 0, none⟩)) := by rw [HS4.out.cell]; rfl
      have y3 : wc.cell? ⟨gc, 3, none⟩ = some (.int .u32 st) := by rw [HP4.out.pb.blk.cell]; rfl
      have f3 := HP4.out.pb.blk.free 3
      have hga : ba ≠ gc := fun e => HA4.out.ne HP4.out.pb.blk (by decide) e
      have hgb : bw ≠ gc := fun e => HS4.out.ne HP4.out.pb.blk (by decide) e
      go_upto_region 9 with (fail)
      go_cut [] from 51 to 60 (fun wx => PT wx gc gs gb fe T al tm fl segs gw (.slice pb B1.length pd) B1 mb ss sm4 true all ∧ Ft (PTF gc gw gs mb tm (.slice pb B1.length pd) ss sm4) (PTF gc gw gs mb tm (.slice pb B1.length pd) ss sm4) wc wx)
      case first =>
        go_region_held3 (fun w' => w'.cell? ⟨ba, 0, none⟩ = some (.pointer (some ⟨gc, 0, none⟩)) ∧ w'.cell? ⟨bw, 0, none⟩ = some (.pointer (some ⟨gw, 0, none⟩)))
          (first
            | exact ⟨y0, y1⟩
            | exact ⟨((Keep.refl (At gc) wc).setAt gc 3 _ rfl).drew.cell y0 (fun e => hga e), ((Keep.refl (At gc) wc).setAt gc 3 _ rfl).drew.cell y1 (fun e => hgb e)⟩
            | go_keep)
          (first | (go_at_call 21; refine (wbytes _ gw _ _ HP4.out.pb.wr.blk.drew).mono ?_; rintro e w5 ⟨rfl, rfl⟩))
        all_goals
          go_wp2_with fail
          go_meet
          case rel =>
            obtain ⟨q1, q2⟩ := HP4.out.setc 3 (.int .u32 T) (fe' := fe) (st' := T) (al' := al) (by simp [ccells])
            exact ⟨q1.far (Keep.refl Non _).drew, q2.drew⟩
      case rest =>
        obtain ⟨p, f⟩ := hcut
        have HA5 := Lib.hid (HP4.out.boxA f HA4.out)
        have HS5 := Lib.hid (HP4.out.boxS f HS4.out)
        have HP5 := Lib.hid p
        have f5 := HF4.out.trans f
        have hq1 : ∀ i, W1.heap.size ≤ i → Q i := fun i hi => HQN.out i (by have := HK1.out.size; omega)
        have HQ5 := Lib.hid (f5.q HQ.out hq1)
        have HKQ5 := Lib.hid ((HK1.out.mono (fun _ _ h => h.elim)).trans' (f5.keep.mono (fun i _ e => HQ.out i e)))
        have HO5 := Lib.hid (HO.out.keep HKQ5.out HMA.out)
        clear p f f5 hq1 y0 y1 y3 f3 hga hgb hw1 hw2
        go_upto_region 12 with (first
          | (go_at_call 64; refine (mapsKeys ma _).mono ?_; rintro e w6 ⟨rfl, rfl⟩)
          | (go_at_call 63; refine (sortedKeys ma kvs _ HO5.out (by omega)).mono ?_; rintro e w7 ⟨kv, ks, rfl, r7, p7, k7, b7⟩))
        have k7' : Keep Non wc w7 := ((Keep.refl _ _).alloc _).trans' k7
        have HP7 := Lib.hid (HP5.out.far k7')
        have HA7 := Lib.hid (HA5.out.keep k7' (fun h => h))
        have HS7 := Lib.hid (HS5.out.keep k7' (fun h => h))
        have HKQ7 := Lib.hid (HKQ5.out.trans' (k7'.mono (fun _ _ h => h.elim)))
        have HO7 := Lib.hid (HO.out.keep HKQ7.out HMA.out)
        have HR7 := Lib.hid r7
        have HPM := Lib.hid p7
        have HBK : Hid (∀ b, kv.ownBlock = some b → ¬ PTF gc gw gs mb tm (.slice pb B1.length pd) ss sm4 b ∧ b < w7.heap.size) := Lib.hid (fun b hb => by
          obtain ⟨g1, g2⟩ := b7 b hb
          refine ⟨fun e => ?_, g2⟩
          have := HP5.out.lt b e
          simp at g1
          omega)
        have hkn : ks.length = kvs.length := by rw [p7.length_eq]; simp [keysL]
        have HKN := Lib.hid hkn
        have hkx : kvs.length < M64 := by unfold M64; omega
        have hwk : IntKind.u64.wrap (kvs.length : Int) = (kvs.length : Int) := Plain.wrap_u64 _ (by omega) (by unfold M64; omega)
        have hb1 : B1.length ≤ 30400 := by rw [HL1.out]; omega
        clear r7 p7 k7 k7' b7 hkn HP5 HA5 HS5 HKQ5 HO5
        go_upto_region 15 with (first
          | (at_len; go_must (refine wpSM_len _ rfl _ rfl rfl HO7.out ?_))
          | (go_at_call 65; refine (PT.num gc gs gb fe T al tm fl segs gw _ B1 mb ss sm4 true all kvs.length ba bw _ HP7.out hkx (by omega) HA7.out HS7.out).mono ?_; rintro e w8 ⟨tm8, pv8, rfl, p8, f8⟩; have HA8 := Lib.hid (HP7.out.boxA f8 HA7.out); have HS8 := Lib.hid (HP7.out.boxS f8 HS7.out); have HQ8 := Lib.hid (f8.q HQ5.out (fun i hi => HQN.out i (by have := HKQ7.out.size; omega))); have HKQ8 := Lib.hid (HKQ7.out.trans' (f8.keep.mono (fun i _ e => HQ5.out i e))); have HBK8 : Hid (∀ b, kv.ownBlock = some b → ¬ PTF gc gw gs mb tm8 pv8 ss sm4 b ∧ b < w8.heap.size) := Lib.hid (fun b hb => ⟨f8.no (HBK.out b hb).1 (HBK.out b hb).2, by have := f8.keep.size; have := (HBK.out b hb).2; omega⟩); have HR8 := Lib.hid (HR7.out.keep f8.keep (fun b hb => (HBK.out b hb).1)); have HP8 := Lib.hid p8; clear p8 f8))
        obtain ⟨ka, kc, rfl⟩ := HR8.out.slice
        have HPR : Hid (∀ s ∈ ks, ∃ v, getSM kvs s = some v ∧ place all s < all.length ∧ place all v < all.length ∧ s.size ≤ 1000 ∧ v.size ≤ 1000) := Lib.hid (fun s hs => by
          have h1 := HPM.out.mem_iff.1 hs
          obtain ⟨v, hv⟩ := Option.isSome_iff_exists.1 (getSM_isSome.2 h1)
          have h2 := getSM_mem hv
          exact ⟨v, hv, (HIN.out _ h2).1, (HIN.out _ h2).2, (HSZ.out _ h2).1, (HSZ.out _ h2).2⟩)
        have hks : ks.length ≤ 9 := by rw [HKN.out]; exact hkl
        have hul := uleb_len64 hkx
        clear hwk HA7 HS7 HP7 HO7 HKQ7 HR7 HBK
        go_wp2_with fail
        go_loopw [75] (fun i wr => ∃ (k : Nat) (tm' pv' ss' : Value) (L : List UInt8), k ≤ ks.length ∧ i = .int .i64 k ∧ L = B1 ++ uleb kvs.length ++ ((ks.take k).map (prOf all kvs)).flatMap prB ∧ PT wr gc gs gb fe T al tm' fl segs gw pv' L mb ss' sm4 true all ∧ Blk wr ba [.pointer (some ⟨gc, 0, none⟩)] 57 ∧ Blk wr bw [.pointer (some ⟨gw, 0, none⟩)] 54 ∧ Keep Q w wr ∧ (∀ i, PTF gc gw gs mb tm' pv' ss' sm4 i → Q i) ∧ (∀ b, (Value.slice ka ks.length kc).ownBlock = some b → ¬ PTF gc gw gs mb tm' pv' ss' sm4 b ∧ b < wr.heap.size) ∧ Reads wr 1 (.slice ka ks.length kc) ks.length (Ts ks)) (fun i _ => ks.length - (intOf i).toNat)
        case atStart => exact ⟨0, tm8, pv8, ss, _, by omega, rfl, rfl, by simpa using HP8.out, HA8.out, HS8.out, HKQ8.out, HQ8.out, HBK8.out, HR8.out⟩
        case round =>
          obtain ⟨k, tm', pv', ss', L, hk, rfl, hL, p, ba', bw', kq, q, bk, rd⟩ := hrel
          have HLp : Hid (L.length ≤ 30500) := Lib.hid (by
            have e := prs_len ((ks.take k).map (prOf all kvs)) (fun x hx => by
              obtain ⟨s, hs, rfl⟩ := List.mem_map.1 hx
              obtain ⟨v, hv, a1, a2, _⟩ := HPR.out s (List.mem_of_mem_take hs)
              simp only [prOf, hv, Option.getD_some]
              omega)
            rw [hL, List.length_append, List.length_append, e, List.length_map, List.length_take]
            omega)
          have HLE := Lib.hid hL
          have HP := Lib.hid p
          have HA := Lib.hid ba'
          have HS := Lib.hid bw'
          have HKQ := Lib.hid kq
          have HQ' := Lib.hid q
          have HBK := Lib.hid bk
          have HR := Lib.hid rd
          clear hL p ba' bw' kq q bk rd
          by_cases hlt : k < ks.length
          · obtain ⟨b3, o3, c3, hv3, hc3⟩ := HR.out.at (by omega) (by decide)
            cases hv3
            have d0 := hc3 k _ (Ts_at hlt)
            obtain ⟨v, hv, a1, a2, a3, a4⟩ := HPR.out ks[k] (List.getElem_mem hlt)
            have HV := Lib.hid hv
            have had1 : added all ks[k] = all := by unfold added; rw [if_pos a1]
            have had2 : added all v = all := by unfold added; rw [if_pos a2]
            have hc1 : IntKind.u64.wrap ((place all ks[k] : Nat) : Int) = ((place all ks[k] : Nat) : Int) := Plain.wrap_u64 _ (by omega) (by unfold M64; omega)
            have hc2 : IntKind.u64.wrap ((place all v : Nat) : Int) = ((place all v : Nat) : Int) := Plain.wrap_u64 _ (by omega) (by unfold M64; omega)
            have hm1 : place all ks[k] < M64 := by unfold M64; omega
            have hm2 : place all v < M64 := by unfold M64; omega
            have a3' : ks[k].size ≤ maxLen := by unfold maxLen; omega
            have HAD1 := Lib.hid had1
            have HAD2 := Lib.hid had2
            clear hc3 hv had1 had2
            have z0 : wr.cell? ⟨ba, 0, none⟩ = some (.pointer (some ⟨gc, 0, none⟩)) := by rw [HA.out.cell]; rfl
            have z1 : wr.cell? ⟨gc, 0, none⟩ = some (.pointer (some ⟨gs, 0, none⟩)) := by rw [HP.out.pb.blk.cell]; rfl
            go_upto_region 19 with (go_at_call 36; refine (PT.lookup gc gs gb fe T al tm' fl segs gw pv' L mb ss' sm4 true all ks[k] _ HP.out (by omega) a3 (.inr a1)).mono ?_; rintro e u1 ⟨su1, rfl, pu1, fu1⟩; rw [HAD1.out] at pu1; have HAu1 := Lib.hid (HP.out.boxA fu1 HA.out); have HSu1 := Lib.hid (HP.out.boxS fu1 HS.out); have HPu1 := Lib.hid pu1; have HFu1 := Lib.hid fu1; clear pu1 fu1 z0 z1)
            go_upto_region 22 with (go_at_call 65; refine (PT.num gc gs gb fe T al tm' fl segs gw pv' L mb su1 sm4 true all (place all ks[k]) ba bw _ HPu1.out hm1 (by have := HLp.out; omega) HAu1.out HSu1.out).mono ?_; rintro e u2 ⟨tu2, pu2, rfl, ppu2, fu2⟩; have HAu2 := Lib.hid (HPu1.out.boxA fu2 HAu1.out); have HSu2 := Lib.hid (HPu1.out.boxS fu2 HSu1.out); have HPu2 := Lib.hid ppu2; have HFu2 := Lib.hid (HFu1.out.trans fu2); clear ppu2 fu2)
            have z0 : u2.cell? ⟨ba, 0, none⟩ = some (.pointer (some ⟨gc, 0, none⟩)) := by rw [HAu2.out.cell]; rfl
            have z1 : u2.cell? ⟨gc, 0, none⟩ = some (.pointer (some ⟨gs, 0, none⟩)) := by rw [HPu2.out.pb.blk.cell]; rfl
            have HOu2 := Lib.hid (HO.out.keep (HKQ.out.trans' (HFu2.out.keep.mono (fun i _ e => HQ'.out i e))) HMA.out)
            have hgl : (getSM kvs ks[k]).getD ⟨#[]⟩ = v := by rw [HV.out]; rfl
            have HGL := Lib.hid hgl
            clear hgl
            go_upto_region 24 with (first
              | (at_lookup; go_must (refine wpSM_look _ rfl _ _ rfl rfl HOu2.out rfl a3' ?_); rw [HGL.out])
              | (go_at_call 36; refine (PT.lookup gc gs gb fe T al tu2 fl segs gw pu2 _ mb su1 sm4 true all v _ HPu2.out (by omega) a4 (.inr a2)).mono ?_; rintro e u3 ⟨su3, rfl, pu3, fu3⟩; rw [HAD2.out] at pu3; have HAu3 := Lib.hid (HPu2.out.boxA fu3 HAu2.out); have HSu3 := Lib.hid (HPu2.out.boxS fu3 HSu2.out); have HPu3 := Lib.hid pu3; have HFu3 := Lib.hid (HFu2.out.trans fu3); clear pu3 fu3 z0 z1))
            have hup1 := uleb_len64 hm1
            go_wp2_with (go_at_call 65; refine (PT.num gc gs gb fe T al tu2 fl segs gw pu2 _ mb su3 sm4 true all (place all v) ba bw _ HPu3.out hm2 (by have := HLp.out; rw [List.length_append]; omega) HAu3.out HSu3.out).mono ?_; rintro e u4 ⟨tu4, pu4, rfl, ppu4, fu4⟩)
            go_roundw
            case measure => simp [intOf]; omega
            case rel =>
              have hF := HFu3.out.trans fu4
              refine ⟨k + 1, tu4, pu4, su3, _, by omega, by go_num, ?_, ppu4, HPu3.out.boxA fu4 HAu3.out, HPu3.out.boxS fu4 HSu3.out, HKQ.out.trans' (hF.keep.mono (fun i _ e => HQ'.out i e)), hF.q HQ'.out (fun i hi => HQN.out i (by have := HKQ.out.size; omega)), fun b hb => ⟨hF.no (HBK.out b hb).1 (HBK.out b hb).2, by have := hF.keep.size; have := (HBK.out b hb).2; omega⟩, HR.out.keep hF.keep (fun b hb => (HBK.out b hb).1)⟩
              rw [HLE.out, List.take_succ_eq_append_getElem hlt, List.map_append, List.flatMap_append]
              simp [prB, prOf, HV.out]
          · obtain rfl : k = ks.length := by omega
            obtain ⟨prs, hprs⟩ : ∃ prs, prs = ks.map (prOf all kvs) := ⟨_, rfl⟩
            have hLL : L = B1 ++ prsB prs := by
              rw [HLE.out, List.take_length, hprs, prsB, List.length_map, HKN.out, List.append_assoc]
            have HLL := Lib.hid hLL
            have HPRS := Lib.hid hprs
            clear hprs hLL
            have z0 : wr.cell? ⟨bw, 0, none⟩ = some (.pointer (some ⟨gw, 0, none⟩)) := by rw [HS.out.cell]; rfl
            go_upto_region 31 with (go_at_call 68; refine (padT gw pv' L _ HP.out.pb.wr (by have := HLp.out; omega)).mono ?_; rintro e w9 ⟨pv9, rfl, hw9, k9, l9⟩; have HW9 := Lib.hid hw9; have HK9 := Lib.hid k9; have HL9 := Lib.hid l9; clear hw9 k9 l9)
            obtain ⟨p9, f9⟩ := HP.out.stepB (HP.out.pb.write HW9.out HK9.out HL9.out) (HK9.out.mono (fun i _ e => e.elim (fun e => .inr (.inr (.inl e))) (fun e => .inr (.inr (.inr e))))) (fun b hb => .inl hb) HL9.out
            have HA9 := Lib.hid (HP.out.boxA f9 HA.out)
            have HS9 := Lib.hid (HP.out.boxS f9 HS.out)
            have hpl : (padB L.length).length ≤ 3 := by rw [padB_length]; omega
            have hal9 : (L ++ padB L.length).length = 16 + T + (argB T prs).length := by
              rw [List.length_append, padB_length, HLL.out, argB_length, List.length_append, HL1.out]
              omega
            have hle9 : (L ++ padB L.length).length ≤ 31000 := by have := HLp.out; rw [List.length_append]; omega
            obtain ⟨A, hA⟩ : ∃ A, A = (argB T prs).length := ⟨_, rfl⟩
            obtain ⟨L9, hL9⟩ : ∃ L9, L9 = L ++ padB L.length := ⟨_, rfl⟩
            rw [← hL9] at p9 hal9 hle9
            rw [← hA] at hal9
            have HP9 := Lib.hid p9
            have HF9 := Lib.hid f9
            have HAE := Lib.hid hA
            have HLE9 := Lib.hid hL9
            have HAL9 := Lib.hid hal9
            have hv1 : IntKind.u32.wrap (L9.length : Int) = (L9.length : Int) := by rw [IntKind.wrap_u32]; omega
            have hv2 : IntKind.u32.wrap ((T : Int) + 16) = (T : Int) + 16 := by rw [IntKind.wrap_u32]; omega
            have hv3 : IntKind.u32.wrap ((L9.length : Int) - ((T : Int) + 16)) = (A : Int) := by rw [IntKind.wrap_u32]; omega
            clear p9 f9 hA hL9 hal9 z0
            obtain ⟨pe, pf, rfl⟩ := HP9.out.pb.wr.row.reads.slice
            have y0 : w9.cell? ⟨ba, 0, none⟩ = some (.pointer (some ⟨gc, 0, none⟩)) := by rw [HA9.out.cell]; rfl
            have y1 : w9.cell? ⟨bw, 0, none⟩ = some (.pointer (some ⟨gw, 0, none⟩)) := by rw [HS9.out.cell]; rfl
            have y3 : w9.cell? ⟨gc, 3, none⟩ = some (.int .u32 T) := by rw [HP9.out.pb.blk.cell]; rfl
            have f4 := HP9.out.pb.blk.free 4
            have hga : ba ≠ gc := fun e => HA9.out.ne HP9.out.pb.blk (by decide) e
            have hgb : bw ≠ gc := fun e => HS9.out.ne HP9.out.pb.blk (by decide) e
            have y4 : w9.cell? ⟨gc, 4, none⟩ = some (.int .u32 al) := by rw [HP9.out.pb.blk.cell]; rfl
            have st3 : ∀ u, ((w9.setCell ⟨gc, 4, none⟩ u).drew).cell? ⟨gc, 3, none⟩ = some (.int .u32 T) := fun u => by
              have := (HP9.out.pb.blk.set 4 u).drew
              rw [this.cell]; rfl
            go_region_held3 (fun w' => w'.cell? ⟨ba, 0, none⟩ = some (.pointer (some ⟨gc, 0, none⟩)) ∧ w'.cell? ⟨bw, 0, none⟩ = some (.pointer (some ⟨gw, 0, none⟩)) ∧ w'.cell? ⟨gc, 3, none⟩ = some (.int .u32 T))
              (first
                | exact ⟨y0, y1, y3⟩
                | exact ⟨((Keep.refl (At gc) w9).setAt gc 4 _ rfl).drew.cell y0 (fun e => hga e), ((Keep.refl (At gc) w9).setAt gc 4 _ rfl).drew.cell y1 (fun e => hgb e), st3 _⟩
                | go_keep)
              (first | (go_at_call 21; refine (wbytes _ gw _ _ HP9.out.pb.wr.blk.drew).mono ?_; rintro e w5 ⟨rfl, rfl⟩))
            all_goals
              go_wp2_with fail
              go_ret
              obtain ⟨q1, q2⟩ := HP9.out.setc 4 (.int .u32 A) (fe' := fe) (st' := T) (al' := A) (by simp [ccells])
              have hF := HF9.out.trans q2.drew
              refine ⟨tm', _, ks, rfl, HPM.out, ?_, HKQ.out.trans' (hF.keep.mono (fun i _ e => HQ'.out i e)), fun i hi => hF.q HQ'.out (fun i hi => HQN.out i (by have := HKQ.out.size; omega)) i (.inl hi)⟩
              have q := (q1.far (Keep.refl Non _).drew).pb
              rw [← HT.out, ← HPRS.out, ← HAE.out, ← HB0.out, ← HB1.out]
              have e : B1 ++ argB T prs = L9 := by
                rw [HLE9.out, HLL.out, argB, List.append_assoc, List.length_append, HL1.out]
              rw [e]
              exact q
end Go.Proofs.YtcpegoofbenoiaaGreatDoor
