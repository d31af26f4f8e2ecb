/-
  CONTRACTS of a builder's writes, third part: the offsets, a function.
-/
import Derived.Test.YtbmidlaakbpnlaaDoorMe8
namespace Go.Proofs.YtbmidlaakbpnlaaDoor
open Go.RowKit
open Go.ChangeShapes Go.WideShapes Go.ChangeAt Go.Deep
open Plain (M64)

/-- Behind writeAll. -/
def WAllPost (Q : Nat → Prop) (g gh mb : Nat) (st tm fv bt : Value) (n : Nat) (xs : List Value) (p q m : Nat) (all : List ByteArray) (h : Nat × Nat) (E : List (Value × List UInt8)) (gw pos N : Nat) (bs ds : List UInt8) (w : World) (e : Ending) (w' : World) : Prop :=
  ∃ pv', e = .returned .nilIface ∧ EW Q w' g gh mb st tm fv bt n xs p q m all h E gw pv' (pos + N) (wrote bs pos ds) ∧ Keep Q w w'
/-- Behind emitFunc. -/
def EFPost (Q : Nat → Prop) (g gh mb : Nat) (st tm fv bt : Value) (n : Nat) (xs : List Value) (p q m : Nat) (all : List ByteArray) (h : Nat × Nat) (E : List (Value × List UInt8)) (gw pos N off : Nat) (bs ds : List UInt8) (w : World) (e : Ending) (w' : World) : Prop :=
  ∃ pv', e = .returned (.tuple #[.int .i64 ((off + N : Nat) : Int), .nilIface]) ∧ EW Q w' g gh mb st tm fv bt n xs p q m all h E gw pv' (pos + N) (wrote bs pos ds) ∧ Keep Q w w'
section
variable (Q : Nat → Prop) (g gh mb : Nat) (st tm fv bt : Value) (n : Nat) (xs : List Value) (p q m : Nat) (all : List ByteArray) (h : Nat × Nat) (E : List (Value × List UInt8)) (gw : Nat) (pv : Value) (pos : Nat) (bs : List UInt8)
set_option maxRecDepth 100000 in
set_option maxHeartbeats 2000000 in
theorem writeAllC (sv : Value) (N : Nat) (ds : List UInt8) (w : World) (H : EW Q w g gh mb st tm fv bt n xs p q m all h E gw pv pos bs) (hN : ds.length = N) (hs : Reads w 1 sv N (B ds)) (hbl : bs.length ≤ 4000000000) (hdl : N ≤ 4000000000) (hne : 0 < N → ∀ b, sv.ownBlock = some b → b ≠ gw ∧ pv.ownBlock ≠ some b) :
    Calls Tryd.prog 34 #[.iface 64 (.pointer (some ⟨gw, 0, none⟩)), sv] w (WAllPost Q g gh mb st tm fv bt n xs p q m all h E gw pos N bs ds w) := by
  have HH := Lib.hid H
  have HN := Lib.hid hN
  have HS := Lib.hid hs
  have HNE := Lib.hid hne
  have hme := methodWrite
  clear H hN hs hne
  go_enter Tryd.func34, Tryd.ntmps34
  go_wp2_with fail
  refine (HH.out.swrite sv N ds HN.out HS.out hbl hdl HNE.out).mono ?_
  rintro e w2 ⟨pv', rfl, h2, k2⟩
  have H2 := Lib.hid h2
  have K2 := Lib.hid k2
  clear h2 k2
  go_wp2
  go_ret
  exact ⟨pv', rfl, H2.out, K2.out⟩
set_option maxRecDepth 100000 in
set_option maxHeartbeats 2000000 in
theorem emitF (x : Value × List UInt8) (off : Nat) (w : World) (H : EW Q w g gh mb st tm fv bt n xs p q m all h E gw pv pos bs) (hx : x ∈ E) (hbl : bs.length ≤ 4000000000) (hdl : x.2.length ≤ 4000000000) (ho : off ≤ 4000000000) :
    Calls Tryd.prog 39 #[.pointer (some ⟨g, 0, none⟩), .iface 64 (.pointer (some ⟨gw, 0, none⟩)), .int .i64 off, .agg #[x.1]] w (EFPost Q g gh mb st tm fv bt n xs p q m all h E gw pos x.2.length off bs x.2 w) := by
  have hr := H.bd.encs x hx
  obtain ⟨ev, l⟩ := x
  dsimp only at *
  obtain ⟨ea, ec, rfl⟩ := hr.reads.slice
  have hne : 0 < l.length → ∀ b, (Value.slice ea l.length ec).ownBlock = some b → b ≠ gw ∧ pv.ownBlock ≠ some b := fun _ b hb => ⟨fun e => H.ngw (by rw [← e]; exact .inr (.inr (.inr (.inr ⟨_, hx, hb⟩)))), fun e => H.sep b e (.inr (.inr (.inr (.inr ⟨_, hx, hb⟩))))⟩
  have HH := Lib.hid (H.far ((Keep.refl Non w).alloc (.cells #[.slice ea l.length ec] 93)))
  have HS := Lib.hid (hr.reads.alloc (.cells #[.slice ea l.length ec] 93))
  have HK : Hid (Keep Q w (w.alloc (.cells #[.slice ea l.length ec] 93))) := Lib.hid ((Keep.refl _ _).alloc _)
  have HNE := Lib.hid hne
  have hme := methodWrite
  clear H hr hne hx
  go_enter Tryd.func39, Tryd.ntmps39
  go_wp2_with fail
  refine (HH.out.swrite _ l.length l rfl HS.out hbl hdl HNE.out).mono ?_
  rintro e w2 ⟨pv', rfl, h2, k2⟩
  have H2 := Lib.hid h2
  have K2 := Lib.hid k2
  clear h2 k2
  go_wp2
  go_ret2
  exact ⟨pv', by go_num, H2.out, HK.out.trans' K2.out⟩
end
/-- Behind emitFuncOffsets. -/
def OffPost (Q : Nat → Prop) (g gh mb : Nat) (st fv : Value) (bb c : Nat) (p q m : Nat) (all : List ByteArray) (h : Nat × Nat) (E : List (Value × List UInt8)) (gw off : Nat) (bs : List UInt8) (w : World) (e : Ending) (w' : World) : Prop :=
  ∃ tm' n' xs' pv', e = .returned (.int .i64 ((off + E.length * 4 : Nat) : Int)) ∧ EW Q w' g gh mb st tm' fv (.slice (some ⟨bb, 0, none⟩) n' c) n' xs' p q m all h E gw pv' (bs ++ offs (44 + (tbytes all).length + 4 * E.length) (E.map (·.2))).length (bs ++ offs (44 + (tbytes all).length + 4 * E.length) (E.map (·.2))) ∧ Keep Q w w'
set_option maxRecDepth 100000 in
set_option maxHeartbeats 4000000 in
theorem emitOffs (Q : Nat → Prop) (g gh mb : Nat) (st tm fv : Value) (bb n c : Nat) (xs : List Value) (p q m : Nat) (all : List ByteArray) (h : Nat × Nat) (E : List (Value × List UInt8)) (gw : Nat) (pv : Value) (bs : List UInt8) (off : Nat) (w : World)
    (H : EW Q w g gh mb st tm fv (.slice (some ⟨bb, 0, none⟩) n c) n xs p q m all h E gw pv bs.length bs) (hc : 4 ≤ c) (hbl : bs.length ≤ 1000000) (ho : off ≤ 1000000) (hal : all.length ≤ 900) (hEl : E.length ≤ 100) (hle : ∀ e ∈ E, e.2.length ≤ 60000) :
    Calls Tryd.prog 36 #[.pointer (some ⟨g, 0, none⟩), .iface 64 (.pointer (some ⟨gw, 0, none⟩)), .int .i64 off] w (OffPost Q g gh mb st fv bb c p q m all h E gw off bs w) := by
  have htl : (tbytes all).length ≤ 1000000 := by
    have h1 := tones_len all H.bd.tab.short
    have h2 := uleb_len64 (v := all.length) (by unfold M64; omega)
    simp only [tbytes, List.length_append]
    omega
  obtain ⟨fa, fc, rfl⟩ := H.bd.fns.reads.slice
  have x4 : w.cell? ⟨g, 4, none⟩ = some (.slice fa E.length fc) := H.bd.cell 0
  have hgz := H.bd.tab.blk.lt
  have HH := Lib.hid H
  have HLE := Lib.hid hle
  clear H hle
  go_enter Tryd.func36, Tryd.ntmps36
  go_wp2_with fail
  refine (size g _ _ mb st tm false all w HH.out.bd.tab (by decide) (by decide) (by omega)).mono ?_
  rintro e w1 ⟨tm1, rfl, t1, k1, l1⟩
  obtain ⟨h1, q1⟩ := HH.out.tabs t1 k1 l1
  have H1 := Lib.hid h1
  have Q1 := Lib.hid q1
  obtain ⟨T, hT⟩ : ∃ T, T = (tbytes all).length := ⟨_, rfl⟩
  rw [← hT] at htl ⊢
  have HT := Lib.hid hT
  clear h1 q1 t1 k1 l1 hT x4 hgz
  go_wp2
  obtain ⟨es, hes⟩ : ∃ es, es = E.map (·.2) := ⟨_, rfl⟩
  have hesl : es.length = E.length := by rw [hes]; simp
  have hfl : es.flatten.length ≤ 6000000 := by
    have := flatten_len (b := 60000) es (fun e he => by rw [hes] at he; simp at he; obtain ⟨a, he⟩ := he; exact HLE.out _ he)
    omega
  have HES := Lib.hid hes
  have HESL := Lib.hid hesl
  clear hes hesl
  go_loopw [8, 9] (fun f i wr => ∃ (k n' : Nat) (xs' : List Value) (pv' : Value), k ≤ E.length ∧ i = .int .i64 k ∧ f = .int .i64 ((44 + T + 4 * E.length + (es.take k).flatten.length : Nat) : Int) ∧ EW Q wr g gh mb st tm1 (.slice fa E.length fc) (.slice (some ⟨bb, 0, none⟩) n' c) n' xs' p q m all h E gw pv' (bs ++ offs (44 + T + 4 * E.length) (es.take k)).length (bs ++ offs (44 + T + 4 * E.length) (es.take k)) ∧ Keep Q w wr) (fun _ i _ => E.length - (intOf i).toNat)
  case atStart => exact ⟨0, n, xs, pv, by omega, rfl, by simp; omega, by simpa [offs] using H1.out, Q1.out⟩
  case round =>
    obtain ⟨k, n', xs', pv', hk, rfl, rfl, hE, hK⟩ := hrel
    have hfk := flatten_take_le es k
    by_cases hlt : k < E.length
    · have hlk : k < es.length := by have := HESL.out; omega
      have hsn := offs_snoc (44 + T + 4 * E.length) hlk
      have hfs := flatten_snoc hlk
      have hol := offs_length (es.take k) (44 + T + 4 * E.length)
      have hol2 : (es.take k).length = k := by simp; omega
      have hbl2 : (bs ++ offs (44 + T + 4 * E.length) (es.take k)).length ≤ 4000000000 := by rw [List.length_append, hol, hol2]; omega
      have HSN := Lib.hid hsn
      have HFS := Lib.hid hfs
      have HE := Lib.hid hE
      have HK := Lib.hid hK
      clear hsn hfs hol hol2 hE hK
      obtain ⟨F, hF⟩ : ∃ F, F = 44 + T + 4 * E.length + (es.take k).flatten.length := ⟨_, rfl⟩
      rw [← hF] at HSN ⊢
      have hFb : F < 4294967296 := by omega
      have HF := Lib.hid hF
      clear hF
      go_wp2_with fail
      refine (wrU32 Q g gh mb st tm1 _ bb n' c xs' p q m all h E gw pv' _ _ F wr HE.out hc hFb hbl2).mono ?_
      rintro e w3 ⟨xs3, pv3, rfl, h3, k3⟩
      rw [wrote_end] at h3
      obtain ⟨fa3, fc3, hfa3⟩ := h3.bd.fns.at (by omega)
      cases hfa3
      have hx : E[k] ∈ E := List.getElem_mem hlt
      have hr3 := h3.bd.encs _ hx
      obtain ⟨ea, ec, hev⟩ := hr3.reads.slice
      have y4 : w3.cell? ⟨g, 4, none⟩ = some (.slice (some ⟨fa3, 0, none⟩) E.length fc) := h3.bd.cell 0
      have z4 : w3.cell? ⟨fa3, k, none⟩ = some (.slice ea E[k].2.length ec) := by
        rw [h3.bd.fns.cell k (by omega)]
        rw [Evs, List.getElem?_map, List.getElem?_eq_getElem hlt, ← hev]
        rfl
      have hek : es[k] = E[k].2 := by
        have := HES.out
        subst this
        simp
      have hgz3 := h3.bd.tab.blk.lt
      have hlek := HLE.out _ hx
      have HEK := Lib.hid hek
      have H3 := Lib.hid h3
      have K3 := Lib.hid k3
      clear h3 k3 hr3 hev hek hx
      generalize E[k] = ek at *
      go_wp2
      go_roundw
      case measure => simp [intOf]; omega
      case rel =>
        have hf := HF.out
        refine ⟨k + 1, 4, xs3, pv3, by omega, by go_num, ?_, ?_, HK.out.trans' K3.out⟩
        · rw [HFS.out, HEK.out, List.length_append]
          congr 1
          omega
        · have := H3.out
          rw [HSN.out, ← List.append_assoc]
          rw [List.length_append, leB_length]
          exact this
    · obtain rfl : k = E.length := by omega
      have HE := Lib.hid hE
      have HK := Lib.hid hK
      have x4 : wr.cell? ⟨g, 4, none⟩ = some (.slice fa E.length fc) := hE.bd.cell 0
      have hgz := hE.bd.tab.blk.lt
      clear hE hK
      go_wp2
      go_ret
      refine ⟨tm1, n', xs', pv', by go_num, ?_, HK.out⟩
      have := HE.out
      rw [← HT.out, ← HES.out]
      rw [List.take_of_length_le (by have := HESL.out; omega)] at this
      exact this
end Go.Proofs.YtbmidlaakbpnlaaDoor
