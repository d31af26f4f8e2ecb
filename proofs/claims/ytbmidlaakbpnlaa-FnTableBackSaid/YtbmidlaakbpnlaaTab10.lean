/-
  THE LAW FnTableBack.
-/
import Derived.Test.YtbmidlaakbpnlaaTab9
namespace Go.Proofs.Ytbmidlaakbpnlaa
open Go.RowKit
open Go.ChangeShapes Go.WideShapes Go.ChangeAt Go.Deep
open Plain (M64)

set_option maxRecDepth 100000 in
theorem rtEntries (gt g bb c p : Nat) (bs : List UInt8) (v : Value) (all : List ByteArray) (w : World) (h : RT w gt g bb c p bs v all) (_hl : all.length ≤ 1000) :
    Calls Try.prog 30 #[.pointer (some ⟨gt, 0, none⟩)] w fun e w' => e = .returned (.int .i64 all.length) ∧ w' = w := by
  obtain ⟨va, vc, rfl⟩ := h.row.reads.slice
  have d1 := h.c1
  go_enter Try.func30, Try.ntmps30
  go_wp2
  go_ret
  exact ⟨rfl, rfl⟩
set_option maxRecDepth 100000 in
theorem rtGet (gt g bb c p : Nat) (bs : List UInt8) (v : Value) (all : List ByteArray) (k : Nat) (w : World) (h : RT w gt g bb c p bs v all) (hl : all.length ≤ 1000) (hk : k < all.length) :
    Calls Try.prog 31 #[.pointer (some ⟨gt, 0, none⟩), .int .u32 k] w fun e w' => e = .returned (.string all[k]) ∧ w' = w := by
  obtain ⟨ba, ca, hva⟩ := h.row.at (by omega)
  subst hva
  have d1 := h.c1
  have d0 := h.row.cell k (by omega)
  rw [Ts_at hk] at d0
  generalize all[k] = s at *
  go_enter Try.func31, Try.ntmps31
  go_wp2
  go_ret
  exact ⟨rfl, rfl⟩
set_option maxRecDepth 100000 in
theorem rtNew (g : Nat) (w : World) :
    Calls Try.prog 27 #[.pointer (some ⟨g, 0, none⟩)] w fun e w' => e = .returned (.pointer (some ⟨w.heap.size, 0, none⟩)) ∧ Blk w' w.heap.size [.pointer (some ⟨g, 0, none⟩), .slice none 0 0] 104 ∧ Keep Non w w' := by
  go_enter Try.func27, Try.ntmps27
  go_wp2
  go_ret
  exact ⟨rfl, Blk.new w [.pointer (some ⟨g, 0, none⟩), .slice none 0 0] _, (Keep.refl _ _).alloc _⟩
set_option maxRecDepth 100000 in
set_option maxHeartbeats 4000000 in
theorem readtable (v : Value) (all : List ByteArray) (w : World) (hv : Reads w 1 v (tbytes all).length (B (tbytes all))) (hl : all.length ≤ 900) (hsz : ∀ s ∈ all, s.size ≤ 1000) :
    Calls Try.prog 14 #[v] w fun e w' => ∃ v', e = .returned v' ∧ Row w' 9 1 v' all.length (Ts all) ∧ Keep Non w w' := by
  have HSZ := Lib.hid hsz
  have htb : (tbytes all).length ≤ 1000000 := by
    have a := tones_len all hsz
    have b := uleb_len64 (v := all.length) (by unfold M64; omega)
    rw [tbytes, List.length_append]; omega
  have htp : 0 < (tbytes all).length := by
    rw [tbytes, List.length_append]
    have := List.length_pos_iff.2 (uleb_ne all.length)
    omega
  clear hsz
  obtain ⟨aa, ca, rfl⟩ := hv.slice
  have HV := Lib.hid hv
  clear hv
  have R0 : Row (w.alloc (.cells #[] 5)) 5 1 (.slice (some ⟨w.heap.size, 0, none⟩) 0 0) 0 (B []) := Row.lit w 5 1 [] 0 (by decide) rfl
  have HR0 := Lib.hid R0
  clear R0
  go_enter Try.func14, Try.ntmps14
  go_wp2_with (first
    | (go_at_call 28; go_must (refine (newReader _ _ _ _).mono ?_); rintro e w2 ⟨rfl, b2, k2⟩)
    | (go_at_call 27; go_must (refine (rtNew _ _).mono ?_); rintro e w3 ⟨rfl, b3, k3⟩)
    | (at_builtin; go_must (refine wpList_app (n := 0) (xs := B []) (m := (tbytes all).length) sliceBytes rfl _ _ rfl rfl HR0.out rfl (HV.out.alloc _) (B_one _) (by unfold maxLen; omega) (by omega) ?_); intro v1 w1 r1 g1 n1; rw [Nat.zero_add] at r1; obtain ⟨b1, c1, rfl⟩ := r1.at htp))
  have hlt1 : b1 < w1.heap.size := r1.lt rfl
  have hlt2 := b2.lt
  have hlt3 := k2.size
  have hcap : (tbytes all).length ≤ c1 := by
    obtain ⟨cur, hcb, hcl, hct, hnc, hcm⟩ := r1.whole
    exact hnc
  have hrd : Reads w3 1 (.slice (some ⟨b1, 0, none⟩) (tbytes all).length c1) (tbytes all).length (B (tbytes all)) := ((r1.reads.keep k2 (fun _ _ h => h)).keep k3 (fun _ _ h => h))
  have HRT : Hid (RT w3 w2.heap.size w1.heap.size b1 c1 0 (tbytes all) (.slice none 0 0) []) := Lib.hid
    { blk := b3
      rd := ⟨b2.keep k3 (fun h => h), hrd, hcap, by omega⟩
      row := World.ownsRow_nil w3 0 _ 1
      ne := by omega
      nb := by omega
      nv := by simp [Value.ownBlock]
      lt := by have := k3.size; omega }
  have KA : Hid (Keep Non w w3) := Lib.hid ((((Keep.refl Non w).alloc _).trans g1.keep (fun i hi e => by simp [Own, Value.ownBlock, Act.eval] at e; omega)).trans k2 (fun _ _ h => h) |>.trans k3 (fun _ _ h => h))
  have hgz : w.heap.size ≤ w1.heap.size := by have := g1.keep.size; simp at this; omega
  have hgz2 : w.heap.size ≤ w2.heap.size := by omega
  generalize w2.heap.size = gt at *
  generalize w1.heap.size = g at *
  clear hrd hcap b3 b2 k2 k3 r1 g1 n1
  refine (rtRead gt g b1 c1 all w3 HRT.out hl HSZ.out).mono ?_
  rintro e w4 ⟨rfl, ⟨p, vt, hT⟩, k4⟩
  have HT := Lib.hid hT
  have K4 : Hid (Keep Non w w4) := Lib.hid (KA.out.trans k4 (fun i hi e => by rcases e with e | e <;> omega))
  have R4 : Hid (Row (w4.alloc (.cells #[] 9)) 9 1 (.slice (some ⟨w4.heap.size, 0, none⟩) 0 0) ([] : List ByteArray).length (Ts [])) := Lib.hid (Row.lit w4 9 1 [] 0 (by decide) rfl)
  clear hT k4
  go_wp2_with (go_at_call 30; go_must (refine (rtEntries _ _ _ _ _ _ _ all _ (HT.out.alloc _) (by omega)).mono ?_); rintro e w5 ⟨rfl, rfl⟩)
  go_loopw [4, 16] (fun o i wr => ∃ (k : Nat), k ≤ all.length ∧ i = .int .i64 k ∧ Row wr 9 1 o k (Ts (all.take k)) ∧ Keep Non w4 wr ∧ (∀ b, o.ownBlock = some b → w4.heap.size ≤ b)) (fun _ i _ => all.length - (intOf i).toNat)
  case atStart => exact ⟨0, by omega, rfl, R4.out, (Keep.refl _ _).alloc _, fun b hb => by simp [Value.ownBlock] at hb; omega⟩
  case round =>
    obtain ⟨k, hk, rfl, hR, hkk, hv⟩ := hrel
    have HR := Lib.hid hR
    have HK := Lib.hid hkk
    have HVV := Lib.hid hv
    clear hR hkk hv
    by_cases hlt : k < all.length
    · have hT2 := Lib.hid (HT.out.far HK.out)
      have HSN : Hid (all.take (k + 1) = all.take k ++ [all[k]]) := Lib.hid (List.take_succ_eq_append_getElem hlt)
      go_wp2_with (first
        | (go_at_call 31; go_must (refine (rtGet _ _ _ _ _ _ _ all k _ hT2.out (by omega) hlt).mono ?_); rintro e w6 ⟨rfl, rfl⟩)
        | (at_builtin; go_must (refine wpList_app (n := k) (xs := Ts (all.take k)) (m := 1) sliceStr rfl _ _ rfl rfl (Row.alloc HR.out _) rfl (Reads.oneAt (by simp)) (str_one _) (by unfold maxLen; omega) (by omega) ?_); intro v' w7 r7 g7 n7))
      go_roundw
      case measure => simp [intOf]; omega
      case rel =>
        refine ⟨k + 1, by omega, by go_num, by rw [HSN.out, Ts_append]; exact r7, (HK.out.alloc _).trans g7.keep (fun i hi e => by have := HVV.out i e; omega), fun b hb => ?_⟩
        rcases g7.lies hb with e | e
        · exact HVV.out b e
        · have := HK.out.size; simp at e; omega
    · have hkl : k = all.length := by omega
      subst hkl
      go_wp2
      go_ret
      have h := HR.out
      rw [List.take_of_length_le (Nat.le_refl _)] at h
      exact ⟨_, rfl, h, K4.out.trans HK.out (fun _ _ h => h)⟩
set_option maxRecDepth 100000 in
set_option maxHeartbeats 4000000 in
theorem tableback_law (sv : Value) (l : List ByteArray) (w : World) (hs : Reads w 1 sv l.length (Ts l)) (hll : l.length ≤ 9223372036854775807) (hsz : ∀ s ∈ l, s.size ≤ maxLen) :
    Calls Try.prog 5 #[sv] w fun e w' => e = .returned (.bool true) ∧ Below w.heap.size w w' := by
  obtain ⟨aa, ca, rfl⟩ := hs.slice
  have HSZ := Lib.hid hsz
  clear hsz
  go_enter Try.func5, Try.ntmps5
  go_wp2_with fail
  refine (fits3 _ l w hs hll HSZ.out).mono ?_
  rintro e w1 ⟨ok1, rfl, rfl, hok1⟩
  cases ok1 with
  | false =>
    go_wp2
    go_ret
    exact ⟨rfl, Below.refl _ _⟩
  | true =>
    clear hok1
    go_wp2_with fail
    refine (texts _ l _ hs hll HSZ.out).mono ?_
    rintro e w2 ⟨ok2, rfl, rfl, hok2⟩
    have HOK := Lib.hid hok2
    clear hok2
    cases ok2 with
    | false =>
      go_wp2
      go_ret
      exact ⟨rfl, Below.refl _ _⟩
    | true =>
      obtain ⟨b1, b2⟩ := HOK.out rfl
      have HB2 := Lib.hid b2
      obtain ⟨p1, p2⟩ := places_top l
      have hq2 : (places l).2.length ≤ 20 := by omega
      have hq3 : ∀ s ∈ (places l).2, s.size ≤ 1000 := fun s h => by have := HB2.out s (places_mem l s h); omega
      have HQ3 := Lib.hid hq3
      have htb : (tbytes (places l).2).length ≤ 30000 := by
        have a := tones_len (places l).2 hq3
        have b := uleb_len64 (v := (places l).2.length) (by unfold M64; omega)
        rw [tbytes, List.length_append]; omega
      clear b2 HOK p1 p2 hq3
      go_wp2_with fail
      refine (places_spec _ l _ hs (by omega)).mono ?_
      rintro e w3 ⟨v1, v2, rfl, r1, r2, k3⟩
      obtain ⟨y1, z1, rfl⟩ := r1.reads.slice
      obtain ⟨y2, z2, rfl⟩ := r2.reads.slice
      have R2 := Lib.hid r2
      have K3 := Lib.hid k3
      clear r1 r2 k3
      have hs4 := hs.keep K3.out (fun _ _ h => h)
      go_wp2_with fail
      refine (table_impl _ l w3 hs4 (by omega) (fun s h => by have := HB2.out s h; omega)).mono ?_
      rintro e w5 ⟨b, n, c, v5, rfl, r5, r6, k5⟩
      have KB := Lib.hid (K3.out.trans k5 (fun _ _ h => h))
      have R2' := Lib.hid (R2.out.keep k5 (fun _ _ h => h))
      obtain ⟨y6, z6, rfl⟩ := r6.reads.slice
      have R6 := Lib.hid r6
      have htp : 0 < (tbytes (places l).2).length := by
        rw [tbytes, List.length_append]
        have := List.length_pos_iff.2 (uleb_ne (places l).2.length)
        omega
      clear r5 r6 k5 hs4
      go_wp2_with (first
        | (go_at_call 14; go_must (refine (readtable _ (places l).2 _ R6.out.reads (by omega) HQ3.out).mono ?_); rintro e w6 ⟨v6, rfl, r7, k6⟩; have R7 := Lib.hid r7; have R8 := Lib.hid (R2'.out.keep k6 (fun _ _ h => h)))
        | (go_at_call 13; go_must (refine (sameTexts _ _ (places l).2 _ R7.out.reads R8.out.reads (by omega)).mono ?_); rintro e w7 ⟨rfl, n7, rfl⟩))
      go_ret
      exact ⟨ret_bool (by simp), ((KB.out.trans k6 (fun _ _ h => h)).drewN n7).below (Nat.le_refl _) (fun _ _ h => h.elim)⟩
end Go.Proofs.Ytbmidlaakbpnlaa
