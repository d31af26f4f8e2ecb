/-
  CONTRACTS of the reader of a table of texts. (taken by a program out of the texts of seat A.)
-/
import Derived.Test.YtcpegoofbenoiaaGreatDoorZTab4
import Derived.Test.YtcpegoofbenoiaaGreatDoorZGKc
namespace Go.Proofs.YtcpegoofbenoiaaGreatDoor
open Go.RowKit
open Go.ChangeShapes Go.WideShapes Go.ChangeAt Go.Deep
open Plain (M64)

/-- A reader over bytes, at a place. -/
structure RR (w : World) (g bb c p : Nat) (bs : List UInt8) : Prop where
  blk : Blk w g (rcells (.slice (some ⟨bb, 0, none⟩) bs.length c) p) 129
  data : Reads w 1 (.slice (some ⟨bb, 0, none⟩) bs.length c) bs.length (B bs)
  cap : bs.length ≤ c
  ne : bb ≠ g
theorem RR.keep {S : Nat → Prop} {w w' : World} {g bb c p : Nat} {bs : List UInt8} (h : RR w g bb c p bs) (k : Keep S w w') (h1 : ¬ S g) (h2 : ¬ S bb) : RR w' g bb c p bs where
  blk := h.blk.keep k h1
  data := h.data.keep k (fun b hb => by simp [Value.ownBlock] at hb; subst hb; exact h2)
  cap := h.cap
  ne := h.ne
theorem readU (g bb c p : Nat) (bs r : List UInt8) (x : Nat) (w : World) (h : RR w g bb c p bs) (hx : x < M64) (hl : bs.length ≤ 1000000) (hp : bs.drop p = uleb x ++ r) :
    Calls Tryz.prog 93 #[.pointer (some ⟨g, 0, none⟩)] w fun e w' => e = .returned (.int .u64 x) ∧ RR w' g bb c (p + (uleb x).length) bs ∧ Keep (At g) w w' := by
  have hul := uleb_len64 hx
  have hu0 : 0 < (uleb x).length := List.length_pos_iff.2 (uleb_ne x)
  have hpl : p + (uleb x).length ≤ bs.length := by
    have := congrArg List.length hp
    simp at this; omega
  have hat := ulebAt_uleb 10 x [] hul
  obtain ⟨_, _, _, hhi⟩ := ulebAt_spec _ _ _ hat
  have hv : ulebVal (nat8 (uleb x)) = x := ulebVal_uleb (x + 1) x (by omega)
  have := readUleb (.slice (some ⟨bb, 0, none⟩) bs.length c) g p (nat8 bs) (nat8 (uleb x)) w h.blk (by rw [nat8_length]; have := h.data; rw [← By_nat8] at this; exact this) (by rw [nat8_length]; exact hl) (nat8_lt _) (by simp only [nat8_length]; exact hpl) (by
      intro i hi
      rw [nat8_length] at hi
      have e : bs[p + i]? = some (uleb x)[i] := by
        rw [← List.getElem?_drop, hp, List.getElem?_append_left hi, List.getElem?_eq_getElem hi]
      simp [nat8, e]) (by rw [nat8_length]; exact hu0) (by rw [nat8_length]; exact hul) hhi (by rw [hv]; exact hx)
  refine this.mono ?_
  rintro e w' ⟨rfl, hb, k⟩
  refine ⟨by rw [hv], ⟨by rw [nat8_length] at hb; exact hb, h.data.keep k (fun b hb e => ?_), h.cap, h.ne⟩, k⟩
  simp [Value.ownBlock] at hb
  unfold At at e
  exact h.ne (hb.trans e)
theorem bytes8_nat8 (bs : List UInt8) : bytes8 (nat8 bs) = bs := by
  simp only [bytes8, nat8, List.map_map]
  exact (List.map_congr_left (fun x _ => by simp)).trans (List.map_id bs)
theorem readS (g bb c p : Nat) (bs r : List UInt8) (s : ByteArray) (w : World) (h : RR w g bb c p bs) (hl : bs.length ≤ 1000000) (hpb : p ≤ bs.length) (hp : bs.drop p = s.data.toList ++ r) :
    Calls Tryz.prog 104 #[.pointer (some ⟨g, 0, none⟩), .int .i64 s.size] w fun e w' => e = .returned (.string s) ∧ RR w' g bb c (p + s.size) bs ∧ Keep (At g) w w' := by
  have hsl : s.data.toList.length = s.size := Array.length_toList
  have hpl : p + s.size ≤ bs.length := by
    have := congrArg List.length hp
    simp at this; omega
  have := readString bb c g p s.size (nat8 bs) w (by rw [nat8_length]; exact h.blk) (by rw [nat8_length, By_nat8]; exact h.data) (by rw [nat8_length]; exact h.cap) (by rw [nat8_length]; exact hl) (nat8_lt _) (by rw [nat8_length]; exact hpl) h.ne
  refine this.mono ?_
  rintro e w' ⟨rfl, hb, k⟩
  refine ⟨?_, ⟨by rw [nat8_length] at hb; exact hb, h.data.keep k (fun b hb e => ?_), h.cap, h.ne⟩, k⟩
  · have e1 : bytes8 (((nat8 bs).drop p).take s.size) = s.data.toList := by
      have := bytes8_nat8 bs
      rw [show bytes8 (((nat8 bs).drop p).take s.size) = ((bytes8 (nat8 bs)).drop p).take s.size by simp [bytes8, List.map_drop, List.map_take], this, hp, ← hsl, List.take_left]
    rw [e1]
  · simp [Value.ownBlock] at hb
    unfold At at e
    exact h.ne (hb.trans e)
/-- A reader of a table: its block, its reader, the texts it has read. -/
structure RT (w : World) (gt g bb c p : Nat) (bs : List UInt8) (v : Value) (all : List ByteArray) : Prop where
  blk : Blk w gt [.pointer (some ⟨g, 0, none⟩), v] 190
  rd : RR w g bb c p bs
  row : Row w 9 1 v all.length (Ts all)
  ne : gt ≠ g
  nb : bb ≠ gt
  nv : v.ownBlock ≠ some bb
  lt : bb < w.heap.size
theorem RT.move {w w' : World} {gt g bb c p q : Nat} {bs : List UInt8} {v : Value} {all : List ByteArray} (h : RT w gt g bb c p bs v all) (k : Keep (At g) w w') (r : RR w' g bb c q bs) : RT w' gt g bb c q bs v all where
  blk := h.blk.keep k h.ne
  rd := r
  row := h.row.keep k (fun b hb e => h.row.neBlk h.rd.blk (by decide) (by rw [hb]; exact congrArg some e))
  ne := h.ne
  nb := h.nb
  nv := h.nv
  lt := by have := k.size; have := h.lt; omega
theorem RT.far {w w' : World} {gt g bb c p : Nat} {bs : List UInt8} {v : Value} {all : List ByteArray} (h : RT w gt g bb c p bs v all) (k : Keep Non w w') : RT w' gt g bb c p bs v all where
  blk := h.blk.keep k (fun h => h)
  rd := h.rd.keep k (fun h => h) (fun h => h)
  row := h.row.keep k (fun _ _ h => h)
  ne := h.ne
  nb := h.nb
  nv := h.nv
  lt := by have := k.size; have := h.lt; omega
/-- One more text is kept. -/
theorem RT.put {w w' : World} {gt g bb c p : Nat} {bs : List UInt8} {v v' : Value} {all all' : List ByteArray} (h : RT w gt g bb c p bs v all) (gr : Grew w w' v v') (r : Row w' 9 1 v' all'.length (Ts all')) : RT (w'.setCell ⟨gt, 1, none⟩ v') gt g bb c p bs v' all' := by
  have hv1 : v.ownBlock ≠ some gt := h.row.neBlk h.blk (by decide)
  have hv2 : v.ownBlock ≠ some g := h.row.neBlk h.rd.blk (by decide)
  have hb1 : Blk w' gt [.pointer (some ⟨g, 0, none⟩), v] 190 := h.blk.keep gr.keep hv1
  have hb2 : RR w' g bb c p bs := h.rd.keep gr.keep hv2 h.nv
  have hr1 := r.neBlk hb1 (by decide)
  have K : Keep (At gt) w' (w'.setCell ⟨gt, 1, none⟩ v') := (Keep.refl _ _).setAt _ _ _ (atSelf _)
  refine ⟨by simpa using hb1.set 1 v', hb2.keep K (Ne.symm h.ne) h.nb, r.keep K (fun b hb e => hr1 (by rw [hb]; exact congrArg some e)), h.ne, h.nb, fun e => ?_, ?_⟩
  · rcases gr.lies e with e | e
    · exact h.nv e
    · have := h.lt; omega
  · have := K.size; have := gr.keep.size; have := h.lt; omega
theorem RT.c0 {w : World} {gt g bb c p : Nat} {bs : List UInt8} {v : Value} {all : List ByteArray} (h : RT w gt g bb c p bs v all) : w.cell? ⟨gt, 0, none⟩ = some (.pointer (some ⟨g, 0, none⟩)) := by rw [h.blk.cell]; rfl
theorem RT.c1 {w : World} {gt g bb c p : Nat} {bs : List UInt8} {v : Value} {all : List ByteArray} (h : RT w gt g bb c p bs v all) : w.cell? ⟨gt, 1, none⟩ = some v := by rw [h.blk.cell]; rfl
theorem RT.drew {w : World} {gt g bb c p : Nat} {bs : List UInt8} {v : Value} {all : List ByteArray} (h : RT w gt g bb c p bs v all) : RT w.drew gt g bb c p bs v all := h.far ((Keep.refl Non w).drewN 1)
theorem RT.alloc {w : World} {gt g bb c p : Nat} {bs : List UInt8} {v : Value} {all : List ByteArray} (h : RT w gt g bb c p bs v all) (u : Obj) : RT (w.alloc u) gt g bb c p bs v all := h.far ((Keep.refl Non w).alloc u)
theorem RT.blkG {w w' : World} {gt g bb c p : Nat} {bs : List UInt8} {v v' : Value} {all : List ByteArray} (h : RT w gt g bb c p bs v all) (gr : Grew w w' v v') : Blk w' gt [.pointer (some ⟨g, 0, none⟩), v] 190 := h.blk.keep gr.keep (h.row.neBlk h.blk (by decide))
theorem RT.rowk {w : World} {gt g bb c p k : Nat} {bs : List UInt8} {v : Value} {all : List ByteArray} (h : RT w gt g bb c p bs v all) (hk : all.length = k) : Row w 9 1 v k (Ts all) := hk ▸ h.row
/-- Where the text number k begins. -/
def tat (all : List ByteArray) (k : Nat) : Nat := (uleb all.length).length + ((all.take k).flatMap tone).length
theorem tat_drop {all : List ByteArray} {k : Nat} (hk : k < all.length) : (tbytes all).drop (tat all k) = uleb all[k].size ++ (all[k].data.toList ++ (all.drop (k + 1)).flatMap tone) := by
  have e : all = all.take k ++ (all[k] :: all.drop (k + 1)) := by simp
  have e2 : tbytes all = (uleb all.length ++ (all.take k).flatMap tone) ++ (uleb all[k].size ++ (all[k].data.toList ++ (all.drop (k + 1)).flatMap tone)) := by
    have : all.flatMap tone = (all.take k).flatMap tone ++ (tone all[k] ++ (all.drop (k + 1)).flatMap tone) := by
      conv => lhs; rw [e]
      rw [List.flatMap_append, List.flatMap_cons]
    rw [tbytes, this, tone]
    simp
  rw [e2, show tat all k = (uleb all.length ++ (all.take k).flatMap tone).length by simp [tat], List.drop_left]
theorem tat_succ {all : List ByteArray} {k : Nat} (hk : k < all.length) : tat all (k + 1) = tat all k + (uleb all[k].size).length + all[k].size := by
  have e : all[k].data.toList.length = all[k].size := Array.length_toList
  rw [tat, tones_snoc hk, List.length_append, tone, List.length_append, e, tat]
  omega
set_option maxRecDepth 100000 in
set_option maxHeartbeats 4000000 in
theorem rtRead (gt g bb c : Nat) (all : List ByteArray) (w : World) (h : RT w gt g bb c 0 (tbytes all) (.slice none 0 0) []) (hl : all.length ≤ 900) (hsz : ∀ s ∈ all, s.size ≤ 1000) :
    Calls Tryz.prog 91 #[.pointer (some ⟨gt, 0, none⟩)] w fun e w' => e = .returned (.tuple #[]) ∧ (∃ p v, RT w' gt g bb c p (tbytes all) v all) ∧ Keep (fun i => i = gt ∨ i = g) w w' := by
  have HSZ := Lib.hid hsz
  have htb : (tbytes all).length ≤ 1000000 := by
    have a := tones_len all hsz
    have b := uleb_len64 (v := all.length) (by unfold M64; omega)
    rw [tbytes, List.length_append]; omega
  have d0 := h.c0
  have d1 := h.c1
  have H := Lib.hid h
  clear h hsz
  go_enter Tryz.func91, Tryz.ntmps91
  go_wp2_with (go_at_call 93; go_must (refine (readU g bb c 0 (tbytes all) (all.flatMap tone) all.length _ H.out.rd (by unfold M64; omega) htb (by rw [List.drop_zero]; rfl)).mono ?_); rintro e w1 ⟨rfl, r1, k1⟩; have H1 := H.out.move k1 r1; have e0 := H1.c0; have e1 := H1.c1; have ef := H1.blk.free 1; obtain ⟨wm, mk, rm, gm⟩ := run_make_own (P := Tryz.prog) w1 0 24 9 _ (.string ⟨#[]⟩) 1 sliceStr.und (info_parts sliceStr.row).choose_spec.1 (info_parts sliceStr.row).choose_spec.2.1 (info_parts sliceStr.row).choose_spec.2.2.1 .i64 .i64 all.length (by rw [(info_parts sliceStr.row).choose_spec.2.2.2]; omega) (by unfold maxLen; omega) (Nat.zero_le _); have GM : Grew w1 wm (.slice none 0 0) (.slice (some ⟨w1.heap.size, 0, none⟩) 0 all.length) := ⟨gm, .inr rfl⟩; have hbm := H1.blk.keep GM.keep (by simp [Own, Value.ownBlock]); have em : wm.cell? ⟨gt, 1, none⟩ = some (.slice none 0 0) := (by rw [hbm.cell]; rfl); have fm := hbm.free 1)
  have HM : Hid (RT (wm.setCell ⟨gt, 1, none⟩ (.slice (some ⟨w1.heap.size, 0, none⟩) 0 all.length)) gt g bb c (tat all 0) (tbytes all) (.slice (some ⟨w1.heap.size, 0, none⟩) 0 all.length) (all.take 0)) := Lib.hid (by
    have := H1.put (all' := []) GM rm
    simpa [tat] using this)
  have KM : Hid (Keep (fun i => i = gt ∨ i = g) w (wm.setCell ⟨gt, 1, none⟩ (.slice (some ⟨w1.heap.size, 0, none⟩) 0 all.length))) := Lib.hid (by
    refine Keep.setAt ?_ _ _ _ (.inl rfl)
    refine Keep.trans (S' := Own (.slice none 0 0)) ?_ GM.keep (fun i _ e => by simp [Own, Value.ownBlock] at e)
    exact (Keep.refl _ _).trans k1 (fun i _ e => .inr e))
  have hw1 := k1.size
  clear GM hbm em fm mk rm gm ef e1 e0 H1 k1 r1
  go_wp2_with fail
  go_loopw [3] (fun i wr => ∃ (k : Nat) (v : Value), k ≤ all.length ∧ i = .int .i64 k ∧ RT wr gt g bb c (tat all k) (tbytes all) v (all.take k) ∧ (∀ b, v.ownBlock = some b → w.heap.size ≤ b) ∧ Keep (fun i => i = gt ∨ i = g) w wr) (fun i _ => all.length - (intOf i).toNat)
  case atStart => exact ⟨0, _, by omega, rfl, HM.out, fun b hb => by simp [Value.ownBlock] at hb; omega, KM.out⟩
  case round =>
    obtain ⟨k, v, hk, rfl, hR, hv, hkk⟩ := hrel
    by_cases hlt : k < all.length
    · have htl : (all.take k).length = k := by simp; omega
      obtain ⟨va, vc, rfl⟩ := (hR.rowk htl).reads.slice
      have hxs1 := HSZ.out _ (List.getElem_mem hlt)
      have hdr := tat_drop hlt
      have hsc := tat_succ hlt
      have hsn : all.take (k + 1) = all.take k ++ [all[k]] := List.take_succ_eq_append_getElem hlt
      have e0 := hR.c0
      have HR := Lib.hid hR
      have HV := Lib.hid hv
      have HK := Lib.hid hkk
      clear hR hv hkk
      generalize all[k] = s at *
      have hxs : s.size < M64 := by unfold M64; omega
      have hd2 : (tbytes all).drop (tat all k + (uleb s.size).length) = s.data.toList ++ (all.drop (k + 1)).flatMap tone := by
        rw [← List.drop_drop, hdr, List.drop_left]
      have hpl : tat all k + (uleb s.size).length ≤ (tbytes all).length := by
        have h1 := congrArg List.length hdr
        have h2 : 0 < (uleb s.size).length := List.length_pos_iff.2 (uleb_ne _)
        simp at h1; omega
      have HDR := Lib.hid hdr
      have HSC := Lib.hid hsc
      have HSN := Lib.hid hsn
      have HD2 := Lib.hid hd2
      have HPL := Lib.hid hpl
      have HTL := Lib.hid htl
      have hw3 : k + 1 ≤ maxLen := by unfold maxLen; omega
      have hw4 : (k + 1) * 16 ≤ 140737488355328 := by omega
      clear hdr hsc hsn hd2 hpl htl
      go_wp2_with (go_at_call 93; go_must (refine (readU g bb c _ (tbytes all) _ s.size _ HR.out.rd hxs htb HDR.out).mono ?_); rintro e w2 ⟨rfl, r2, k2⟩; have R2 := HR.out.move k2 r2; have x0 := R2.c0; have x1 := R2.c1)
      have hw5 : IntKind.i64.wrap (s.size : Int) = (s.size : Int) := IntWalk.i64_in _ (by omega)
      have H2 := Lib.hid R2
      have K2 := Lib.hid k2
      clear R2 r2 k2
      go_region_law (first
        | (go_simp; (go_at_call 104; go_must (refine (readS g bb c _ (tbytes all) _ s _ H2.out.drew.rd htb HPL.out HD2.out).mono ?_); rintro e w3 ⟨rfl, r3, k3⟩; have R3 := Lib.hid (H2.out.drew.move k3 r3); have y1 := R3.out.c1; have y2 := (R3.out.alloc (.cells #[.string s] 9)).c1))
        | (refine step_app (n := k) (xs := Ts (all.take k)) (m := 1) sliceStr rfl _ _ rfl rfl (Row.alloc (R3.out.rowk HTL.out) _) rfl (Reads.oneAt (by simp)) (by decide) (str_one _) hw3 hw4 ?_; intro v' w4 r4 g4; have B4 := (R3.out.alloc _).blkG g4; have z1 : w4.cell? ⟨gt, 1, none⟩ = some (.slice va k vc) := (by rw [B4.cell]; rfl); have z2 := B4.free 1; obtain ⟨vb, vd, rfl⟩ := r4.reads.slice))
      all_goals
        go_wp2_with fail
        go_roundw
        case measure => simp [intOf]; omega
        case rel =>
          have hpt := (R3.out.alloc _).put (all' := all.take (k + 1)) g4 (by
            have e : (all.take (k + 1)).length = k + 1 := by simp; omega
            rw [e, HSN.out, Ts_append]; exact r4)
          refine ⟨k + 1, _, by omega, by go_num, by rw [HSC.out]; exact hpt, fun b hb => ?_, ?_⟩
          · rcases g4.lies hb with e | e
            · exact HV.out b e
            · have a1 := HK.out.size; have a2 := K2.out.size; have a3 := k3.size
              simp at e a3; omega
          · refine Keep.setAt ?_ _ _ _ (.inl rfl)
            refine Keep.trans (S' := Own (.slice va k vc)) ?_ g4.keep (fun i hi e => by have := HV.out i e; omega)
            exact (((HK.out.trans K2.out (fun i _ e => .inr e)).drew).trans k3 (fun i _ e => .inr e)).alloc _
    · have hkl : k = all.length := by omega
      subst hkl
      rw [List.take_of_length_le (Nat.le_refl _)] at hR
      have HR := Lib.hid hR
      have HK := Lib.hid hkk
      clear hR hkk
      go_wp2
      go_end0
      exact ⟨rfl, ⟨_, _, HR.out⟩, HK.out⟩
set_option maxRecDepth 100000 in
theorem rtGet (gt g bb c p : Nat) (bs : List UInt8) (v : Value) (all : List ByteArray) (k : Nat) (w : World) (h : RT w gt g bb c p bs v all) (hl : all.length ≤ 1000) (hk : k < all.length) :
    Calls Tryz.prog 95 #[.pointer (some ⟨gt, 0, none⟩), .int .u32 k] w fun e w' => e = .returned (.string all[k]) ∧ w' = w := by
  obtain ⟨ba, ca, hva⟩ := h.row.at (by omega)
  subst hva
  have d1 := h.c1
  have d0 := h.row.cell k (by omega)
  rw [Ts_at hk] at d0
  generalize all[k] = s at *
  go_enter Tryz.func95, Tryz.ntmps95
  go_wp2
  go_ret
  exact ⟨rfl, rfl⟩
set_option maxRecDepth 100000 in
theorem rtNew (g : Nat) (w : World) :
    Calls Tryz.prog 90 #[.pointer (some ⟨g, 0, none⟩)] w fun e w' => e = .returned (.pointer (some ⟨w.heap.size, 0, none⟩)) ∧ Blk w' w.heap.size [.pointer (some ⟨g, 0, none⟩), .slice none 0 0] 190 ∧ Keep Non w w' := by
  go_enter Tryz.func90, Tryz.ntmps90
  go_wp2
  go_ret
  exact ⟨rfl, Blk.new w [.pointer (some ⟨g, 0, none⟩), .slice none 0 0] _, (Keep.refl _ _).alloc _⟩
end Go.Proofs.YtcpegoofbenoiaaGreatDoor
