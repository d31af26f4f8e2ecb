/-
  THE CONTRACT of impl.Write.
-/
import Derived.Test.YtfcdedcffmpjjaaSw2
import Derived.Lib.ConvBytes
namespace Go.Proofs.Ytfcdedcffmpjjaa
open Go.RowKit
open Go.ChangeShapes Go.WideShapes Go.ChangeAt Go.Deep

/-- The three cells of a step of a writer. -/
def three (m : Int × ByteArray × Int) : List Value := [.int .i64 m.1, .string m.2.1, .int .i64 m.2.2]
theorem three_length (m : Int × ByteArray × Int) : (three m).length = 3 := rfl
theorem three_at {w : World} {b off : Nat} {l : List (Int × ByteArray × Int)} (h : ∀ j u, (l.flatMap three)[j]? = some u → w.cell? ⟨b, off + j, none⟩ = some u) {k : Nat} (hk : k < l.length) :
    w.cell? ⟨b, off + k * 3, none⟩ = some (.int .i64 l[k].1) ∧ w.cell? ⟨b, off + k * 3 + 1, none⟩ = some (.string l[k].2.1) ∧ w.cell? ⟨b, off + k * 3 + 2, none⟩ = some (.int .i64 l[k].2.2) :=
  ⟨h (k * 3 + 0) _ (flat_get three_length l k 0 hk (by decide)), h (k * 3 + 1) _ (flat_get three_length l k 1 hk (by decide)), h (k * 3 + 2) _ (flat_get three_length l k 2 hk (by decide))⟩
def I64s (l : List Int) : List Value := l.map (.int .i64)
theorem I64s_append (a b : List Int) : I64s (a ++ b) = I64s a ++ I64s b := by simp [I64s]
/-- What a step of a writer tells and makes: what is told, what is written, the place. -/
def wstep (st : List Int × List UInt8 × Nat) (m : Int × ByteArray × Int) : List Int × List UInt8 × Nat :=
  if m.1 = 0 then (st.1 ++ [(m.2.1.size : Int)], wrote st.2.1 st.2.2 m.2.1.data.toList, st.2.2 + m.2.1.size)
  else
    let T := seekTo (m.1 - 1).toNat st.2.2 st.2.1.length m.2.2
    if 0 ≤ T ∧ T ≤ st.2.1.length then (st.1 ++ [T], st.2.1, T.toNat) else (st.1 ++ [-1], st.2.1, st.2.2)
def wrun (l : List (Int × ByteArray × Int)) : List Int × List UInt8 × Nat := l.foldl wstep ([], [], 0)
theorem wrun_snoc {l : List (Int × ByteArray × Int)} {k : Nat} (h : k < l.length) : wrun (l.take (k + 1)) = wstep (wrun (l.take k)) l[k] := by
  rw [List.take_succ_eq_append_getElem h, wrun, List.foldl_append]; rfl
/-- A step of which something is stated. -/
def vstep (m : Int × ByteArray × Int) : Prop := 0 ≤ m.1 ∧ m.1 ≤ 3 ∧ -600 ≤ m.2.2 ∧ m.2.2 ≤ 600 ∧ m.2.1.size ≤ 40
theorem seekTo_eq {m : Int} (wh p len : Nat) (n : Int) (h : (m - 1).toNat = wh) : seekTo (m - 1).toNat p len n = seekTo wh p len n := by rw [h]
theorem wstep_bd {st : List Int × List UInt8 × Nat} {m : Int × ByteArray × Int} (hp : st.2.2 ≤ st.2.1.length) (hm : m.2.1.size ≤ 40) :
    (wstep st m).2.2 ≤ (wstep st m).2.1.length ∧ (wstep st m).2.1.length ≤ st.2.1.length + 40 ∧ (wstep st m).1.length = st.1.length + 1 := by
  have hs : m.2.1.data.toList.length = m.2.1.size := Array.length_toList
  unfold wstep
  split
  · have := wrote_length (ds := m.2.1.data.toList) hp
    rw [hs] at this
    simp only [List.length_append, List.length_singleton]
    rw [this]
    refine ⟨Nat.le_max_right _ _, ?_, trivial⟩
    rcases Nat.le_total st.2.1.length (st.2.2 + m.2.1.size) with h | h
    · rw [Nat.max_eq_right h]; omega
    · rw [Nat.max_eq_left h]; omega
  · generalize seekTo (m.1 - 1).toNat st.2.2 st.2.1.length m.2.2 = T
    simp only []
    split
    · simp; omega
    · simp; omega
/-- []byte(s). -/
theorem conv (W : World) (s : ByteArray) : ∃ W' c, (convert 9 28 (.string s)).run Try.prog W = .ok (.slice (some ⟨W.heap.size, 0, none⟩) s.size c) W' ∧ Keep Non W W' ∧ Reads W' 1 (.slice (some ⟨W.heap.size, 0, none⟩) s.size c) s.size (B s.data.toList) ∧ W'.heap.size = W.heap.size + 1 := by
  have hs : s.data.toList.length = s.size := Array.length_toList
  refine ⟨_, _, Lib.run_convert_string_bytes W 9 28 5 s Try.underlying9 Try.underlying28 Try.underlying5, ⟨rfl, rfl, rfl, by rw [Lib.bytesWorld_size]; omega, fun k hk _ => Lib.bytesWorld_at_old W _ s k hk⟩, ⟨by rw [B_length, hs]; simp, .inr ⟨_, _, rfl, fun j u hj => ?_⟩⟩, Lib.bytesWorld_size W _ s⟩
  have hjl : j < s.size := by
    have := (List.getElem?_eq_some_iff.1 hj).1
    rw [B_length, hs] at this; exact this
  rw [addr_add, Nat.zero_add, Lib.bytesWorld_cell W _ s j hjl]
  rw [B_get, List.getElem?_eq_getElem (by omega)] at hj
  rw [← hj, List.getD_eq_getElem?_getD, List.getElem?_eq_getElem (by omega)]
  rfl
theorem sliceInt : SliceT Try.prog 51 3 (.int .i64 0) 1 8 := ⟨Try.underlying51, by kernel_rfl, rfl, by decide⟩
/-- Between two steps. -/
structure WI (w wr : World) (g : Nat) (vt vp : Value) (told : List Int) (p : Nat) (out : List UInt8) : Prop where
  nums : Row wr 3 1 vt told.length (I64s told)
  pay : Wr wr g vp p out
  keep : Keep Non w wr
  lt : ∀ b, vt.ownBlock = some b → w.heap.size ≤ b
  lp : ∀ b, vp.ownBlock = some b → w.heap.size ≤ b
  gw : w.heap.size ≤ g
theorem WI.far {w W W' : World} {g : Nat} {vt vp : Value} {told : List Int} {p : Nat} {out : List UInt8} (h : WI w W g vt vp told p out) (k : Keep Non W W') : WI w W' g vt vp told p out :=
  ⟨h.nums.keep k (fun _ _ h => h), ⟨h.pay.blk.keep k (fun h => h), h.pay.row.keep k (fun _ _ h => h), h.pay.le⟩, h.keep.trans k (fun _ _ h => h), h.lt, h.lp, h.gw⟩
theorem WI.alloc {w W : World} {g : Nat} {vt vp : Value} {told : List Int} {p : Nat} {out : List UInt8} (h : WI w W g vt vp told p out) (X : Obj) : WI w (W.alloc X) g vt vp told p out := h.far ((Keep.refl _ _).alloc X)
theorem WI.write {w W W' : World} {g : Nat} {vt vp vp' : Value} {told : List Int} {p p' : Nat} {out out' : List UInt8} (h : WI w W g vt vp told p out) (hw : Wr W' g vp' p' out') (k : Keep (fun i => i = g ∨ vp.ownBlock = some i) W W')
    (hl : ∀ b, vp'.ownBlock = some b → vp.ownBlock = some b ∨ W.heap.size ≤ b) : WI w W' g vt vp' told p' out' where
  nums := h.nums.keep k (fun b hb e => by
    rcases e with e | e
    · exact h.nums.neBlk h.pay.blk (by decide) (e ▸ hb)
    · exact h.nums.ne h.pay.row (by decide) hb e)
  pay := hw
  keep := h.keep.trans k (fun i hi e => by
    rcases e with e | e
    · have := h.gw; omega
    · have := h.lp i e; omega)
  lt := h.lt
  lp := fun b hb => by
    rcases hl b hb with e | e
    · exact h.lp b e
    · have := h.keep.size; omega
  gw := h.gw
theorem WI.seek {w W W' : World} {g : Nat} {vt vp : Value} {told : List Int} {p p' : Nat} {out : List UInt8} (h : WI w W g vt vp told p out) (hb : Blk W' g (wcells vp p') 100) (k : Keep (At g) W W') (hp : p' ≤ out.length) : WI w W' g vt vp told p' out :=
  h.write ⟨hb, h.pay.row.keep k (fun b hb' e => by unfold At at e; exact h.pay.ne (e ▸ hb')), hp⟩ (k.mono fun _ _ e => .inl e) (fun _ hb => .inl hb)
theorem WI.tell {w W : World} {g : Nat} {vt vp : Value} {told : List Int} {p : Nat} {out : List UInt8} (h : WI w W g vt vp told p out) {u : Obj} {w1 : World} {v' : Value} {n : Int}
    (r : Row w1 3 1 v' (told.length + 1) (I64s told ++ [.int .i64 n])) (gr : Grew (W.alloc u) w1 vt v') : WI w w1 g v' vp (told ++ [n]) p out where
  nums := by simpa [I64s_append, I64s] using r
  pay := ⟨(h.pay.blk.alloc u).keep gr.keep (fun e => h.nums.neBlk h.pay.blk (by decide) e), (h.pay.row.alloc u).keep gr.keep (fun b hb e => h.nums.ne h.pay.row (by decide) e hb), h.pay.le⟩
  keep := (h.keep.alloc u).trans gr.keep (fun i hi e => by have := h.lt i e; omega)
  lt := fun b hb => by
    rcases gr.lies hb with e | e
    · exact h.lt b e
    · have := h.keep.size; simp at e; omega
  lp := h.lp
  gw := h.gw
/-- What impl.Write has done. -/
def WritePost (l : List (Int × ByteArray × Int)) (w : World) (e : Ending) (w' : World) : Prop :=
  ∃ v1 v2, e = .returned (.tuple #[v1, v2]) ∧ Row w' 3 1 v1 (wrun l).1.length (I64s (wrun l).1) ∧ Row w' 5 1 v2 (wrun l).2.1.length (B (wrun l).2.1) ∧ Keep Non w w'
set_option maxRecDepth 100000 in
set_option maxHeartbeats 4000000 in
theorem write_impl (sv : Value) (l : List (Int × ByteArray × Int)) (w : World) (hs : Reads w 3 sv l.length (l.flatMap three)) (hll : l.length ≤ 1000) (hv : ∀ m ∈ l, vstep m) :
    Calls Try.prog 28 #[sv] w (WritePost l w) := by
  obtain ⟨aa, ca, rfl⟩ := hs.slice
  have HV := Lib.hid hv
  clear hv
  have I0 : WI w ((w.alloc (.cells #[.slice none 0 0, .int .i64 0] 100)).alloc (.cells #[] 3)) w.heap.size (.slice (some ⟨w.heap.size + 1, 0, none⟩) 0 0) (.slice none 0 0) [] 0 [] :=
    { nums := by
        have := Row.lit (w.alloc (.cells #[.slice none 0 0, .int .i64 0] 100)) 3 1 [] 0 (by decide) rfl
        rw [show (w.alloc (.cells #[.slice none 0 0, .int .i64 0] 100)).heap.size = w.heap.size + 1 by simp] at this
        exact this
      pay := ⟨(Blk.new w (wcells (.slice none 0 0) 0) 100).alloc _, Row.nil _ _ _, Nat.le_refl _⟩
      keep := ((Keep.refl _ _).alloc _).alloc _
      lt := fun b hb => by simp [Value.ownBlock] at hb; omega
      lp := fun b hb => by simp [Value.ownBlock] at hb
      gw := Nat.le_refl _ }
  have HI0 := Lib.hid I0
  clear I0
  go_enter Try.func28, Try.ntmps28
  go_wp2
  go_loopw [5, 17] (fun vt i wr => ∃ (k : Nat) (st : List Int × List UInt8 × Nat) (vp : Value), k ≤ l.length ∧ i = .int .i64 k ∧ wrun (l.take k) = st ∧ st.2.2 ≤ st.2.1.length ∧ st.2.1.length ≤ 40 * k ∧ st.1.length = k ∧ WI w wr w.heap.size vt vp st.1 st.2.2 st.2.1) (fun _ i _ => l.length - (intOf i).toNat)
  case atStart => exact ⟨0, _, _, by omega, rfl, rfl, by simp [wrun], by simp [wrun], rfl, HI0.out⟩
  case round =>
    obtain ⟨k, st, vp, hk, rfl, hst, hp, hln, hkl, hI⟩ := hrel
    by_cases hlt : k < l.length
    · obtain ⟨ba, offa, ca', hva, hca⟩ := hs.at (by omega) (by omega)
      cases hva
      obtain ⟨c0, c1, c2⟩ := three_at hca hlt
      have d0 := hI.keep.cell c0 (fun h => h)
      have d1 := hI.keep.cell c1 (fun h => h)
      have d2 := hI.keep.cell c2 (fun h => h)
      have hstep := wrun_snoc hlt
      rw [hst] at hstep
      obtain ⟨v1, v2, v3, v4, v5⟩ := HV.out _ (List.getElem_mem hlt)
      have hbd := wstep_bd (st := st) (m := l[k]) hp v5
      rw [← hstep] at hbd
      have HS' := Lib.hid hstep
      have HBD := Lib.hid hbd
      have HKL := Lib.hid hkl
      have hkl1 : st.1.length ≤ 1000 := by omega
      have hI0 := hI
      have HI := Lib.hid hI
      clear hst hstep hbd hca c0 c1 c2 hI hI0 hkl
      obtain ⟨told, out, p⟩ := st
      generalize l[k] = x at *
      obtain ⟨x1, xd, x2⟩ := x
      simp only [] at d0 d1 d2 v1 v2 v3 v4 v5 hp hln hkl1
      by_cases h0 : x1 = 0
      · subst h0
        obtain ⟨W1, cp, hcv, kc, rc, zc⟩ := conv (wr.alloc (.cells #[.int .i64 0, .string xd, .int .i64 x2] 95)) xd
        have esz : (wr.alloc (.cells #[.int .i64 0, .string xd, .int .i64 x2] 95)).heap.size = wr.heap.size + 1 := by simp
        rw [esz] at hcv rc zc
        have hxs : xd.data.toList.length = xd.size := Array.length_toList
        have RC : Hid (Reads W1 1 (.slice (some ⟨wr.heap.size + 1, 0, none⟩) xd.size cp) xd.data.toList.length (B xd.data.toList)) := Lib.hid (by rw [hxs]; exact rc)
        have I1 := Lib.hid ((HI.out.alloc (.cells #[.int .i64 0, .string xd, .int .i64 x2] 95)).far kc)
        have HNE : Hid (0 < xd.data.toList.length → ∀ b, (Value.slice (some ⟨wr.heap.size + 1, 0, none⟩) xd.size cp).ownBlock = some b → b ≠ w.heap.size ∧ vp.ownBlock ≠ some b) := Lib.hid (fun _ b hb => by
          simp [Value.ownBlock] at hb
          subst hb
          have h1 := HI.out.pay.blk.lt
          refine ⟨by omega, fun e => ?_⟩
          have := HI.out.pay.row.lt e
          omega)
        have hdl : xd.data.toList.length ≤ 4000000000 := by omega
        have hol : out.length ≤ 4000000000 := by omega
        have HXS := Lib.hid hxs
        clear kc rc zc esz hxs
        go_wp2_with (first
          | (go_at_call 46; go_must (refine (swrite w.heap.size vp _ p out xd.data.toList _ I1.out.pay RC.out hol hdl HNE.out).mono ?_); rintro e w2 ⟨vp', rfl, hw2, k2, l2⟩; have I2 := I1.out.write hw2 k2 l2)
          | (at_builtin; go_must (refine wpList_app (n := told.length) (xs := I64s told) (m := 1) sliceInt rfl _ _ rfl rfl (Row.alloc I2.nums _) rfl (Reads.oneAt (by simp)) (int_one _ _) (by unfold maxLen; omega) (by omega) ?_); intro v' w3 r3 g3 n3))
        have hw : wstep (told, out, p) ((0 : Int), xd, x2) = (told ++ [(xd.data.toList.length : Int)], wrote out p xd.data.toList, p + xd.data.toList.length) := by
          unfold wstep
          rw [if_pos rfl]
          rfl
        have hs' := HS'.out.trans hw
        have hbd := HBD.out
        rw [hs'] at hbd
        have hkl := HKL.out
        go_roundw
        case measure => simp [intOf]; omega
        case rel => exact ⟨k + 1, _, vp', by omega, by go_num, hs', hbd.1, by have := hbd.2.1; simp only [] at this ⊢; omega, by have := hbd.2.2; simp only [] at this hkl ⊢; omega, I2.tell r3 g3⟩
      · have hx : ∃ wh : Nat, x1 = wh + 1 ∧ wh ≤ 2 := ⟨(x1 - 1).toNat, by omega, by omega⟩
        obtain ⟨wh, rfl, hwh⟩ := hx
        have hw : wstep (told, out, p) ((wh : Int) + 1, xd, x2) = if 0 ≤ seekTo wh p out.length x2 ∧ seekTo wh p out.length x2 ≤ out.length then (told ++ [seekTo wh p out.length x2], out, (seekTo wh p out.length x2).toNat) else (told ++ [-1], out, p) := by
          simp only [wstep]
          rw [if_neg (by omega), show ((wh : Int) + 1 - 1).toNat = wh by omega]
        have hs' := HS'.out.trans hw
        have hbd := HBD.out
        rw [hs'] at hbd
        obtain ⟨va, vc, rfl⟩ := HI.out.pay.row.reads.slice
        obtain ⟨T, hTe⟩ : ∃ T, seekTo wh p out.length x2 = T := ⟨_, rfl⟩
        rw [hTe] at hs' hbd
        have HTE := Lib.hid hTe
        clear hTe hw HS' HBD h0
        by_cases hT : 0 ≤ T ∧ T ≤ out.length
        · rw [if_pos hT] at hs' hbd
          have HT := Lib.hid hT
          have HS' := Lib.hid hs'
          have HBD := Lib.hid hbd
          clear hT hs' hbd
          go_wp2_with (first
            | (go_at_call 47; go_must (refine (wseek va vc out.length w.heap.size p x2 wh _ hwh ((HI.out.alloc _).pay.blk) (by omega) hp (by omega) (by omega)).mono ?_); rw [HTE.out]; rintro e w2 ⟨at', r, rfl, he, hb2, k2, ha⟩; rw [decide_eq_true HT.out] at he; obtain rfl : r = .nilIface := he; rw [if_pos HT.out] at hb2; obtain rfl : at' = T := ha HT.out; clear ha; have I2 := (HI.out.alloc _).seek hb2 k2 (by have := HT.out; omega))
            | (at_builtin; go_must (refine wpList_app (n := told.length) (xs := I64s told) (m := 1) sliceInt rfl _ _ rfl rfl (Row.alloc I2.nums _) rfl (Reads.oneAt (by simp)) (int_one _ _) (by unfold maxLen; omega) (by omega) ?_); intro v' w3 r3 g3 n3))
          have hkl := HKL.out
          have hbd := HBD.out
          go_roundw
          case measure => simp [intOf]; omega
          case rel => exact ⟨k + 1, _, _, by omega, by go_num, HS'.out, hbd.1, by have := hbd.2.1; simp only [] at this ⊢; omega, by have := hbd.2.2; simp only [] at this hkl ⊢; omega, I2.tell r3 g3⟩
        · rw [if_neg hT] at hs' hbd
          have HT := Lib.hid hT
          have HS' := Lib.hid hs'
          have HBD := Lib.hid hbd
          clear hT hs' hbd
          go_wp2_with (first
            | (go_at_call 47; go_must (refine (wseek va vc out.length w.heap.size p x2 wh _ hwh ((HI.out.alloc _).pay.blk) (by omega) hp (by omega) (by omega)).mono ?_); rw [HTE.out]; rintro e w2 ⟨at', r, rfl, he, hb2, k2, ha⟩; rw [decide_eq_false HT.out] at he; obtain ⟨t, b, rfl⟩ : ∃ t b, r = .iface t (.pointer (some b)) := he; rw [if_neg HT.out] at hb2; clear ha; have I2 := (HI.out.alloc _).seek hb2 k2 hp)
            | (at_builtin; go_must (refine wpList_app (n := told.length) (xs := I64s told) (m := 1) sliceInt rfl _ _ rfl rfl (Row.alloc I2.nums _) rfl (Reads.oneAt (by simp)) (int_one _ _) (by unfold maxLen; omega) (by omega) ?_); intro v' w3 r3 g3 n3))
          have hkl := HKL.out
          have hbd := HBD.out
          go_roundw
          case measure => simp [intOf]; omega
          case rel => exact ⟨k + 1, _, _, by omega, by go_num, HS'.out, hbd.1, by have := hbd.2.1; simp only [] at this ⊢; omega, by have := hbd.2.2; simp only [] at this hkl ⊢; omega, I2.tell r3 g3⟩
    · have hkl' : k = l.length := by omega
      subst hkl'
      rw [List.take_of_length_le (Nat.le_refl _)] at hst
      have HST := Lib.hid hst
      have hol : st.2.1.length ≤ 4000000000 := by omega
      have HI := Lib.hid hI
      clear hst hI
      obtain ⟨told, out, p⟩ := st
      simp only [] at hol hp hln hkl
      clear hkl
      go_wp2_with (first
        | (go_at_call 48; go_must (refine (wbytes vp w.heap.size p _ (HI.out.alloc _).pay.blk).mono ?_); rintro e w2 ⟨rfl, rfl⟩)
        | (at_builtin; go_must (refine wpList_app sliceBytes rfl (.tmp 56) (.tmp 58) rfl rfl (Row.lit wr 5 1 [] 0 (by decide) rfl) rfl (HI.out.alloc _).pay.row.reads (B_one _) (by unfold maxLen; omega) (by omega) ?_); intro v2 w2 r2 g2 n2))
      go_ret2
      obtain ⟨kc, lc⟩ := g2.copied rfl
      refine ⟨_, _, rfl, ?_, ?_, HI.out.keep.trans kc (fun _ _ h => h)⟩
      · rw [HST.out]; exact HI.out.nums.keep kc (fun _ _ h => h)
      · rw [HST.out]; simpa using r2
end Go.Proofs.Ytfcdedcffmpjjaa
