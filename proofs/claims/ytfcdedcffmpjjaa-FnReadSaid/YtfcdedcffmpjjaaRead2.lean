/-
  THE CONTRACT of impl.Read, all of its steps.
-/
import Derived.Test.YtfcdedcffmpjjaaCopy
import Derived.Deep.OwnRows
namespace Go.Proofs.Ytfcdedcffmpjjaa
open Go.RowKit
open Go.ChangeShapes Go.WideShapes Go.ChangeAt Go.Deep
open Plain (M64)

/-- A text of some bytes. -/
def txt (l : List Nat) : ByteArray := ⟨(bytes8 l).toArray⟩
/-- What one step tells, all steps. -/
def rstep2 (bs : List Nat) (st : Nat × List Nat × List ByteArray) (x : Int × Int) : Option (Nat × List Nat × List ByteArray) :=
  if x.1 = 0 then if st.1 + 1 ≤ bs.length then some (st.1 + 1, st.2.1 ++ [bs.getD st.1 0], st.2.2) else none
  else if x.1 = 1 then if st.1 + 4 ≤ bs.length then some (st.1 + 4, st.2.1 ++ [leVal ((bs.drop st.1).take 4)], st.2.2) else none
  else if x.1 = 2 then if st.1 + 8 ≤ bs.length then some (st.1 + 8, st.2.1 ++ [leVal ((bs.drop st.1).take 8)], st.2.2) else none
  else if x.1 = 4 then if 0 ≤ x.2 ∧ st.1 + x.2.toNat ≤ bs.length then some (st.1 + x.2.toNat, st.2.1, st.2.2 ++ [txt ((bs.drop st.1).take x.2.toNat)]) else none
  else if x.1 = 8 then if 0 ≤ x.2 then some (st.1 + min x.2.toNat (bs.length - st.1), st.2.1, st.2.2 ++ [txt ((bs.drop st.1).take x.2.toNat)]) else none
  else rstep bs st x
theorem rstep2_cases {bs : List Nat} {st st' : Nat × List Nat × List ByteArray} {x : Int × Int} (h : rstep2 bs st x = some st') :
    (x.1 = 0 ∧ st.1 + 1 ≤ bs.length ∧ ∃ b, bs[st.1]? = some b ∧ (st.1 + 1, st.2.1 ++ [b], st.2.2) = st') ∨
    (x.1 = 1 ∧ st.1 + 4 ≤ bs.length ∧ (st.1 + 4, st.2.1 ++ [leVal ((bs.drop st.1).take 4)], st.2.2) = st') ∨
    (x.1 = 2 ∧ st.1 + 8 ≤ bs.length ∧ (st.1 + 8, st.2.1 ++ [leVal ((bs.drop st.1).take 8)], st.2.2) = st') ∨
    (∃ m : Nat, x.1 = 4 ∧ x.2 = (m : Int) ∧ st.1 + m ≤ bs.length ∧ (st.1 + m, st.2.1, st.2.2 ++ [txt ((bs.drop st.1).take m)]) = st') ∨
    (∃ m : Nat, x.1 = 8 ∧ x.2 = (m : Int) ∧ (st.1 + min m (bs.length - st.1), st.2.1, st.2.2 ++ [txt ((bs.drop st.1).take m)]) = st') ∨ rstep bs st x = some st' := by
  unfold rstep2 at h
  split at h
  · next hx =>
    split at h
    · next hp =>
      simp only [Option.some.injEq] at h
      refine .inl ⟨hx, hp, bs.getD st.1 0, ?_, h⟩
      rw [List.getD_eq_getElem?_getD, List.getElem?_eq_getElem (by omega)]
      rfl
    · cases h
  · split at h
    · next hx =>
      split at h
      · next hp =>
        simp only [Option.some.injEq] at h
        exact .inr (.inl ⟨hx, hp, h⟩)
      · cases h
    · split at h
      · next hx =>
        split at h
        · next hp =>
          simp only [Option.some.injEq] at h
          exact .inr (.inr (.inl ⟨hx, hp, h⟩))
        · cases h
      · split at h
        · next hx =>
          split at h
          · next hp =>
            simp only [Option.some.injEq] at h
            exact .inr (.inr (.inr (.inl ⟨x.2.toNat, hx, (Int.toNat_of_nonneg hp.1).symm, hp.2, h⟩)))
          · cases h
        · split at h
          · next hx =>
            split at h
            · next hp =>
              simp only [Option.some.injEq] at h
              exact .inr (.inr (.inr (.inr (.inl ⟨x.2.toNat, hx, (Int.toNat_of_nonneg hp).symm, h⟩))))
            · cases h
          · exact .inr (.inr (.inr (.inr (.inr h))))
theorem rstep2_le {bs : List Nat} {st st' : Nat × List Nat × List ByteArray} {x : Int × Int} (h : rstep2 bs st x = some st') (hp : st.1 ≤ bs.length) : st'.1 ≤ bs.length ∧ st'.2.1.length ≤ st.2.1.length + 1 ∧ st'.2.2.length ≤ st.2.2.length + 1 := by
  rcases rstep2_cases h with ⟨_, h1, b, _, rfl⟩ | ⟨_, h1, rfl⟩ | ⟨_, h1, rfl⟩ | ⟨m, _, _, h1, rfl⟩ | ⟨m, _, _, rfl⟩ | h
  · exact ⟨h1, by simp, by simp⟩
  · exact ⟨h1, by simp, by simp⟩
  · exact ⟨h1, by simp, by simp⟩
  · exact ⟨h1, by simp, by simp⟩
  · exact ⟨by simp only []; omega, by simp, by simp⟩
  · exact rstep_le h hp
def rrun2 (bs : List Nat) (l : List (Int × Int)) : Option (Nat × List Nat × List ByteArray) := l.foldlM (rstep2 bs) (0, [], [])
theorem rrun2_snoc (bs : List Nat) {l : List (Int × Int)} {k : Nat} (h : k < l.length) : rrun2 bs (l.take (k + 1)) = (rrun2 bs (l.take k)).bind fun st => rstep2 bs st l[k] := by
  rw [List.take_succ_eq_append_getElem h, rrun2, List.foldlM_append]
  simp [rrun2]
theorem rrun2_some (bs : List Nat) {l : List (Int × Int)} {fin : Nat × List Nat × List ByteArray} (h : rrun2 bs l = some fin) (k : Nat) : ∃ st, rrun2 bs (l.take k) = some st := by
  have e : l = l.take k ++ l.drop k := (List.take_append_drop k l).symm
  rw [e, rrun2, List.foldlM_append] at h
  cases hr : rrun2 bs (l.take k) with
  | some st => exact ⟨st, rfl⟩
  | none => rw [rrun2] at hr; rw [hr] at h; simp at h
theorem sliceStr : SliceT Try.prog 33 9 (.string ⟨#[]⟩) 1 16 := ⟨Try.underlying33, by kernel_rfl, rfl, by decide⟩
theorem str_one (s : ByteArray) : ∀ u ∈ [Value.string s], u.oneCell' = true := by
  intro u hu
  simp at hu
  subst hu; rfl
theorem leVal_lt4 {l : List Nat} (h : ∀ x ∈ l, x < 256) (hl : l.length = 4) : leVal l < 4294967296 := by
  obtain ⟨b0, b1, b2, b3, rfl⟩ := four hl
  have h0 := h b0 (by simp)
  have h1 := h b1 (by simp)
  have h2 := h b2 (by simp)
  have h3 := h b3 (by simp)
  simp only [leVal]
  omega
theorem made_len (m : Nat) : (madeCells #[.int .u8 0] m).toList.length = m := by
  simp [size_madeCells]
theorem keepInto {W w2 : World} {Y : Obj} {g gb : Nat} (k : Keep (fun i => i = g ∨ i = gb) (W.alloc Y) w2) (h : gb = W.heap.size) : Keep (At g) W w2 :=
  ((Keep.refl _ W).alloc Y).trans k (fun i hi e => by
    rcases e with e | e
    · exact e
    · omega)
theorem into_reads {w : World} {gb p m am : Nat} {zs : List Value} {bs : List Nat} {T : TypeId} (hb : Blk w gb (splice zs 0 ((By (bs.drop p)).take (min (bs.length - p) m))) T) (ham : am = min m (bs.length - p)) (h8 : ∀ x ∈ bs, x < 256) :
    Reads w 1 (.slice (some ⟨gb, 0, none⟩) am m) am (B (bytes8 ((bs.drop p).take m))) := by
  have hm : ∀ x ∈ (bs.drop p).take m, x < 256 := fun x h => h8 x (List.mem_of_mem_drop (List.mem_of_mem_take h))
  rw [← By_bytes8 hm]
  refine ⟨by simp [By]; omega, .inr ⟨_, _, rfl, fun j u hj => ?_⟩⟩
  have hjl : j < am := by
    have := (List.getElem?_eq_some_iff.1 hj).1
    simp [By] at this; omega
  have hcl : ((By (bs.drop p)).take (min (bs.length - p) m)).length = am := by simp [By]; omega
  rw [addr_add, Nat.zero_add, hb.cell]
  simp only [splice, List.take_zero, List.nil_append]
  rw [List.getElem?_append_left (by omega), List.getElem?_take_of_lt (by omega)]
  simp only [By, List.getElem?_map] at hj ⊢
  rw [List.getElem?_take_of_lt (by omega)] at hj
  exact hj
theorem nonnil {w w' : World} {T : TypeId} {g0 : Nat} {v : Value} {n : Nat} {xs : List Value} (h : Row w' T 1 v n xs) (g : Grew w w' (.slice (some ⟨g0, 0, none⟩) 0 0) v) : ∃ gd c, v = .slice (some ⟨gd, 0, none⟩) n c ∧ n ≤ c := by
  rcases h.shape with ⟨rfl, _⟩ | ⟨gd, c, rfl, hc⟩
  · rcases g.loc with h | h <;> simp [Value.ownBlock] at h
  · exact ⟨gd, c, rfl, hc⟩
theorem RInv.text {w W : World} {bs : List Nat} {g : Nat} {a1 : Option Addr} {c1 : Nat} {vn vt : Value} {st : Nat × List Nat × List ByteArray} (h : RInv w W bs g a1 c1 vn vt st) {u : Obj} {w1 : World} {v' : Value} {s : ByteArray}
    (r : Row w1 9 1 v' (st.2.2.length + 1) (Ts st.2.2 ++ [.string s])) (gr : Grew (W.alloc u) w1 vt v') : RInv w w1 bs g a1 c1 vn v' (st.1, st.2.1, st.2.2 ++ [s]) where
  texts := by simpa [Ts_append, Ts] using r
  nums := (h.nums.alloc u).keep gr.keep (fun b hb e => h.nums.ne h.texts (by decide) hb e)
  rd := (h.rd.alloc u).keep gr.keep (fun e => h.texts.neBlk h.rd (by decide) e)
  data := (h.data.alloc u).keep gr.keep (fun b hb e => h.data.ne h.texts (by decide) hb e)
  keep := (h.keep.alloc u).trans gr.keep (fun i hi e => by have := h.lt i e; omega)
  lt := fun b hb => by
    rcases gr.lies hb with e | e
    · exact h.lt b e
    · have := h.keep.size; simp at e; omega
  ln := h.ln
  gw := h.gw
set_option maxRecDepth 100000 in
set_option maxHeartbeats 4000000 in
theorem read_impl2 (dv sv : Value) (bs : List Nat) (l : List (Int × Int)) (w : World) (hd : Reads w 1 dv bs.length (By bs)) (hs : Reads w 2 sv l.length (l.flatMap two)) (hbl : bs.length ≤ 1000000) (hll : l.length ≤ 1000)
    (h8 : ∀ x ∈ bs, x < 256) (hn : ∀ m ∈ l, -1000000 ≤ m.2 ∧ m.2 ≤ 1000000) (fin : Nat × List Nat × List ByteArray) (hrun : rrun2 bs l = some fin) :
    Calls Try.prog 34 #[dv, sv] w fun e w' => ∃ v1 v2, e = .returned (.tuple #[v1, v2]) ∧ Row w' 29 1 v1 fin.2.1.length (U64 fin.2.1) ∧ Row w' 9 1 v2 fin.2.2.length (Ts fin.2.2) ∧ Keep Non w w' := by
  obtain ⟨aa, ca, rfl⟩ := hs.slice
  obtain ⟨ab, cb, rfl⟩ := hd.slice
  have H8 := Lib.hid h8
  have HN := Lib.hid hn
  have HR := Lib.hid hrun
  clear h8 hn hrun
  go_enter Try.func34, Try.ntmps34
  go_wp2_with (first
    | (at_builtin; go_must (refine wpList_app sliceBytes rfl (.tmp 16) (.tmp 17) rfl rfl (Row.lit w 5 1 [] 0 (by decide) rfl) rfl (hd.alloc _) (bytes_one _) (by unfold maxLen; omega) (by omega) ?_); intro v1 w1 r1 g1 n1; have r1' : Row w1 5 1 v1 bs.length (By bs) := by simpa using r1
       have k1 := (g1.copied rfl).1
       obtain ⟨gd, c1, rfl, hc1⟩ := nonnil r1' g1
       clear r1 n1 g1)
    | (go_at_call 54; go_must (refine (newReader (some ⟨gd, 0, none⟩) bs.length c1 w1).mono ?_); rintro e w2 ⟨rfl, hb2, k2⟩))
  have r2 := r1'.keep k2 (fun _ _ h => h)
  have gw : w.heap.size ≤ w1.heap.size := k1.size
  have k12 := k1.trans k2 (fun _ _ h => h)
  clear r1' k1 k2
  generalize w1.heap.size = g at *
  have e1 : (w2.alloc (.cells #[] 29)).heap.size = w2.heap.size + 1 := by simp
  have I0 : RInv w ((w2.alloc (.cells #[] 29)).alloc (.cells #[] 9)) bs g (some ⟨gd, 0, none⟩) c1 (.slice (some ⟨w2.heap.size, 0, none⟩) 0 0) (.slice (some ⟨w2.heap.size + 1, 0, none⟩) 0 0) (0, [], []) :=
    { nums := (Row.lit w2 29 1 [] 0 (by decide) rfl).alloc _
      texts := by
        have := Row.lit (w2.alloc (.cells #[] 29)) 9 1 [] 0 (by decide) rfl
        rw [e1] at this
        exact this
      rd := (hb2.alloc _).alloc _
      data := (r2.alloc _).alloc _
      keep := (k12.alloc _).alloc _
      ln := fun b hb => by have := k12.size; simp [Value.ownBlock] at hb; omega
      lt := fun b hb => by have := k12.size; simp [Value.ownBlock] at hb; omega
      gw := gw }
  clear e1 hb2 k12 r2
  go_wp2_with fail
  go_loopw [7, 8, 24] (fun vn vt i wr => ∃ (k : Nat) (st : Nat × List Nat × List ByteArray), k ≤ l.length ∧ i = .int .i64 k ∧ rrun2 bs (l.take k) = some st ∧ st.1 ≤ bs.length ∧ st.2.1.length ≤ k ∧ st.2.2.length ≤ k ∧ RInv w wr bs g (some ⟨gd, 0, none⟩) c1 vn vt st) (fun _ _ i _ => l.length - (intOf i).toNat)
  case atStart => exact ⟨0, _, by omega, rfl, rfl, by simp, by simp, by simp, I0⟩
  case round =>
    obtain ⟨k, st, hk, rfl, hst, hp, hln, hlt', hI⟩ := hrel
    by_cases hlt : k < l.length
    · obtain ⟨ba, offa, ca', hva, hca⟩ := hs.at (by omega) (by omega)
      cases hva
      obtain ⟨c0, c1'⟩ := two_at hca hlt
      have d0 := hI.keep.cell c0 (fun h => h)
      have d1 := hI.keep.cell c1' (fun h => h)
      obtain ⟨st', hst'⟩ := rrun2_some bs HR.out (k + 1)
      have hstep := rrun2_snoc bs hlt
      rw [hst, hst'] at hstep
      have hstep' : rstep2 bs st l[k] = some st' := hstep.symm
      have hle := rstep2_le hstep' hp
      obtain ⟨hn1, hn2⟩ := HN.out _ (List.getElem_mem hlt)
      have HS' := Lib.hid hst'
      clear hst' hstep hst hca c0 c1'
      obtain ⟨p, ns, ts⟩ := st
      generalize l[k] = x at *
      obtain ⟨x1, x2⟩ := x
      have HI := Lib.hid hI
      have HP := Lib.hid hp
      simp only [] at d0 d1 hn1 hn2 hln hlt'
      clear hI hp
      have hcs := rstep2_cases hstep'
      clear hstep'
      rcases hcs with ⟨hx, H1⟩ | ⟨hx, hpn, rfl⟩ | ⟨hx, hpn, rfl⟩ | ⟨m, hx, hx2, hpn, rfl⟩ | ⟨m, hx, hx2, rfl⟩ | hstep'
      · subst hx
        simp only [] at H1
        obtain ⟨hpn, b, hbx, hst8⟩ := H1
        have hb8 : b < 256 := H8.out b (List.mem_of_getElem? hbx)
        subst hst8
        have HLE := Lib.hid hle
        clear hle
        have HBX := Lib.hid hbx
        clear hbx
        go_wp2_with (first
          | (go_at_call 55; go_must (refine (readU8 _ g p b bs _ (HI.out.rd.alloc _) (HI.out.data.alloc _).reads hbl HBX.out).mono ?_); rintro e w2' ⟨rfl, hb2, k2⟩; have I1 := HI.out.run k2 hb2)
          | (at_builtin; go_must (refine wpList_app (n := ns.length) (xs := U64 ns) (m := 1) sliceU64 rfl _ _ rfl rfl (Row.alloc I1.nums _) rfl (Reads.oneAt (by simp)) (int_one _ _) (by unfold maxLen; omega) (by omega) ?_); intro v' w3 r3 g3 n3))
        have hle := HLE.out
        go_roundw
        case measure => simp [intOf]; omega
        case rel => exact ⟨k + 1, _, by omega, by go_num, HS'.out, hle.1, by have := hle.2.1; simp at this ⊢; omega, by have := hle.2.2; simp at this ⊢; omega, I1.num r3 g3⟩
      · subst hx
        simp only [] at hpn
        have HLE := Lib.hid hle
        clear hle
        have h32 := leVal_lt4 (l := (bs.drop p).take 4) (fun x h => H8.out x (List.mem_of_mem_drop (List.mem_of_mem_take h))) (by simp; omega)
        go_wp2_with (first
          | (go_at_call 56; go_must (refine (readU32 gd c1 g p bs _ (HI.out.rd.alloc _) (HI.out.data.alloc _).reads hc1 hbl H8.out hpn).mono ?_); rintro e w2' ⟨rfl, hb2, k2⟩; have I1 := HI.out.run k2 hb2)
          | (at_builtin; go_must (refine wpList_app (n := ns.length) (xs := U64 ns) (m := 1) sliceU64 rfl _ _ rfl rfl (Row.alloc I1.nums _) rfl (Reads.oneAt (by simp)) (int_one _ _) (by unfold maxLen; omega) (by omega) ?_); intro v' w3 r3 g3 n3))
        have hle := HLE.out
        go_roundw
        case measure => simp [intOf]; omega
        case rel => exact ⟨k + 1, _, by omega, by go_num, HS'.out, hle.1, by have := hle.2.1; simp at this ⊢; omega, by have := hle.2.2; simp at this ⊢; omega, I1.num r3 g3⟩
      · subst hx
        simp only [] at hpn
        have HLE := Lib.hid hle
        clear hle
        go_wp2_with (first
          | (go_at_call 57; go_must (refine (readU64 gd c1 g p bs _ (HI.out.rd.alloc _) (HI.out.data.alloc _).reads hc1 hbl H8.out hpn).mono ?_); rintro e w2' ⟨rfl, hb2, k2⟩; have I1 := HI.out.run k2 hb2)
          | (at_builtin; go_must (refine wpList_app (n := ns.length) (xs := U64 ns) (m := 1) sliceU64 rfl _ _ rfl rfl (Row.alloc I1.nums _) rfl (Reads.oneAt (by simp)) (int_one _ _) (by unfold maxLen; omega) (by omega) ?_); intro v' w3 r3 g3 n3))
        have hle := HLE.out
        go_roundw
        case measure => simp [intOf]; omega
        case rel => exact ⟨k + 1, _, by omega, by go_num, HS'.out, hle.1, by have := hle.2.1; simp at this ⊢; omega, by have := hle.2.2; simp at this ⊢; omega, I1.num r3 g3⟩
      · subst hx
        simp only [] at hx2 hpn
        subst hx2
        have HLE := Lib.hid hle
        clear hle
        go_wp2_with (first
          | (go_at_call 59; go_must (refine (readString gd c1 g p m bs _ (HI.out.rd.alloc _) (HI.out.data.alloc _).reads hc1 hbl H8.out hpn (fun e => HI.out.data.neBlk HI.out.rd (by decide) (e ▸ rfl))).mono ?_); rintro e w2' ⟨rfl, hb2, k2⟩; have I1 := HI.out.run k2 hb2)
          | (at_builtin; go_must (refine wpList_app (n := ts.length) (xs := Ts ts) (m := 1) sliceStr rfl _ _ rfl rfl (Row.alloc I1.texts _) rfl (Reads.oneAt (by simp)) (str_one _) (by unfold maxLen; omega) (by omega) ?_); intro v' w3 r3 g3 n3))
        have hle := HLE.out
        go_roundw
        case measure => simp [intOf]; omega
        case rel => exact ⟨k + 1, _, by omega, by go_num, HS'.out, hle.1, by have := hle.2.1; simp at this ⊢; omega, by have := hle.2.2; simp at this ⊢; omega, I1.text r3 g3⟩
      · subst hx
        simp only [] at hx2
        subst hx2
        have HLE := Lib.hid hle
        clear hle
        have hmk := run_make_row' (P := Try.prog) 28 5 (.int .u8 0) 1 Try.underlying28 (by kernel_rfl) rfl .i64 .i64 m (by omega) (by omega) (wr.alloc (.cells #[.int .i64 8, .int .i64 (m : Int)] 76))
        obtain ⟨zs, hzs⟩ : ∃ zs, zs = (madeCells #[.int .u8 0] m).toList := ⟨_, rfl⟩
        have hz : zs.length = m := by rw [hzs]; exact made_len m
        rw [show madeCells #[.int .u8 0] m = zs.toArray by rw [hzs]] at hmk
        clear hzs
        have hb0 := Blk.new (wr.alloc (.cells #[.int .i64 8, .int .i64 (m : Int)] 76)) zs 5
        have esz : (wr.alloc (.cells #[.int .i64 8, .int .i64 (m : Int)] 76)).heap.size = wr.heap.size + 1 := by simp
        rw [esz] at hb0 hmk
        have HB0 := Lib.hid hb0
        clear hb0 esz
        obtain ⟨am, ham⟩ : ∃ am, am = min m (bs.length - p) := ⟨_, rfl⟩
        have ham1 : am ≤ m := by omega
        have HAM := Lib.hid ham
        clear ham
        go_wp2_with (first
          | (go_at_call 61; go_must (have RI := readInto gd c1 g (wr.heap.size + 1) p m bs zs _ ((HI.out.rd.alloc _).alloc _) ((HI.out.data.alloc _).alloc _).reads hc1 hbl HP.out (by omega) hz HB0.out (by have := HI.out.rd.lt; omega); rw [← HAM.out] at RI; refine RI.mono ?_; rintro e w2' ⟨rfl, hb2, hb3, k2⟩; have I1 := HI.out.run (W := w2') (X := .cells #[.int .i64 8, .int .i64 (m : Int)] 76) (keepInto k2 (by simp)) hb2; have hrd : Reads w2' 1 (.slice (some ⟨wr.heap.size + 1, 0, none⟩) am m) am (B (bytes8 ((bs.drop p).take m))) := into_reads hb3 HAM.out H8.out; have c4 := run_toString (P := Try.prog) Try.underlying28 Try.underlying5 Try.underlying9 hrd))
          | (at_builtin; go_must (refine wpList_app (n := ts.length) (xs := Ts ts) (m := 1) sliceStr rfl _ _ rfl rfl (Row.alloc I1.texts _) rfl (Reads.oneAt (by simp)) (str_one _) (by unfold maxLen; omega) (by omega) ?_); intro v' w3 r3 g3 n3))
        have hle := HLE.out
        have hs' := HS'.out
        rw [← HAM.out] at hle hs'
        go_roundw
        case measure => simp [intOf]; omega
        case rel => exact ⟨k + 1, _, by omega, by go_num, hs', hle.1, by have := hle.2.1; simp at this ⊢; omega, by have := hle.2.2; simp at this ⊢; omega, I1.text r3 g3⟩
      · unfold rstep at hstep'
        split at hstep'
        · next hx =>
          simp only [] at hx
          subst hx
          rw [Option.bind_eq_some_iff] at hstep'
          obtain ⟨ds, h1, h2⟩ := hstep'
          split at h2
          · next hfit =>
            simp only [Option.some.injEq] at h2
            subst h2
            obtain ⟨hpre, hd0, hdn, hdh⟩ := ulebAt_spec _ _ _ h1
            have HFIT := Lib.hid hfit
            have HDH := Lib.hid hdh
            have HPRE := Lib.hid hpre
            have HLE := Lib.hid hle
            clear hfit hdh hpre hle h1
            go_wp2_with (first
              | (go_at_call 58; go_must (refine (readUleb _ g p bs ds _ (HI.out.rd.alloc _) (HI.out.data.alloc _).reads hbl H8.out (drop_le HPRE.out hd0) (drop_at HPRE.out) hd0 hdn HDH.out HFIT.out).mono ?_); rintro e w2' ⟨rfl, hb2, k2⟩; have I1 := HI.out.run k2 hb2)
              | (at_builtin; go_must (refine wpList_app (n := ns.length) (xs := U64 ns) (m := 1) sliceU64 rfl _ _ rfl rfl (Row.alloc I1.nums _) rfl (Reads.oneAt (by simp)) (int_one _ _) (by unfold maxLen; omega) (by omega) ?_); intro v' w3 r3 g3 n3))
            have hle := HLE.out
            go_roundw
            case measure => simp [intOf]; omega
            case rel => exact ⟨k + 1, _, by omega, by go_num, HS'.out, hle.1, by have := hle.2.1; simp at this ⊢; omega, by have := hle.2.2; simp at this ⊢; omega, I1.num r3 g3⟩
          · cases h2
        · next hx3 =>
          split at hstep'
          · next hx =>
            simp only [] at hx
            have hx' : x1 = 5 ∨ x1 = 6 ∨ x1 = 7 := by omega
            clear hx hx3
            rcases hx' with rfl | rfl | rfl
            · have HLE := Lib.hid hle
              clear hle
              by_cases hT : 0 ≤ seekTo 0 p bs.length x2 ∧ seekTo 0 p bs.length x2 ≤ bs.length
              · have h2 : some ((seekTo 0 p bs.length x2).toNat, ns ++ [(seekTo 0 p bs.length x2).toNat], ts) = some st' := by simpa [hT] using hstep'
                obtain ⟨m, hm⟩ := Int.eq_ofNat_of_zero_le hT.1
                have hm' : (seekTo 0 p bs.length x2).toNat = m := by rw [hm]; rfl
                have hmb : m ≤ bs.length := by omega
                rw [hm'] at h2
                simp only [Option.some.injEq] at h2
                subst h2
                have HM := Lib.hid hm
                have HM' := Lib.hid hm'
                have HT := Lib.hid hT
                clear hm hm'
                clear hT hstep'
                go_wp2_with (first
                  | (go_at_call 60; go_must (refine (seek _ bs.length c1 g p x2 0 _ (by omega) (HI.out.rd.alloc _) hbl HP.out hn1 hn2).mono ?_); rintro e w2' ⟨at', r, rfl, he, hb2, k2, ha⟩; rw [decide_eq_true HT.out] at he; obtain rfl : r = .nilIface := he; rw [if_pos HT.out, HM'.out] at hb2; obtain rfl : at' = (m : Int) := (ha HT.out).trans HM.out; clear ha; have I1 := HI.out.run k2 hb2)
                  | (at_builtin; go_must (refine wpList_app (n := ns.length) (xs := U64 ns) (m := 1) sliceU64 rfl _ _ rfl rfl (Row.alloc I1.nums _) rfl (Reads.oneAt (by simp)) (int_one _ _) (by unfold maxLen; omega) (by omega) ?_); intro v' w3 r3 g3 n3))
                have hle := HLE.out
                go_roundw
                case measure => simp [intOf]; omega
                case rel => exact ⟨k + 1, _, by omega, by go_num, HS'.out, hle.1, by have := hle.2.1; simp at this ⊢; omega, by have := hle.2.2; simp at this ⊢; omega, I1.num r3 g3⟩
              · have h2 : some (p, ns ++ [18446744073709551615], ts) = some st' := by simpa [hT] using hstep'
                simp only [Option.some.injEq] at h2
                subst h2
                have HT := Lib.hid hT
                clear hT hstep'
                go_wp2_with (first
                  | (go_at_call 60; go_must (refine (seek _ bs.length c1 g p x2 0 _ (by omega) (HI.out.rd.alloc _) hbl HP.out hn1 hn2).mono ?_); rintro e w2' ⟨at', r, rfl, he, hb2, k2, ha⟩; rw [decide_eq_false HT.out] at he; obtain ⟨t, b, rfl⟩ : ∃ t b, r = .iface t (.pointer (some b)) := he; rw [if_neg HT.out] at hb2; clear ha; have I1 := HI.out.run k2 hb2)
                  | (at_builtin; go_must (refine wpList_app (n := ns.length) (xs := U64 ns) (m := 1) sliceU64 rfl _ _ rfl rfl (Row.alloc I1.nums _) rfl (Reads.oneAt (by simp)) (int_one _ _) (by unfold maxLen; omega) (by omega) ?_); intro v' w3 r3 g3 n3))
                have hle := HLE.out
                go_roundw
                case measure => simp [intOf]; omega
                case rel => exact ⟨k + 1, _, by omega, by go_num, HS'.out, hle.1, by have := hle.2.1; simp at this ⊢; omega, by have := hle.2.2; simp at this ⊢; omega, I1.num r3 g3⟩
            · have HLE := Lib.hid hle
              clear hle
              by_cases hT : 0 ≤ seekTo 1 p bs.length x2 ∧ seekTo 1 p bs.length x2 ≤ bs.length
              · have h2 : some ((seekTo 1 p bs.length x2).toNat, ns ++ [(seekTo 1 p bs.length x2).toNat], ts) = some st' := by simpa [hT] using hstep'
                obtain ⟨m, hm⟩ := Int.eq_ofNat_of_zero_le hT.1
                have hm' : (seekTo 1 p bs.length x2).toNat = m := by rw [hm]; rfl
                have hmb : m ≤ bs.length := by omega
                rw [hm'] at h2
                simp only [Option.some.injEq] at h2
                subst h2
                have HM := Lib.hid hm
                have HM' := Lib.hid hm'
                have HT := Lib.hid hT
                clear hm hm'
                clear hT hstep'
                go_wp2_with (first
                  | (go_at_call 60; go_must (refine (seek _ bs.length c1 g p x2 1 _ (by omega) (HI.out.rd.alloc _) hbl HP.out hn1 hn2).mono ?_); rintro e w2' ⟨at', r, rfl, he, hb2, k2, ha⟩; rw [decide_eq_true HT.out] at he; obtain rfl : r = .nilIface := he; rw [if_pos HT.out, HM'.out] at hb2; obtain rfl : at' = (m : Int) := (ha HT.out).trans HM.out; clear ha; have I1 := HI.out.run k2 hb2)
                  | (at_builtin; go_must (refine wpList_app (n := ns.length) (xs := U64 ns) (m := 1) sliceU64 rfl _ _ rfl rfl (Row.alloc I1.nums _) rfl (Reads.oneAt (by simp)) (int_one _ _) (by unfold maxLen; omega) (by omega) ?_); intro v' w3 r3 g3 n3))
                have hle := HLE.out
                go_roundw
                case measure => simp [intOf]; omega
                case rel => exact ⟨k + 1, _, by omega, by go_num, HS'.out, hle.1, by have := hle.2.1; simp at this ⊢; omega, by have := hle.2.2; simp at this ⊢; omega, I1.num r3 g3⟩
              · have h2 : some (p, ns ++ [18446744073709551615], ts) = some st' := by simpa [hT] using hstep'
                simp only [Option.some.injEq] at h2
                subst h2
                have HT := Lib.hid hT
                clear hT hstep'
                go_wp2_with (first
                  | (go_at_call 60; go_must (refine (seek _ bs.length c1 g p x2 1 _ (by omega) (HI.out.rd.alloc _) hbl HP.out hn1 hn2).mono ?_); rintro e w2' ⟨at', r, rfl, he, hb2, k2, ha⟩; rw [decide_eq_false HT.out] at he; obtain ⟨t, b, rfl⟩ : ∃ t b, r = .iface t (.pointer (some b)) := he; rw [if_neg HT.out] at hb2; clear ha; have I1 := HI.out.run k2 hb2)
                  | (at_builtin; go_must (refine wpList_app (n := ns.length) (xs := U64 ns) (m := 1) sliceU64 rfl _ _ rfl rfl (Row.alloc I1.nums _) rfl (Reads.oneAt (by simp)) (int_one _ _) (by unfold maxLen; omega) (by omega) ?_); intro v' w3 r3 g3 n3))
                have hle := HLE.out
                go_roundw
                case measure => simp [intOf]; omega
                case rel => exact ⟨k + 1, _, by omega, by go_num, HS'.out, hle.1, by have := hle.2.1; simp at this ⊢; omega, by have := hle.2.2; simp at this ⊢; omega, I1.num r3 g3⟩
            · have HLE := Lib.hid hle
              clear hle
              by_cases hT : 0 ≤ seekTo 2 p bs.length x2 ∧ seekTo 2 p bs.length x2 ≤ bs.length
              · have h2 : some ((seekTo 2 p bs.length x2).toNat, ns ++ [(seekTo 2 p bs.length x2).toNat], ts) = some st' := by simpa [hT] using hstep'
                obtain ⟨m, hm⟩ := Int.eq_ofNat_of_zero_le hT.1
                have hm' : (seekTo 2 p bs.length x2).toNat = m := by rw [hm]; rfl
                have hmb : m ≤ bs.length := by omega
                rw [hm'] at h2
                simp only [Option.some.injEq] at h2
                subst h2
                have HM := Lib.hid hm
                have HM' := Lib.hid hm'
                have HT := Lib.hid hT
                clear hm hm'
                clear hT hstep'
                go_wp2_with (first
                  | (go_at_call 60; go_must (refine (seek _ bs.length c1 g p x2 2 _ (by omega) (HI.out.rd.alloc _) hbl HP.out hn1 hn2).mono ?_); rintro e w2' ⟨at', r, rfl, he, hb2, k2, ha⟩; rw [decide_eq_true HT.out] at he; obtain rfl : r = .nilIface := he; rw [if_pos HT.out, HM'.out] at hb2; obtain rfl : at' = (m : Int) := (ha HT.out).trans HM.out; clear ha; have I1 := HI.out.run k2 hb2)
                  | (at_builtin; go_must (refine wpList_app (n := ns.length) (xs := U64 ns) (m := 1) sliceU64 rfl _ _ rfl rfl (Row.alloc I1.nums _) rfl (Reads.oneAt (by simp)) (int_one _ _) (by unfold maxLen; omega) (by omega) ?_); intro v' w3 r3 g3 n3))
                have hle := HLE.out
                go_roundw
                case measure => simp [intOf]; omega
                case rel => exact ⟨k + 1, _, by omega, by go_num, HS'.out, hle.1, by have := hle.2.1; simp at this ⊢; omega, by have := hle.2.2; simp at this ⊢; omega, I1.num r3 g3⟩
              · have h2 : some (p, ns ++ [18446744073709551615], ts) = some st' := by simpa [hT] using hstep'
                simp only [Option.some.injEq] at h2
                subst h2
                have HT := Lib.hid hT
                clear hT hstep'
                go_wp2_with (first
                  | (go_at_call 60; go_must (refine (seek _ bs.length c1 g p x2 2 _ (by omega) (HI.out.rd.alloc _) hbl HP.out hn1 hn2).mono ?_); rintro e w2' ⟨at', r, rfl, he, hb2, k2, ha⟩; rw [decide_eq_false HT.out] at he; obtain ⟨t, b, rfl⟩ : ∃ t b, r = .iface t (.pointer (some b)) := he; rw [if_neg HT.out] at hb2; clear ha; have I1 := HI.out.run k2 hb2)
                  | (at_builtin; go_must (refine wpList_app (n := ns.length) (xs := U64 ns) (m := 1) sliceU64 rfl _ _ rfl rfl (Row.alloc I1.nums _) rfl (Reads.oneAt (by simp)) (int_one _ _) (by unfold maxLen; omega) (by omega) ?_); intro v' w3 r3 g3 n3))
                have hle := HLE.out
                go_roundw
                case measure => simp [intOf]; omega
                case rel => exact ⟨k + 1, _, by omega, by go_num, HS'.out, hle.1, by have := hle.2.1; simp at this ⊢; omega, by have := hle.2.2; simp at this ⊢; omega, I1.num r3 g3⟩
          · split at hstep'
            · next hx =>
              simp only [] at hx
              clear hx3
              subst hx
              simp only [Option.some.injEq] at hstep'
              subst hstep'
              have hpb : p ≤ bs.length := HP.out
              have HLE := Lib.hid hle
              clear hle
              go_wp2_with (first
                | (go_at_call 62; go_must (refine (offset _ g p _ (HI.out.rd.alloc _)).mono ?_); rintro e w2' ⟨rfl, rfl⟩; have I1 := HI.out.run (X := .cells #[.int .i64 9, .int .i64 x2] 76) (Keep.refl _ _) (HI.out.rd.alloc _))
                | (at_builtin; go_must (refine wpList_app (n := ns.length) (xs := U64 ns) (m := 1) sliceU64 rfl _ _ rfl rfl (Row.alloc I1.nums _) rfl (Reads.oneAt (by simp)) (int_one _ _) (by unfold maxLen; omega) (by omega) ?_); intro v' w3 r3 g3 n3))
              have hle := HLE.out
              go_roundw
              case measure => simp [intOf]; omega
              case rel => exact ⟨k + 1, _, by omega, by go_num, HS'.out, hle.1, by have := hle.2.1; simp at this ⊢; omega, by have := hle.2.2; simp at this ⊢; omega, I1.num r3 g3⟩
            · cases hstep'
    · have hkl : k = l.length := by omega
      subst hkl
      rw [List.take_of_length_le (Nat.le_refl _), HR.out] at hst
      simp only [Option.some.injEq] at hst
      subst hst
      have HI := Lib.hid hI
      clear hI
      go_wp2
      go_ret2
      exact ⟨_, _, rfl, HI.out.nums, HI.out.texts, HI.out.keep⟩
end Go.Proofs.Ytfcdedcffmpjjaa
