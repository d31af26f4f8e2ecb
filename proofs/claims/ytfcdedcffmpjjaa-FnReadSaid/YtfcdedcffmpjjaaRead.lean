/-
  THE CONTRACT of impl.Read.
-/
import Derived.Test.YtfcdedcffmpjjaaSlice
namespace Go.Proofs.Ytfcdedcffmpjjaa
open Go.RowKit
open Go.ChangeShapes Go.WideShapes Go.ChangeAt Go.Deep
open Plain (M64)

def By (l : List Nat) : List Value := l.map fun x => Value.int .u8 (x : Nat)
def U64 (l : List Nat) : List Value := l.map fun x => Value.int .u64 (x : Nat)
def Ts (l : List ByteArray) : List Value := l.map .string
theorem U64_append (a b : List Nat) : U64 (a ++ b) = U64 a ++ U64 b := by simp [U64]
theorem Ts_append (a b : List ByteArray) : Ts (a ++ b) = Ts a ++ Ts b := by simp [Ts]
/-- The bytes of a number by seven bits, at the start of a list; at most so many. -/
def ulebAt : Nat → List Nat → Option (List Nat)
  | 0, _ => none
  | _, [] => none
  | n + 1, b :: l => if b < 128 then some [b] else (ulebAt n l).map (b :: ·)
theorem ulebAt_spec : ∀ n l ds, ulebAt n l = some ds → (∃ r, l = ds ++ r) ∧ 0 < ds.length ∧ ds.length ≤ n ∧ ∀ i (h : i < ds.length), (128 ≤ ds[i] ↔ i + 1 < ds.length)
  | 0, l, ds, h => by simp [ulebAt] at h
  | n + 1, [], ds, h => by simp [ulebAt] at h
  | n + 1, b :: l, ds, h => by
    rw [ulebAt] at h
    split at h
    · next hb =>
      simp only [Option.some.injEq] at h
      subst h
      refine ⟨⟨l, rfl⟩, by simp, by simp, fun i hi => ?_⟩
      have : i = 0 := by simpa using hi
      subst this
      simp; omega
    · next hb =>
      simp only [Option.map_eq_some_iff] at h
      obtain ⟨ds', h', rfl⟩ := h
      obtain ⟨⟨r, hr⟩, h0, hn, hh⟩ := ulebAt_spec n l ds' h'
      refine ⟨⟨r, by simp [hr]⟩, by simp, by simpa using hn, fun i hi => ?_⟩
      match i, hi with
      | 0, _ => simp; omega
      | i + 1, hi =>
        have := hh i (by simpa using hi)
        simpa using this
/-- What one step tells: where the reader is, the numbers, the texts. Nothing is said of what is read and is not there. -/
def rstep (bs : List Nat) (st : Nat × List Nat × List ByteArray) (x : Int × Int) : Option (Nat × List Nat × List ByteArray) :=
  if x.1 = 3 then (ulebAt 10 (bs.drop st.1)).bind fun ds => if ulebVal ds < M64 then some (st.1 + ds.length, st.2.1 ++ [ulebVal ds], st.2.2) else none
  else if 5 ≤ x.1 ∧ x.1 ≤ 7 then
    let t := seekTo (x.1 - 5).toNat st.1 bs.length x.2
    if 0 ≤ t ∧ t ≤ bs.length then some (t.toNat, st.2.1 ++ [t.toNat], st.2.2) else some (st.1, st.2.1 ++ [18446744073709551615], st.2.2)
  else if x.1 = 9 then some (st.1, st.2.1 ++ [st.1], st.2.2)
  else none
def rrun (bs : List Nat) (l : List (Int × Int)) : Option (Nat × List Nat × List ByteArray) := l.foldlM (rstep bs) (0, [], [])
theorem rrun_snoc (bs : List Nat) {l : List (Int × Int)} {k : Nat} (h : k < l.length) : rrun bs (l.take (k + 1)) = (rrun bs (l.take k)).bind fun st => rstep bs st l[k] := by
  rw [List.take_succ_eq_append_getElem h, rrun, List.foldlM_append]
  simp [rrun]
theorem rrun_some (bs : List Nat) {l : List (Int × Int)} {fin : Nat × List Nat × List ByteArray} (h : rrun bs l = some fin) (k : Nat) : ∃ st, rrun bs (l.take k) = some st := by
  have e : l = l.take k ++ l.drop k := (List.take_append_drop k l).symm
  rw [e, rrun, List.foldlM_append] at h
  cases hr : rrun bs (l.take k) with
  | some st => exact ⟨st, rfl⟩
  | none => rw [rrun] at hr; rw [hr] at h; simp at h
theorem rstep_le {bs : List Nat} {st st' : Nat × List Nat × List ByteArray} {x : Int × Int} (h : rstep bs st x = some st') (hp : st.1 ≤ bs.length) : st'.1 ≤ bs.length ∧ st'.2.1.length ≤ st.2.1.length + 1 ∧ st'.2.2.length ≤ st.2.2.length + 1 := by
  unfold rstep at h
  split at h
  · rw [Option.bind_eq_some_iff] at h
    obtain ⟨ds, h1, h2⟩ := h
    split at h2
    · obtain ⟨⟨r, hr⟩, _⟩ := ulebAt_spec _ _ _ h1
      have := congrArg List.length hr
      simp at this h2
      subst h2
      simp; omega
    · cases h2
  · split at h
    · simp only [] at h
      split at h <;> (simp at h; subst h; simp; omega)
    · split at h
      · simp at h; subst h; simp; omega
      · cases h

theorem sliceU64 : SliceT Try.prog 66 29 (.int .u64 0) 1 8 := ⟨Try.underlying66, by kernel_rfl, rfl, by decide⟩
theorem drop_le {bs ds : List Nat} {p : Nat} (h : ∃ r, bs.drop p = ds ++ r) (h0 : 0 < ds.length) : p + ds.length ≤ bs.length := by
  obtain ⟨r, hr⟩ := h
  have := congrArg List.length hr
  simp at this
  omega
theorem drop_at {bs ds : List Nat} {p : Nat} (h : ∃ r, bs.drop p = ds ++ r) : ∀ i (hi : i < ds.length), bs[p + i]? = some ds[i] := by
  intro i hi
  obtain ⟨r, hr⟩ := h
  rw [← List.getElem?_drop, hr, List.getElem?_append_left hi, List.getElem?_eq_getElem hi]
/-- Between two steps. -/
structure RInv (w wr : World) (bs : List Nat) (g : Nat) (a1 : Option Addr) (c1 : Nat) (vn vt : Value) (st : Nat × List Nat × List ByteArray) : Prop where
  nums : Row wr 29 1 vn st.2.1.length (U64 st.2.1)
  texts : Row wr 9 1 vt st.2.2.length (Ts st.2.2)
  rd : Blk wr g (rcells (.slice a1 bs.length c1) st.1) 124
  data : Row wr 5 1 (.slice a1 bs.length c1) bs.length (By bs)
  keep : Keep Non w wr
  ln : ∀ b, vn.ownBlock = some b → w.heap.size ≤ b
  lt : ∀ b, vt.ownBlock = some b → w.heap.size ≤ b
  gw : w.heap.size ≤ g
/-- Behind the struct of the round and what the reader did. -/
theorem RInv.run {w wr : World} {bs : List Nat} {g : Nat} {a1 : Option Addr} {c1 : Nat} {vn vt : Value} {st : Nat × List Nat × List ByteArray} (h : RInv w wr bs g a1 c1 vn vt st) {X : Obj} {W : World} {p : Nat}
    (k : Keep (At g) (wr.alloc X) W) (hb : Blk W g (rcells (.slice a1 bs.length c1) p) 124) : RInv w W bs g a1 c1 vn vt (p, st.2) where
  nums := (h.nums.alloc X).keep k (fun b hb e => by unfold At at e; exact h.nums.neBlk h.rd (by decide) (e ▸ hb))
  texts := (h.texts.alloc X).keep k (fun b hb e => by unfold At at e; exact h.texts.neBlk h.rd (by decide) (e ▸ hb))
  rd := hb
  data := (h.data.alloc X).keep k (fun b hb e => by unfold At at e; exact h.data.neBlk h.rd (by decide) (e ▸ hb))
  keep := (h.keep.alloc X).trans k (fun i hi e => by unfold At at e; have := h.gw; omega)
  ln := h.ln
  lt := h.lt
  gw := h.gw
theorem RInv.num {w W : World} {bs : List Nat} {g : Nat} {a1 : Option Addr} {c1 : Nat} {vn vt : Value} {st : Nat × List Nat × List ByteArray} (h : RInv w W bs g a1 c1 vn vt st) {u : Obj} {w1 : World} {v' : Value} {n : Nat}
    (r : Row w1 29 1 v' (st.2.1.length + 1) (U64 st.2.1 ++ [.int .u64 (n : Nat)])) (gr : Grew (W.alloc u) w1 vn v') : RInv w w1 bs g a1 c1 v' vt (st.1, st.2.1 ++ [n], st.2.2) where
  nums := by simpa [U64_append, U64] using r
  texts := (h.texts.alloc u).keep gr.keep (fun b hb e => h.texts.ne h.nums (by decide) hb e)
  rd := (h.rd.alloc u).keep gr.keep (fun e => h.nums.neBlk h.rd (by decide) e)
  data := (h.data.alloc u).keep gr.keep (fun b hb e => h.data.ne h.nums (by decide) hb e)
  keep := (h.keep.alloc u).trans gr.keep (fun i hi e => by have := h.ln i e; omega)
  ln := fun b hb => by
    rcases gr.lies hb with e | e
    · exact h.ln b e
    · have := h.keep.size; simp at e; omega
  lt := h.lt
  gw := h.gw
theorem bytes_one (l : List Nat) : ∀ u ∈ By l, u.oneCell' = true := by
  intro u hu
  simp [By] at hu
  obtain ⟨x, _, rfl⟩ := hu
  rfl
theorem int_one (k : IntKind) (x : Int) : ∀ u ∈ [Value.int k x], u.oneCell' = true := by
  intro u hu
  simp at hu
  subst hu; rfl
set_option maxRecDepth 100000 in
set_option maxHeartbeats 4000000 in
theorem read_impl (dv sv : Value) (bs : List Nat) (l : List (Int × Int)) (w : World) (hd : Reads w 1 dv bs.length (By bs)) (hs : Reads w 2 sv l.length (l.flatMap two)) (hbl : bs.length ≤ 1000000) (hll : l.length ≤ 1000)
    (h8 : ∀ x ∈ bs, x < 256) (hn : ∀ m ∈ l, -1000000 ≤ m.2 ∧ m.2 ≤ 1000000) (fin : Nat × List Nat × List ByteArray) (hrun : rrun bs l = some fin) :
    Calls Try.prog 34 #[dv, sv] w fun e w' => ∃ v1 v2, e = .returned (.tuple #[v1, v2]) ∧ Row w' 29 1 v1 fin.2.1.length (U64 fin.2.1) ∧ Row w' 9 1 v2 fin.2.2.length (Ts fin.2.2) ∧ Keep Non w w' := by
  obtain ⟨aa, ca, rfl⟩ := hs.slice
  obtain ⟨ab, cb, rfl⟩ := hd.slice
  have H8 := Lib.hid h8
  have HN := Lib.hid hn
  have HR := Lib.hid hrun
  clear h8 hn hrun
  go_enter Try.func34, Try.ntmps34
  go_wp2_with (first
    | (at_builtin; go_must (refine wpList_app sliceBytes rfl (.tmp 16) (.tmp 17) rfl rfl (Row.lit w 5 1 [] 0 (by decide) rfl) rfl (hd.alloc _) (bytes_one _) (by unfold maxLen; omega) (by omega) ?_); intro v1 w1 r1 g1 n1; have r1' : Row w1 5 1 v1 bs.length (By bs) := by simpa using r1
       have k1 := (g1.copied rfl).1
       clear r1 n1 g1
       obtain ⟨a1, c1, rfl⟩ := r1'.reads.slice)
    | (go_at_call 54; go_must (refine (newReader a1 bs.length c1 w1).mono ?_); rintro e w2 ⟨rfl, hb2, k2⟩))
  have r2 := r1'.keep k2 (fun _ _ h => h)
  have gw : w.heap.size ≤ w1.heap.size := k1.size
  have k12 := k1.trans k2 (fun _ _ h => h)
  clear r1' k1 k2
  generalize w1.heap.size = g at *
  have e1 : (w2.alloc (.cells #[] 29)).heap.size = w2.heap.size + 1 := by simp
  have I0 : RInv w ((w2.alloc (.cells #[] 29)).alloc (.cells #[] 9)) bs g a1 c1 (.slice (some ⟨w2.heap.size, 0, none⟩) 0 0) (.slice (some ⟨w2.heap.size + 1, 0, none⟩) 0 0) (0, [], []) :=
    { nums := (Row.lit w2 29 1 [] 0 (by decide) rfl).alloc _
      texts := by
        have := Row.lit (w2.alloc (.cells #[] 29)) 9 1 [] 0 (by decide) rfl
        rw [e1] at this
        exact this
      rd := (hb2.alloc _).alloc _
      data := (r2.alloc _).alloc _
      keep := (k12.alloc _).alloc _
      ln := fun b hb => by have := k12.size; simp [Value.ownBlock] at hb; omega
      lt := fun b hb => by have := k12.size; simp [Value.ownBlock] at hb; omega
      gw := gw }
  clear e1 hb2 k12 r2
  go_wp2_with fail
  go_loopw [7, 8, 24] (fun vn vt i wr => ∃ (k : Nat) (st : Nat × List Nat × List ByteArray), k ≤ l.length ∧ i = .int .i64 k ∧ rrun bs (l.take k) = some st ∧ st.1 ≤ bs.length ∧ st.2.1.length ≤ k ∧ st.2.2.length ≤ k ∧ RInv w wr bs g a1 c1 vn vt st) (fun _ _ i _ => l.length - (intOf i).toNat)
  case atStart => exact ⟨0, _, by omega, rfl, rfl, by simp, by simp, by simp, I0⟩
  case round =>
    obtain ⟨k, st, hk, rfl, hst, hp, hln, hlt', hI⟩ := hrel
    by_cases hlt : k < l.length
    · obtain ⟨ba, offa, ca', hva, hca⟩ := hs.at (by omega) (by omega)
      cases hva
      obtain ⟨c0, c1'⟩ := two_at hca hlt
      have d0 := hI.keep.cell c0 (fun h => h)
      have d1 := hI.keep.cell c1' (fun h => h)
      obtain ⟨st', hst'⟩ := rrun_some bs HR.out (k + 1)
      have hstep := rrun_snoc bs hlt
      rw [hst, hst'] at hstep
      have hstep' : rstep bs st l[k] = some st' := hstep.symm
      have hle := rstep_le hstep' hp
      obtain ⟨hn1, hn2⟩ := HN.out _ (List.getElem_mem hlt)
      have HS' := Lib.hid hst'
      clear hst' hstep hst hca c0 c1'
      obtain ⟨p, ns, ts⟩ := st
      generalize l[k] = x at *
      obtain ⟨x1, x2⟩ := x
      have HI := Lib.hid hI
      have HP := Lib.hid hp
      simp only [] at d0 d1 hn1 hn2 hln hlt'
      clear hI hp
      unfold rstep at hstep'
      split at hstep'
      · next hx =>
        simp only [] at hx
        subst hx
        rw [Option.bind_eq_some_iff] at hstep'
        obtain ⟨ds, h1, h2⟩ := hstep'
        split at h2
        · next hfit =>
          simp only [Option.some.injEq] at h2
          subst h2
          obtain ⟨hpre, hd0, hdn, hdh⟩ := ulebAt_spec _ _ _ h1
          have HFIT := Lib.hid hfit
          have HDH := Lib.hid hdh
          have HPRE := Lib.hid hpre
          have HLE := Lib.hid hle
          clear hfit hdh hpre hle h1
          go_wp2_with (first
            | (go_at_call 58; go_must (refine (readUleb _ g p bs ds _ (HI.out.rd.alloc _) (HI.out.data.alloc _).reads hbl H8.out (drop_le HPRE.out hd0) (drop_at HPRE.out) hd0 hdn HDH.out HFIT.out).mono ?_); rintro e w2' ⟨rfl, hb2, k2⟩; have I1 := HI.out.run k2 hb2)
            | (at_builtin; go_must (refine wpList_app (n := ns.length) (xs := U64 ns) (m := 1) sliceU64 rfl _ _ rfl rfl (Row.alloc I1.nums _) rfl (Reads.oneAt (by simp)) (int_one _ _) (by unfold maxLen; omega) (by omega) ?_); intro v' w3 r3 g3 n3))
          have hle := HLE.out
          go_roundw
          case measure => simp [intOf]; omega
          case rel => exact ⟨k + 1, _, by omega, by go_num, HS'.out, hle.1, by have := hle.2.1; simp at this ⊢; omega, by have := hle.2.2; simp at this ⊢; omega, I1.num r3 g3⟩
        · cases h2
      · next hx3 =>
        split at hstep'
        · next hx =>
          simp only [] at hx
          have hx' : x1 = 5 ∨ x1 = 6 ∨ x1 = 7 := by omega
          clear hx hx3
          rcases hx' with rfl | rfl | rfl
          · have HLE := Lib.hid hle
            clear hle
            by_cases hT : 0 ≤ seekTo 0 p bs.length x2 ∧ seekTo 0 p bs.length x2 ≤ bs.length
            · have h2 : some ((seekTo 0 p bs.length x2).toNat, ns ++ [(seekTo 0 p bs.length x2).toNat], ts) = some st' := by simpa [hT] using hstep'
              obtain ⟨m, hm⟩ := Int.eq_ofNat_of_zero_le hT.1
              have hm' : (seekTo 0 p bs.length x2).toNat = m := by rw [hm]; rfl
              have hmb : m ≤ bs.length := by omega
              rw [hm'] at h2
              simp only [Option.some.injEq] at h2
              subst h2
              have HM := Lib.hid hm
              have HM' := Lib.hid hm'
              have HT := Lib.hid hT
              clear hm hm'
              clear hT hstep'
              go_wp2_with (first
                | (go_at_call 60; go_must (refine (seek a1 bs.length c1 g p x2 0 _ (by omega) (HI.out.rd.alloc _) hbl HP.out hn1 hn2).mono ?_); rintro e w2' ⟨at', r, rfl, he, hb2, k2, ha⟩; rw [decide_eq_true HT.out] at he; obtain rfl : r = .nilIface := he; rw [if_pos HT.out, HM'.out] at hb2; obtain rfl : at' = (m : Int) := (ha HT.out).trans HM.out; clear ha; have I1 := HI.out.run k2 hb2)
                | (at_builtin; go_must (refine wpList_app (n := ns.length) (xs := U64 ns) (m := 1) sliceU64 rfl _ _ rfl rfl (Row.alloc I1.nums _) rfl (Reads.oneAt (by simp)) (int_one _ _) (by unfold maxLen; omega) (by omega) ?_); intro v' w3 r3 g3 n3))
              have hle := HLE.out
              go_roundw
              case measure => simp [intOf]; omega
              case rel => exact ⟨k + 1, _, by omega, by go_num, HS'.out, hle.1, by have := hle.2.1; simp at this ⊢; omega, by have := hle.2.2; simp at this ⊢; omega, I1.num r3 g3⟩
            · have h2 : some (p, ns ++ [18446744073709551615], ts) = some st' := by simpa [hT] using hstep'
              simp only [Option.some.injEq] at h2
              subst h2
              have HT := Lib.hid hT
              clear hT hstep'
              go_wp2_with (first
                | (go_at_call 60; go_must (refine (seek a1 bs.length c1 g p x2 0 _ (by omega) (HI.out.rd.alloc _) hbl HP.out hn1 hn2).mono ?_); rintro e w2' ⟨at', r, rfl, he, hb2, k2, ha⟩; rw [decide_eq_false HT.out] at he; obtain ⟨t, b, rfl⟩ : ∃ t b, r = .iface t (.pointer (some b)) := he; rw [if_neg HT.out] at hb2; clear ha; have I1 := HI.out.run k2 hb2)
                | (at_builtin; go_must (refine wpList_app (n := ns.length) (xs := U64 ns) (m := 1) sliceU64 rfl _ _ rfl rfl (Row.alloc I1.nums _) rfl (Reads.oneAt (by simp)) (int_one _ _) (by unfold maxLen; omega) (by omega) ?_); intro v' w3 r3 g3 n3))
              have hle := HLE.out
              go_roundw
              case measure => simp [intOf]; omega
              case rel => exact ⟨k + 1, _, by omega, by go_num, HS'.out, hle.1, by have := hle.2.1; simp at this ⊢; omega, by have := hle.2.2; simp at this ⊢; omega, I1.num r3 g3⟩
          · have HLE := Lib.hid hle
            clear hle
            by_cases hT : 0 ≤ seekTo 1 p bs.length x2 ∧ seekTo 1 p bs.length x2 ≤ bs.length
            · have h2 : some ((seekTo 1 p bs.length x2).toNat, ns ++ [(seekTo 1 p bs.length x2).toNat], ts) = some st' := by simpa [hT] using hstep'
              obtain ⟨m, hm⟩ := Int.eq_ofNat_of_zero_le hT.1
              have hm' : (seekTo 1 p bs.length x2).toNat = m := by rw [hm]; rfl
              have hmb : m ≤ bs.length := by omega
              rw [hm'] at h2
              simp only [Option.some.injEq] at h2
              subst h2
              have HM := Lib.hid hm
              have HM' := Lib.hid hm'
              have HT := Lib.hid hT
              clear hm hm'
              clear hT hstep'
              go_wp2_with (first
                | (go_at_call 60; go_must (refine (seek a1 bs.length c1 g p x2 1 _ (by omega) (HI.out.rd.alloc _) hbl HP.out hn1 hn2).mono ?_); rintro e w2' ⟨at', r, rfl, he, hb2, k2, ha⟩; rw [decide_eq_true HT.out] at he; obtain rfl : r = .nilIface := he; rw [if_pos HT.out, HM'.out] at hb2; obtain rfl : at' = (m : Int) := (ha HT.out).trans HM.out; clear ha; have I1 := HI.out.run k2 hb2)
                | (at_builtin; go_must (refine wpList_app (n := ns.length) (xs := U64 ns) (m := 1) sliceU64 rfl _ _ rfl rfl (Row.alloc I1.nums _) rfl (Reads.oneAt (by simp)) (int_one _ _) (by unfold maxLen; omega) (by omega) ?_); intro v' w3 r3 g3 n3))
              have hle := HLE.out
              go_roundw
              case measure => simp [intOf]; omega
              case rel => exact ⟨k + 1, _, by omega, by go_num, HS'.out, hle.1, by have := hle.2.1; simp at this ⊢; omega, by have := hle.2.2; simp at this ⊢; omega, I1.num r3 g3⟩
            · have h2 : some (p, ns ++ [18446744073709551615], ts) = some st' := by simpa [hT] using hstep'
              simp only [Option.some.injEq] at h2
              subst h2
              have HT := Lib.hid hT
              clear hT hstep'
              go_wp2_with (first
                | (go_at_call 60; go_must (refine (seek a1 bs.length c1 g p x2 1 _ (by omega) (HI.out.rd.alloc _) hbl HP.out hn1 hn2).mono ?_); rintro e w2' ⟨at', r, rfl, he, hb2, k2, ha⟩; rw [decide_eq_false HT.out] at he; obtain ⟨t, b, rfl⟩ : ∃ t b, r = .iface t (.pointer (some b)) := he; rw [if_neg HT.out] at hb2; clear ha; have I1 := HI.out.run k2 hb2)
                | (at_builtin; go_must (refine wpList_app (n := ns.length) (xs := U64 ns) (m := 1) sliceU64 rfl _ _ rfl rfl (Row.alloc I1.nums _) rfl (Reads.oneAt (by simp)) (int_one _ _) (by unfold maxLen; omega) (by omega) ?_); intro v' w3 r3 g3 n3))
              have hle := HLE.out
              go_roundw
              case measure => simp [intOf]; omega
              case rel => exact ⟨k + 1, _, by omega, by go_num, HS'.out, hle.1, by have := hle.2.1; simp at this ⊢; omega, by have := hle.2.2; simp at this ⊢; omega, I1.num r3 g3⟩
          · have HLE := Lib.hid hle
            clear hle
            by_cases hT : 0 ≤ seekTo 2 p bs.length x2 ∧ seekTo 2 p bs.length x2 ≤ bs.length
            · have h2 : some ((seekTo 2 p bs.length x2).toNat, ns ++ [(seekTo 2 p bs.length x2).toNat], ts) = some st' := by simpa [hT] using hstep'
              obtain ⟨m, hm⟩ := Int.eq_ofNat_of_zero_le hT.1
              have hm' : (seekTo 2 p bs.length x2).toNat = m := by rw [hm]; rfl
              have hmb : m ≤ bs.length := by omega
              rw [hm'] at h2
              simp only [Option.some.injEq] at h2
              subst h2
              have HM := Lib.hid hm
              have HM' := Lib.hid hm'
              have HT := Lib.hid hT
              clear hm hm'
              clear hT hstep'
              go_wp2_with (first
                | (go_at_call 60; go_must (refine (seek a1 bs.length c1 g p x2 2 _ (by omega) (HI.out.rd.alloc _) hbl HP.out hn1 hn2).mono ?_); rintro e w2' ⟨at', r, rfl, he, hb2, k2, ha⟩; rw [decide_eq_true HT.out] at he; obtain rfl : r = .nilIface := he; rw [if_pos HT.out, HM'.out] at hb2; obtain rfl : at' = (m : Int) := (ha HT.out).trans HM.out; clear ha; have I1 := HI.out.run k2 hb2)
                | (at_builtin; go_must (refine wpList_app (n := ns.length) (xs := U64 ns) (m := 1) sliceU64 rfl _ _ rfl rfl (Row.alloc I1.nums _) rfl (Reads.oneAt (by simp)) (int_one _ _) (by unfold maxLen; omega) (by omega) ?_); intro v' w3 r3 g3 n3))
              have hle := HLE.out
              go_roundw
              case measure => simp [intOf]; omega
              case rel => exact ⟨k + 1, _, by omega, by go_num, HS'.out, hle.1, by have := hle.2.1; simp at this ⊢; omega, by have := hle.2.2; simp at this ⊢; omega, I1.num r3 g3⟩
            · have h2 : some (p, ns ++ [18446744073709551615], ts) = some st' := by simpa [hT] using hstep'
              simp only [Option.some.injEq] at h2
              subst h2
              have HT := Lib.hid hT
              clear hT hstep'
              go_wp2_with (first
                | (go_at_call 60; go_must (refine (seek a1 bs.length c1 g p x2 2 _ (by omega) (HI.out.rd.alloc _) hbl HP.out hn1 hn2).mono ?_); rintro e w2' ⟨at', r, rfl, he, hb2, k2, ha⟩; rw [decide_eq_false HT.out] at he; obtain ⟨t, b, rfl⟩ : ∃ t b, r = .iface t (.pointer (some b)) := he; rw [if_neg HT.out] at hb2; clear ha; have I1 := HI.out.run k2 hb2)
                | (at_builtin; go_must (refine wpList_app (n := ns.length) (xs := U64 ns) (m := 1) sliceU64 rfl _ _ rfl rfl (Row.alloc I1.nums _) rfl (Reads.oneAt (by simp)) (int_one _ _) (by unfold maxLen; omega) (by omega) ?_); intro v' w3 r3 g3 n3))
              have hle := HLE.out
              go_roundw
              case measure => simp [intOf]; omega
              case rel => exact ⟨k + 1, _, by omega, by go_num, HS'.out, hle.1, by have := hle.2.1; simp at this ⊢; omega, by have := hle.2.2; simp at this ⊢; omega, I1.num r3 g3⟩
        · split at hstep'
          · next hx =>
            simp only [] at hx
            clear hx3
            subst hx
            simp only [Option.some.injEq] at hstep'
            subst hstep'
            have hpb : p ≤ bs.length := HP.out
            have HLE := Lib.hid hle
            clear hle
            go_wp2_with (first
              | (go_at_call 62; go_must (refine (offset _ g p _ (HI.out.rd.alloc _)).mono ?_); rintro e w2' ⟨rfl, rfl⟩; have I1 := HI.out.run (X := .cells #[.int .i64 9, .int .i64 x2] 76) (Keep.refl _ _) (HI.out.rd.alloc _))
              | (at_builtin; go_must (refine wpList_app (n := ns.length) (xs := U64 ns) (m := 1) sliceU64 rfl _ _ rfl rfl (Row.alloc I1.nums _) rfl (Reads.oneAt (by simp)) (int_one _ _) (by unfold maxLen; omega) (by omega) ?_); intro v' w3 r3 g3 n3))
            have hle := HLE.out
            go_roundw
            case measure => simp [intOf]; omega
            case rel => exact ⟨k + 1, _, by omega, by go_num, HS'.out, hle.1, by have := hle.2.1; simp at this ⊢; omega, by have := hle.2.2; simp at this ⊢; omega, I1.num r3 g3⟩
          · cases hstep'
    · have hkl : k = l.length := by omega
      subst hkl
      rw [List.take_of_length_le (Nat.le_refl _), HR.out] at hst
      simp only [Option.some.injEq] at hst
      subst hst
      have HI := Lib.hid hI
      clear hI
      go_wp2
      go_ret2
      exact ⟨_, _, rfl, HI.out.nums, HI.out.texts, HI.out.keep⟩
end Go.Proofs.Ytfcdedcffmpjjaa
