/-
  THE CONTRACT of impl.Table.
-/
import Derived.Test.YtbmidlaakbpnlaaTab4
namespace Go.Proofs.Ytbmidlaakbpnlaa
open Go.RowKit
open Go.ChangeShapes Go.WideShapes Go.ChangeAt Go.Deep
open Plain (M64)

/-- The places of texts, and the different ones. -/
def placesStep (st : List Nat × List ByteArray) (s : ByteArray) : List Nat × List ByteArray := (st.1 ++ [place st.2 s], added st.2 s)
def places (l : List ByteArray) : List Nat × List ByteArray := l.foldl placesStep ([], [])
theorem places_snoc {l : List ByteArray} {k : Nat} (h : k < l.length) : places (l.take (k + 1)) = placesStep (places (l.take k)) l[k] := by
  rw [List.take_succ_eq_append_getElem h, places, List.foldl_append]; rfl
theorem places_len (l : List ByteArray) : ∀ k, k ≤ l.length → (places (l.take k)).1.length = k ∧ (places (l.take k)).2.length ≤ k ∧ (∀ x ∈ (places (l.take k)).1, x ≤ k)
  | 0, _ => by simp [places]
  | k + 1, h => by
    obtain ⟨h1, h2, h3⟩ := places_len l k (by omega)
    have h4 := added_length (places (l.take k)).2 l[k]
    have h5 := place_le (places (l.take k)).2 l[k]
    rw [places_snoc (by omega)]
    refine ⟨by simp [placesStep, h1], by simp only [placesStep]; omega, fun x hx => ?_⟩
    simp only [placesStep] at hx
    rcases List.mem_append.1 hx with h | h
    · have := h3 x h; omega
    · simp at h; omega
theorem apartW : Apart 50 := ⟨by decide, by decide, by decide, by decide, by decide⟩
theorem u32_one (x : Int) : ∀ u ∈ [Value.int .u32 x], u.oneCell' = true := int_one _ _
/-- Between two look-ups. -/
structure TI (w wr : World) (vn : Value) (told : List Nat) (g mb : Nat) (st tm : Value) (all : List ByteArray) : Prop where
  nums : Row wr 27 1 vn told.length (U32 told)
  tab : Tab wr g 50 [] mb st tm false all
  keep : Keep Non w wr
  ln : ∀ b, vn.ownBlock = some b → w.heap.size ≤ b
  lf : ∀ i, TabF g mb st tm i → w.heap.size ≤ i
  nn : ∃ b n c, vn = .slice (some ⟨b, 0, none⟩) n c
theorem TI.look {w W W' : World} {vn : Value} {told : List Nat} {g mb : Nat} {st st' tm : Value} {all : List ByteArray} {s : ByteArray} (h : TI w W vn told g mb st tm all) (ht : Tab W' g 50 [] mb st' tm false (added all s)) (k : Keep (fun i => i = g ∨ i = mb ∨ st.ownBlock = some i) W W')
    (hl : ∀ b, st'.ownBlock = some b → st.ownBlock = some b ∨ W.heap.size ≤ b) : TI w W' vn told g mb st' tm (added all s) where
  nums := h.nums.keep k (fun b hb e => by
    rcases e with e | e | e
    · exact h.nums.neBlk h.tab.blk (by decide) (by rw [hb, e])
    · exact h.tab.map.neRow h.nums (by rw [hb, e])
    · exact h.nums.ne h.tab.strs (by decide) hb e)
  tab := ht
  keep := h.keep.trans k (fun i hi e => by
    rcases e with e | e | e
    · have := h.lf i (.inl e); omega
    · have := h.lf i (.inr (.inl e)); omega
    · have := h.lf i (.inr (.inr (.inl e))); omega)
  ln := h.ln
  lf := fun i hi => by
    rcases hi with hi | hi | hi | hi
    · exact h.lf i (.inl hi)
    · exact h.lf i (.inr (.inl hi))
    · rcases hl i hi with e | e
      · exact h.lf i (.inr (.inr (.inl e)))
      · have := h.keep.size; omega
    · exact h.lf i (.inr (.inr (.inr hi)))
  nn := h.nn
theorem TI.tell {w W : World} {vn : Value} {told : List Nat} {g mb : Nat} {st tm : Value} {all : List ByteArray} (h : TI w W vn told g mb st tm all) {u : Obj} {w1 : World} {v' : Value} {x : Nat}
    (r : Row w1 27 1 v' (told.length + 1) (U32 told ++ [.int .u32 (x : Int)])) (gr : Grew (W.alloc u) w1 vn v') : TI w w1 v' (told ++ [x]) g mb st tm all where
  nums := by simpa [U32_append, U32] using r
  tab := (h.tab.far ((Keep.refl Non W).alloc u)).keep gr.keep (fun i hi e => by
    have ht := h.tab.far ((Keep.refl Non W).alloc u)
    rcases hi with hi | hi | hi | hi
    · exact h.nums.neBlk h.tab.blk (by decide) (by rw [hi] at e; exact e)
    · exact h.tab.map.neRow h.nums (by rw [hi] at e; exact e)
    · exact h.nums.ne h.tab.strs (by decide) e hi
    · obtain ⟨_, _, r0, _⟩ := h.tab.tmp
      exact h.nums.ne r0 (by decide) e hi)
  keep := (h.keep.alloc u).trans gr.keep (fun i hi e => by have := h.ln i e; omega)
  ln := fun b hb => by
    rcases gr.lies hb with e | e
    · exact h.ln b e
    · have := h.keep.size; simp at e; omega
  lf := h.lf
  nn := by
    rcases r.shape with ⟨e, h0⟩ | ⟨b, c, e, _⟩
    · omega
    · exact ⟨b, _, c, e⟩
theorem results_tmp4 {fn : Func} {t u v x : Tmp} (h : fn.results = #[.tmp t, .tmp u, .tmp v, .tmp x]) (tmps : Array Value) (P : Program) (w : World) :
    (results fn tmps).run P w = .ok (.tuple #[tmps.getD t undef, tmps.getD u undef, tmps.getD v undef, tmps.getD x undef]) w := by
  simp [results, h]
/-- What impl.Table has done. -/
def TablePost (l : List ByteArray) (w : World) (e : Ending) (w' : World) : Prop :=
  ∃ b n c v2, e = .returned (.tuple #[.slice (some ⟨b, 0, none⟩) n c, .int .u32 (places l).2.length, .int .u32 (tbytes (places l).2).length, v2]) ∧ Row w' 27 1 (.slice (some ⟨b, 0, none⟩) n c) (places l).1.length (U32 (places l).1) ∧
    Row w' 5 1 v2 (tbytes (places l).2).length (B (tbytes (places l).2)) ∧ Keep Non w w'
set_option maxRecDepth 100000 in
set_option maxHeartbeats 8000000 in
theorem table_impl (sv : Value) (l : List ByteArray) (w : World) (hs : Reads w 1 sv l.length (Ts l)) (hll : l.length ≤ 100) (hsz : ∀ s ∈ l, s.size ≤ 1000) :
    Calls Try.prog 10 #[sv] w (TablePost l w) := by
  obtain ⟨aa, ca, rfl⟩ := hs.slice
  have HSZ := Lib.hid hsz
  clear hsz
  have hb0 : Blk (w.alloc (.cells #[.map none, .slice none 0 0, .slice none 0 0, .bool false] 50)) w.heap.size ([.map none, .slice none 0 0, .slice none 0 0, .bool false] ++ []) 50 := Blk.new w ([.map none, .slice none 0 0, .slice none 0 0, .bool false] ++ []) _
  have HB0 := Lib.hid hb0
  clear hb0
  go_enter Try.func10, Try.ntmps10
  go_wp2_with (go_at_call 19; go_must (refine (initWriter w.heap.size _ [] _ HB0.out).mono ?_); rintro e w1 ⟨rfl, mb, tm, t1, k1, l1, l2⟩)
  have I0 : TI w (w1.alloc (.cells #[] 27)) (.slice (some ⟨w1.heap.size, 0, none⟩) 0 0) [] w.heap.size mb (.slice none 0 0) tm [] :=
    { nums := Row.lit w1 27 1 [] 0 (by decide) rfl
      tab := t1.far ((Keep.refl Non w1).alloc _)
      keep := (((Keep.refl Non w).alloc _).trans k1 (fun i hi e => by have e' : i = w.heap.size := e; omega)).alloc _
      ln := fun b hb => by have := k1.size; simp [Value.ownBlock] at hb this; omega
      lf := fun i hi => by
        rcases hi with hi | hi | hi | hi
        · omega
        · simp at l1; omega
        · simp [Value.ownBlock] at hi
        · have := l2 i hi; simp at this; omega
      nn := ⟨_, _, _, rfl⟩ }
  have HI0 := Lib.hid I0
  clear I0 t1 k1 l1 l2
  go_loopw [7, 20] (fun vn i wr => ∃ (k : Nat) (told : List Nat) (all : List ByteArray) (st : Value), k ≤ l.length ∧ i = .int .i64 k ∧ places (l.take k) = (told, all) ∧ told.length = k ∧ all.length ≤ k ∧ TI w wr vn told w.heap.size mb st tm all) (fun _ i _ => l.length - (intOf i).toNat)
  case atStart => exact ⟨0, [], [], _, by omega, rfl, rfl, rfl, by simp, HI0.out⟩
  case round =>
    obtain ⟨k, told, all, st, hk, rfl, hp, hkl, hal, hI⟩ := hrel
    by_cases hlt : k < l.length
    · obtain ⟨ba, offa, ca', hva, hca⟩ := hs.at (by omega) (by omega)
      cases hva
      have d0 := hI.keep.cell (hca k _ (Ts_at hlt)) (fun h => h)
      have hsz := HSZ.out _ (List.getElem_mem hlt)
      have hps := places_snoc hlt
      rw [hp] at hps
      have HPS := Lib.hid hps
      have HI := Lib.hid hI
      have HKL := Lib.hid hkl
      have hkl1 : told.length ≤ 100 := by omega
      have hpl := place_le all l[k]
      have hadl := added_length all l[k]
      clear hps hp hI hca hkl
      generalize l[k] = s at *
      go_wp2_with (first
        | (go_at_call 20; go_must (refine (lookup w.heap.size _ [] mb st tm false all s _ HI.out.tab (by decide) (by decide) (by omega) hsz (.inl rfl)).mono ?_); rintro e w2 ⟨st', rfl, t2, k2, l2⟩; have I2 := HI.out.look t2 k2 l2)
        | (at_builtin; go_must (refine wpList_app (n := told.length) (xs := U32 told) (m := 1) sliceU32 rfl _ _ rfl rfl (Row.alloc I2.nums _) rfl (Reads.oneAt (by simp)) (u32_one _) (by unfold maxLen; omega) (by omega) ?_); intro v' w3 r3 g3 n3))
      go_roundw
      case measure => simp [intOf]; omega
      case rel => exact ⟨k + 1, told ++ [place all s], added all s, st', by omega, by go_num, HPS.out, by simp [HKL.out], by omega, I2.tell r3 g3⟩
    · have hkl2 : k = l.length := by omega
      subst hkl2
      rw [List.take_of_length_le (Nat.le_refl _)] at hp
      have HP := Lib.hid hp
      have HI := Lib.hid hI
      have HKL := Lib.hid hkl
      have hB0 := tones_len all hI.tab.short
      have hB3 := uleb_len64 (v := all.length) (by unfold M64; omega)
      have hB4 : (tbytes all).length ≤ 200000 := by rw [tbytes, List.length_append]; omega
      have hB1 : 0 + (tbytes all).length ≤ maxLen := by unfold maxLen; omega
      have hB2 : (0 + (tbytes all).length) * 1 ≤ 140737488355328 := by omega
      clear hB0 hB3
      obtain ⟨vb, vn, vc, hve⟩ := hI.nn
      subst hve
      clear hp hI hkl
      go_wp2_with (first
        | (go_at_call 21; go_must (refine (freeze w.heap.size _ [] mb st tm false all _ HI.out.tab (by decide) (by decide)).mono ?_); rintro e w2 ⟨rfl, t2, k2⟩)
        | (go_at_call 22; go_must (refine (nentries w.heap.size _ [] mb st tm true all _ (t2.far ((Keep.refl Non w2).alloc _)) (by omega)).mono ?_); rintro e w3 ⟨rfl, rfl⟩)
        | (go_at_call 23; go_must (refine (size w.heap.size _ [] mb st tm true all _ (t2.far ((Keep.refl Non w2).alloc _)) (by decide) (by decide) (by omega)).mono ?_); rintro e w4 ⟨tm4, rfl, t4, k4, l4⟩
           have hpay : Blk (w2.alloc (.cells #[.slice none 0 0, .int .i64 0] 54)) w2.heap.size (wcells (.slice none 0 0) 0) 54 := Blk.new w2 (wcells (.slice none 0 0) 0) _
           have hE : TE w4 w.heap.size 50 [] mb st tm4 true all w2.heap.size (.slice none 0 0) [] := ⟨t4, ⟨hpay.keep k4 (fun e => by
             rcases e with e | e
             · have := t2.blk.lt; omega
             · have := t2.lt _ (.inr (.inr (.inr e))); omega), Row.nil _ _ _, Nat.le_refl _⟩, fun _ _ e => by simp [Value.ownBlock] at e⟩
           have HE := Lib.hid hE
           clear hE hpay)
        | (go_at_call 24; go_must (refine (twrite w.heap.size _ [] mb st tm4 true all w2.heap.size (.slice none 0 0) [] w4 HE.out apartW (by simp) (by omega)).mono ?_); rintro e w5 ⟨tm5, pv5, rfl, h5, k5, l5, l6⟩; rw [List.nil_append] at h5; have H5 := Lib.hid h5; clear h5)
        | (go_at_call 25; go_must (refine (wbytes pv5 w2.heap.size _ _ (H5.out.wr.blk.alloc _)).mono ?_); rintro e w6 ⟨rfl, rfl⟩)
        | (at_builtin; go_must (refine wpList_app sliceBytes rfl (.tmp 47) (.tmp 49) rfl rfl (Row.lit w5 5 1 [] 0 (by decide) rfl) rfl (H5.out.wr.row.reads.alloc _) (B_one _) hB1 hB2 ?_); intro v7 w7 r7 g7 n7))
      refine bodyPost_ret (results_tmp4 rfl _ _ _) rfl ?_
      obtain ⟨k7, l7⟩ := g7.copied rfl
      have kA : Keep (TabF w.heap.size mb st tm) wr (w2.alloc (.cells #[.slice none 0 0, .int .i64 0] 54)) := (k2.mono (fun i _ e => .inl e)).alloc _
      have kB : Keep (TabF w.heap.size mb st tm) wr w4 := kA.trans k4 (fun i _ e => by
        rcases e with e | e
        · exact .inl e
        · exact .inr (.inr (.inr e)))
      have kC : Keep (TabF w.heap.size mb st tm) wr w5 := kB.trans k5 (fun i hi e => by
        have h2 := k2.size
        have h3 := kA.size
        rcases e with e | e | e | e
        · exact .inl e
        · rcases l4 i e with h | h
          · exact .inr (.inr (.inr h))
          · omega
        · omega
        · simp [Value.ownBlock] at e)
      have kD : Keep (TabF w.heap.size mb st tm) wr w7 := kC.trans k7 (fun _ _ h => h.elim)
      have hnum := HI.out.nums.keep kD (fun b hb e => by
        rcases e with e | e | e | e
        · exact HI.out.nums.neBlk HI.out.tab.blk (by decide) (by rw [hb, e])
        · exact HI.out.tab.map.neRow HI.out.nums (by rw [hb, e])
        · exact HI.out.nums.ne HI.out.tab.strs (by decide) hb e
        · obtain ⟨_, _, r0, _⟩ := HI.out.tab.tmp
          exact HI.out.nums.ne r0 (by decide) hb e)
      have hkk : Keep Non w w7 := HI.out.keep.trans kD (fun i hi e => by have := HI.out.lf i e; omega)
      refine ⟨vb, vn, vc, v7, ?_, ?_, ?_, hkk⟩
      · rw [HP.out]; rfl
      · rw [HP.out]; exact hnum
      · rw [HP.out]; simpa using r7
end Go.Proofs.Ytbmidlaakbpnlaa
