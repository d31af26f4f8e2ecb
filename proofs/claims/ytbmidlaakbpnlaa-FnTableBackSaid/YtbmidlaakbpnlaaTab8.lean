/-
  THE LAW FnTableBytes.
-/
import Derived.Deep.AppendSrc
import Derived.Lib.AppendStr
import Derived.Test.YtbmidlaakbpnlaaTab7
namespace Go.Proofs.Ytbmidlaakbpnlaa
open Go.RowKit
open Go.ChangeShapes Go.WideShapes Go.ChangeAt Go.Deep
open Plain (M64)

theorem byteCells_B (s : ByteArray) : byteCells s = B s.data.toList := rfl
theorem storeCells_src {P : Program} (w : World) (t u ty e : TypeId) (i : TypeInfo) (ht : P.underlying t = some (.slice e)) (hi : P.info? e = some i) (hsz : i.size = 1)
    (g sLen sCap : Nat) (cur : Array Value) (hg : w.heap[g]? = some (.cells cur e (0, 0))) (x : Value) (n : Nat) (news : List Value) (hs : Src P i.size u x n news w) (hroom : sLen + n ≤ sCap) (hfit : sLen + n ≤ cur.size) :
    (Builtin.append_ #[t, u] ty #[.slice (some ⟨g, 0, none⟩) sLen sCap, x]).run P w =
      .ok (.slice (some ⟨g, 0, none⟩) (sLen + n) sCap) (w.setRow g (cur.toList.take sLen ++ news ++ cur.toList.drop (sLen + n)).toArray) := by
  have hnl : news.length = n := by have := hs.newsLen; rw [hsz] at this; omega
  have hst := run_storeCells_at P g (sLen * i.size) e news 0 cur w hg (by rw [hsz, hnl]; simpa using hfit) hs.one
  simp only [Nat.add_zero, hsz, Nat.mul_one, hnl] at hst
  have hcs := hs.cells
  rw [hsz] at hcs
  rcases hs.kind with ⟨e', hk⟩ | hk <;> simp [Builtin.append_, run_underlying ht, run_underlying hk, sizeOf, typeInfo, hi, hsz, hs.len, hroom, hcs, Addr.add_lit, hst]

/-- A text's bytes, appended to bytes. -/
theorem wpList_appS {P : Program} {w : World} {t tn e : TypeId} {z : Value} {bytes : Nat} (T : SliceT P t e z 1 bytes) (htn : P.underlying tn = some .string) (hz1 : z.cells = #[z])
    {ops : Array Oper} {rest : List Oper} {o : Oper} {a : Act} {Q : Exit → Act → World → Prop} (hgd : o.guard = none) (s x : Operand)
    (ho : o.op = .call { callee := .builtin .append, args := #[s, x], argTypes := #[t, tn] })
    {v : Value} {n : Nat} {xs : List Value} (hs : a.eval s = v) (hown : Row w e 1 v n xs) {b : ByteArray} (hx : a.eval x = .string b)
    (h63 : n + b.size ≤ maxLen) (hbytes : (n + b.size) * bytes ≤ 140737488355328)
    (h : ∀ v' w', Row w' e 1 v' (n + b.size) (xs ++ B b.data.toList) → Grew w w' v v' → wpList P ops Q rest (a.put o.dst v') w') :
    wpList P ops Q (o :: rest) a w := by
  obtain ⟨i, hi, hz, hsz, hb⟩ := info_parts T.row
  have h63' : n + b.size ≤ 9223372036854775807 := by unfold maxLen at h63; omega
  have zc : ∀ m, Builtin.zeroCells z.cells m = (List.replicate m z).toArray := by
    intro m
    rw [hz1]
    apply Array.ext'
    simp only [Builtin.zeroCells, List.size_toArray, List.length_cons, List.length_nil]
    apply List.ext_getElem
    · simp
    · intro j h1 h2
      simp [Nat.mod_one]
  have hxl : xs.length = n := by simpa using hown.1
  have hbl : (B b.data.toList).length = b.size := by rw [B_length]; exact Array.length_toList
  have hsrc : Src P i.size tn (.string b) b.size (B b.data.toList) w := by rw [hsz]; exact Src.ofString w htn b
  have grown : ∀ (old : Nat), old < n + b.size → ∀ (row : Option Nat),
      Row (w.drew.alloc (.cells ((xs ++ B b.data.toList).toArray ++ (List.replicate (grownCap w (n + b.size) old e - (n + b.size)) z).toArray) e)) e 1 (.slice (some ⟨w.heap.size, 0, none⟩) (n + b.size) (grownCap w (n + b.size) old e)) (n + b.size) (xs ++ B b.data.toList) ∧
      w.grownBy (w.drew.alloc (.cells ((xs ++ B b.data.toList).toArray ++ (List.replicate (grownCap w (n + b.size) old e - (n + b.size)) z).toArray) e)) row := by
    intro old ho' row
    have hge := grownCap_ge w (n + b.size) old e
    have hcm : grownCap w (n + b.size) old e ≤ maxLen := grownCap_le_maxLen w (n + b.size) old e h63
    refine ⟨⟨by simp [hxl, hbl], .inr ⟨w.heap.size, _, _, rfl, Nat.zero_le _, heap_alloc_new w.drew _, hge, hcm, ?_, ?_⟩⟩, ⟨rfl, rfl, rfl, by simp, fun k hk _ => Below.heap_alloc _ _ _ hk⟩⟩
    · simp [hxl, hbl]; omega
    · simp only [Array.toList_append, Nat.mul_one]
      have : (xs ++ B b.data.toList).length = n + b.size := by simp [hxl, hbl]
      rw [← this]
      exact List.take_left
  have key : ∃ v' w', (Builtin.append_ #[t, tn] o.type #[v, .string b]).run P w = .ok v' w' ∧ Row w' e 1 v' (n + b.size) (xs ++ B b.data.toList) ∧ Grew w w' v v' := by
    rcases hown.2 with ⟨rfl, rfl⟩ | ⟨g, cap, cur, rfl, hbg, hg, hnc, hcm, hcs, htake⟩
    · have hx0 : xs = [] := List.eq_nil_of_length_eq_zero hxl
      subst hx0
      by_cases hb0 : b.size = 0
      · have hB : B b.data.toList = [] := List.eq_nil_of_length_eq_zero (by rw [hbl]; exact hb0)
        refine ⟨.slice none 0 0, w, ?_, ?_, ⟨⟨rfl, rfl, rfl, Nat.le_refl _, fun _ _ _ => rfl⟩, .inl rfl⟩⟩
        · have hf := Lib.run_firstCells_string (P := P) w 1 b
          rw [hb0] at hf
          simp [Builtin.append_, run_underlying T.und, run_underlying htn, sizeOf, typeInfo, hi, hsz, Builtin.lenOf, hb0, hf]
        · rw [hb0, hB]; exact hown
      · have hr := run_append_grow_src (P := P) w t tn o.type e i z T.und hi hz none 0 0 [] (run_firstCells_none w.drew i.size 0 0 0) (.string b) b.size _ hsrc (by omega) (by omega) (growslice_fits (by omega) (by rw [hb]; simpa using hbytes))
        rw [zc] at hr
        have hgr := grown 0 (by omega) (Value.ownBlock (.slice none 0 0))
        simp only [Nat.zero_add, List.nil_append] at hgr hr ⊢
        exact ⟨_, _, hr, hgr.1, hgr.2, .inr rfl⟩
    · have hcs' : cur.size = cap := by simpa using hcs
      by_cases hroom : n + b.size ≤ cap
      · have hr := storeCells_src (P := P) w t tn o.type e i T.und hi hsz g n cap cur hg (.string b) b.size _ hsrc hroom (by omega)
        have ht : cur.toList.take n = xs := by simpa using htake
        rw [ht] at hr
        refine ⟨_, _, hr, ⟨by simp [hxl, hbl], .inr ⟨g, cap, _, rfl, Nat.zero_le _, setRow_heap w g cur _ e _ hg, hroom, hcm, ?_, ?_⟩⟩, ⟨rfl, rfl, rfl, by simp, fun k _ hk => setRow_other w g k _ (fun e => hk (by simp [Value.ownBlock, e]))⟩, .inl rfl⟩
        · simp [hxl, hbl]; omega
        · have : (xs ++ B b.data.toList).length = (n + b.size) * 1 := by simp [hxl, hbl]
          rw [← this]
          exact List.take_left
      · have holds : ∀ j u, xs[j]? = some u → w.cell? ((⟨g, 0, none⟩ : Addr).add j) = some u := World.ownsRow.cells hown (g := g) rfl
        have hfit : Builtin.nextslicecap (n + b.size) cap * i.bytes ≤ 281474976710656 := growslice_fits (by omega) (by rw [hb]; exact hbytes)
        have hr := run_append_grow_src (P := P) w t tn o.type e i z T.und hi hz (some ⟨g, 0, none⟩) n cap xs (run_firstCells_some (P := P) w.drew i.size n ⟨g, 0, none⟩ n cap xs (by rw [hsz]; exact hown.1) (by simpa using holds)) (.string b) b.size _ hsrc (by omega) (by omega) hfit
        rw [zc] at hr
        have hgr := grown cap (by omega) (Value.ownBlock (.slice (some ⟨g, 0, none⟩) n cap))
        exact ⟨_, _, hr, hgr.1, hgr.2, .inr rfl⟩
  obtain ⟨v', w', hr, h2, h3⟩ := key
  refine wpList_plain hgd fun K hK => ?_
  unfold Oper.wp execOp
  simp only [ho, resolve, invoke, builtin, Sem.run_bind, Sem.run_pure, Result.andThen_ok, List.map_toArray, List.map_cons, List.map_nil, hs, hx, hr]
  exact hK _ _ (h v' w' h2 h3)
/-- Between two texts of the reference's table. -/
structure SI (w wr : World) (v : Value) (bs : List UInt8) : Prop where
  row : Row wr 5 1 v bs.length (B bs)
  keep : Keep Non w wr
  loc : ∀ b, v.ownBlock = some b → w.heap.size ≤ b
theorem SI.more {w W w1 w2 : World} {v v1 : Value} {bs ds : List UInt8} (h : SI w W v bs) (k : Keep Non W w1) (r : Row w2 5 1 v1 (bs.length + ds.length) (B bs ++ B ds)) (gr : Grew w1 w2 v v1) : SI w w2 v1 (bs ++ ds) where
  row := by rw [B_append, List.length_append]; exact r
  keep := (h.keep.trans k (fun _ _ h => h)).trans gr.keep (fun i hi e => by have := h.loc i e; omega)
  loc := fun b hb => by
    rcases gr.lies hb with e | e
    · exact h.loc b e
    · have := h.keep.size; have := k.size; omega
theorem SI.row1 {w W w1 : World} {v : Value} {bs : List UInt8} (h : SI w W v bs) (k : Keep Non W w1) : Row w1 5 1 v bs.length (B bs) := h.row.keep k (fun _ _ h => h)
set_option maxRecDepth 100000 in
set_option maxHeartbeats 4000000 in
theorem table_spec (sv : Value) (l : List ByteArray) (w : World) (hs : Reads w 1 sv l.length (Ts l)) (hll : l.length ≤ 1000) (hsz : ∀ s ∈ l, s.size ≤ 1000) :
    Calls Try.prog 12 #[sv] w (Fresh w 5 1 (tbytes l).length (B (tbytes l))) := by
  obtain ⟨aa, ca, rfl⟩ := hs.slice
  have HSZ := Lib.hid hsz
  clear hsz
  go_enter Try.func12, Try.ntmps12
  go_wp2_with (go_at_call 26; go_must (refine (uleb_spec l.length _ (by unfold M64; omega)).mono ?_); rintro e w1 ⟨v1, rfl, r1, k1, l1⟩)
  have I0 : SI w w1 v1 (uleb l.length ++ (l.take 0).flatMap tone) := by simpa using SI.mk r1 k1 l1
  have HI0 := Lib.hid I0
  clear I0 r1 k1 l1
  go_loopw [3, 12] (fun v i wr => ∃ (k : Nat), k ≤ l.length ∧ i = .int .i64 k ∧ SI w wr v (uleb l.length ++ (l.take k).flatMap tone)) (fun _ i _ => l.length - (intOf i).toNat)
  case atStart => exact ⟨0, by omega, rfl, HI0.out⟩
  case round =>
    obtain ⟨k, hk, rfl, hI⟩ := hrel
    have HI := Lib.hid hI
    clear hI
    by_cases hlt : k < l.length
    · obtain ⟨ba, offa, ca', hva, hca⟩ := hs.at (by omega) (by omega)
      cases hva
      have d0 := HI.out.keep.cell (hca k _ (Ts_at hlt)) (fun h => h)
      have HSN : Hid (uleb l.length ++ (l.take (k + 1)).flatMap tone = (uleb l.length ++ (l.take k).flatMap tone) ++ uleb l[k].size ++ l[k].data.toList) := Lib.hid (by rw [tones_snoc hlt, tone]; simp)
      have hxz := HSZ.out _ (List.getElem_mem hlt)
      have hbl : (uleb l.length ++ (l.take k).flatMap tone).length ≤ 1010 * k + 10 := by
        have a := tones_len (l.take k) (fun s h => HSZ.out s (List.mem_of_mem_take h))
        have b := uleb_len64 (v := l.length) (by unfold M64; omega)
        have c : (l.take k).length = k := by simp; omega
        rw [c] at a
        rw [List.length_append]; omega
      clear hca
      generalize l[k] = s at *
      have hul := uleb_len64 (v := s.size) (by unfold M64; omega)
      generalize uleb l.length ++ (l.take k).flatMap tone = bs at *
      go_wp2_with (first
        | (go_at_call 26; go_must (refine (uleb_spec s.size _ (by unfold M64; omega)).mono ?_); rintro e w2 ⟨v2, rfl, r2, k2, l2⟩; have R1 := HI.out.row1 k2)
        | ((with_reducible show wpList _ _ _ (Oper.mk (some 24) _ _ _ _ _ :: _) _ _); go_must (refine wpList_appS (n := (bs ++ uleb s.size).length) (xs := B (bs ++ uleb s.size)) (b := s) sliceBytes Try.underlying9 rfl rfl _ _ rfl rfl I3.row rfl (by simp; unfold maxLen; omega) (by simp; omega) ?_); intro v4 w4 r4 g4; have I4 := I3.more (ds := s.data.toList) (Keep.refl _ _) (by rw [show s.data.toList.length = s.size from Array.length_toList]; exact r4) g4; clear r4 g4)
        | (at_builtin; go_must (refine wpList_app (n := bs.length) (xs := B bs) (m := (uleb s.size).length) sliceBytes rfl _ _ rfl rfl R1 rfl r2.reads (B_one _) (by unfold maxLen; omega) (by omega) ?_); intro v3 w3 r3 g3 n3; have I3 := HI.out.more k2 r3 g3; clear r3 g3 n3))
      go_roundw
      case measure => simp [intOf]; omega
      case rel => exact ⟨k + 1, by omega, by go_num, by rw [HSN.out]; exact I4⟩
    · have hkl2 : k = l.length := by omega
      subst hkl2
      go_wp2
      go_ret
      have h := HI.out
      rw [List.take_of_length_le (Nat.le_refl _)] at h
      exact ⟨_, rfl, h.row, h.keep, h.loc⟩
theorem places_mem (l : List ByteArray) : ∀ s ∈ (places l).2, s ∈ l := by
  have key : ∀ k, k ≤ l.length → ∀ s ∈ (places (l.take k)).2, s ∈ l := by
    intro k
    induction k with
    | zero => intro _ s h; simp [places] at h
    | succ k ih =>
      intro hk s h
      rw [places_snoc (by omega)] at h
      simp only [placesStep, added] at h
      by_cases hp : place (places (l.take k)).2 l[k] < (places (l.take k)).2.length
      · rw [if_pos hp] at h
        exact ih (by omega) s h
      · rw [if_neg hp] at h
        rcases List.mem_append.1 h with h | h
        · exact ih (by omega) s h
        · simp only [List.mem_singleton] at h
          rw [h]
          exact List.getElem_mem _
  have := key l.length (Nat.le_refl _)
  rw [List.take_of_length_le (Nat.le_refl _)] at this
  exact this
set_option maxRecDepth 100000 in
set_option maxHeartbeats 4000000 in
theorem tablebytes_law (sv : Value) (l : List ByteArray) (w : World) (hs : Reads w 1 sv l.length (Ts l)) (hll : l.length ≤ 9223372036854775807) (hsz : ∀ s ∈ l, s.size ≤ maxLen) :
    Calls Try.prog 4 #[sv] w fun e w' => e = .returned (.bool true) ∧ Below w.heap.size w w' := by
  obtain ⟨aa, ca, rfl⟩ := hs.slice
  have HSZ := Lib.hid hsz
  clear hsz
  go_enter Try.func4, Try.ntmps4
  go_wp2_with fail
  refine (fits3 _ l w hs hll HSZ.out).mono ?_
  rintro e w1 ⟨ok1, rfl, rfl, hok1⟩
  cases ok1 with
  | false =>
    go_wp2
    go_ret
    exact ⟨rfl, Below.refl _ _⟩
  | true =>
    clear hok1
    go_wp2_with fail
    refine (texts _ l _ hs hll HSZ.out).mono ?_
    rintro e w2 ⟨ok2, rfl, rfl, hok2⟩
    have HOK := Lib.hid hok2
    clear hok2
    cases ok2 with
    | false =>
      go_wp2
      go_ret
      exact ⟨rfl, Below.refl _ _⟩
    | true =>
      obtain ⟨b1, b2⟩ := HOK.out rfl
      have HB2 := Lib.hid b2
      obtain ⟨p1, p2⟩ := places_top l
      have hq2 : (places l).2.length ≤ 20 := by omega
      have hq3 : ∀ s ∈ (places l).2, s.size ≤ 1000 := fun s h => by have := HB2.out s (places_mem l s h); omega
      have HQ3 := Lib.hid hq3
      have htb : (tbytes (places l).2).length ≤ 30000 := by
        have a := tones_len (places l).2 hq3
        have b := uleb_len64 (v := (places l).2.length) (by unfold M64; omega)
        rw [tbytes, List.length_append]; omega
      clear b2 HOK p1 p2 hq3
      go_wp2_with fail
      refine (places_spec _ l _ hs (by omega)).mono ?_
      rintro e w3 ⟨v1, v2, rfl, r1, r2, k3⟩
      obtain ⟨y1, z1, rfl⟩ := r1.reads.slice
      obtain ⟨y2, z2, rfl⟩ := r2.reads.slice
      have R2 := Lib.hid r2
      have K3 := Lib.hid k3
      clear r1 r2 k3
      go_wp2_with fail
      refine (table_spec _ (places l).2 w3 R2.out.reads (by omega) HQ3.out).mono ?_
      rintro e w4 ⟨v4, rfl, r4, k4, _⟩
      have hs4 := (hs.keep K3.out (fun _ _ h => h)).keep k4 (fun _ _ h => h)
      obtain ⟨y4, z4, rfl⟩ := r4.reads.slice
      have R4 := Lib.hid r4
      have K4 := Lib.hid (K3.out.trans k4 (fun _ _ h => h))
      clear r4 k4
      go_wp2_with fail
      refine (table_impl _ l w4 hs4 (by omega) (fun s h => by have := HB2.out s h; omega)).mono ?_
      rintro e w5 ⟨b, n, c, v5, rfl, r5, r6, k5⟩
      have c1 := run_toString (P := Try.prog) Try.underlying28 Try.underlying5 Try.underlying9 r6.reads
      have c2 := run_toString (P := Try.prog) Try.underlying28 Try.underlying5 Try.underlying9 (R4.out.keep k5 (fun _ _ h => h)).reads
      have KB := Lib.hid ((K4.out.trans k5 (fun _ _ h => h)).below (Nat.le_refl _) (fun _ _ h => h.elim))
      obtain ⟨y6, z6, rfl⟩ := r6.reads.slice
      clear r5 r6 k5 hs4
      go_wp2
      go_ret
      exact ⟨ret_bool (by simp), KB.out⟩
end Go.Proofs.Ytbmidlaakbpnlaa
