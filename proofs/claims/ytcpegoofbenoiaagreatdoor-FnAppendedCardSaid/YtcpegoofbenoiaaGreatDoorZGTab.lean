/-
  CONTRACTS of the writer of a table of texts: what it holds, and looking up.
-/
import Derived.Test.YtcpegoofbenoiaaGreatDoorZKb
import Derived.Maps.OwnSet
import Derived.Carry
import Derived.Deep.CutRange
import Derived.Deep.CutBlock
namespace Go.Proofs.YtcpegoofbenoiaaGreatDoor
open Go.RowKit
open Go.ChangeShapes Go.WideShapes Go.ChangeAt Go.Deep
open Plain (M64)

/-! ### Places of texts -/
/-- The place of the first text that is equal; how many there are, if there is none. -/
def place : List ByteArray → ByteArray → Nat
  | [], _ => 0
  | a :: l, s => if a = s then 0 else place l s + 1
theorem place_le : ∀ (l : List ByteArray) s, place l s ≤ l.length
  | [], _ => Nat.le_refl _
  | a :: l, s => by
    have := place_le l s
    unfold place
    split
    · simp
    · simp; exact this
theorem place_at : ∀ (l : List ByteArray) s (h : place l s < l.length), l[place l s] = s
  | [], _, h => by simp at h
  | a :: l, s, h => by
    by_cases e : a = s
    · subst e; simp [place]
    · have h' : place (a :: l) s = place l s + 1 := by simp [place, e]
      have := place_at l s (by rw [h'] at h; simpa using h)
      simp only [h']
      simpa using this
theorem place_before : ∀ (l : List ByteArray) s k (_ : k < place l s) (h : k < l.length), l[k] ≠ s
  | [], _, _, _, h => by simp at h
  | a :: l, s, k, hk, h => by
    by_cases e : a = s
    · subst e; simp [place] at hk
    · simp [place, e] at hk
      match k, h with
      | 0, _ => simpa using e
      | k + 1, h =>
        have := place_before l s k (by omega) (by simpa using h)
        simpa using this
theorem place_snoc_self : ∀ (l : List ByteArray) s, place (l ++ [s]) s = place l s
  | [], s => by simp [place]
  | a :: l, s => by
    have := place_snoc_self l s
    simp only [List.cons_append, place]
    rw [this]
theorem place_snoc : ∀ (l : List ByteArray) s t, s ≠ t → place (l ++ [s]) t = if place l t < l.length then place l t else l.length + 1
  | [], s, t, h => by simp [place, h]
  | a :: l, s, t, h => by
    have := place_snoc l s t h
    simp only [List.cons_append, place]
    by_cases e : a = t
    · simp [e]
    · simp only [e, if_false]
      rw [this]
      simp only [List.length_cons]
      split <;> split <;> omega
/-- The texts behind a look-up. -/
def added (l : List ByteArray) (s : ByteArray) : List ByteArray := if place l s < l.length then l else l ++ [s]
theorem added_length (l : List ByteArray) (s : ByteArray) : l.length ≤ (added l s).length ∧ (added l s).length ≤ l.length + 1 := by
  unfold added; split <;> simp
theorem added_place (l : List ByteArray) (s : ByteArray) : place l s < (added l s).length := by
  have := place_le l s
  unfold added
  split
  · assumption
  · simp; omega
theorem added_at (l : List ByteArray) (s : ByteArray) (h : place l s < (added l s).length) : (added l s)[place l s] = s := by
  by_cases hp : place l s < l.length
  · simp only [added, if_pos hp] at h ⊢
    exact place_at l s hp
  · have := place_le l s
    have e : place l s = l.length := by omega
    simp only [added, if_neg hp] at h ⊢
    simp [e]

/-! ### What a writer holds -/
/-- The map says of each text where it is. -/
def TabD (D : DataW Unit) (all : List ByteArray) : Prop :=
  ∀ s : ByteArray, Maps.has D (.string s.data.toList) = decide (place all s < all.length) ∧ (place all s < all.length → ∀ z, D.atKey (.string s.data.toList) z = .lit (.int .u32 (place all s)))
theorem tabD_empty : TabD (.map []) [] := fun s => ⟨by simp [Maps.has_eq, place], fun h => by simp [place] at h⟩
theorem keyLit (l : List UInt8) : WideAt.IsKeyLit (.string l) := trivial
theorem toList_ne {s t : ByteArray} (h : s ≠ t) : (Lit.string s.data.toList) ≠ .string t.data.toList := by
  intro e
  simp only [Lit.string.injEq] at e
  apply h
  have : (⟨s.data.toList.toArray⟩ : ByteArray) = ⟨t.data.toList.toArray⟩ := by rw [e]
  exact this
theorem tabD_add {D : DataW Unit} {all : List ByteArray} (h : TabD D all) (hm : Maps.IsMap D) {s : ByteArray} (hs : ¬ place all s < all.length) : TabD (D.put (.string s.data.toList) (.lit (.int .u32 all.length))) (all ++ [s]) := by
  intro t
  have hle := place_le all s
  have hpe : place all s = all.length := by omega
  by_cases e : t = s
  · subst e
    rw [Maps.has_put_same hm (keyLit _), place_snoc_self, hpe]
    refine ⟨by simp, fun _ z => ?_⟩
    rw [Maps.atKey_put_same hm (keyLit _)]
  · have hne := toList_ne e
    obtain ⟨h1, h2⟩ := h t
    have hp := place_snoc all s t (Ne.symm e)
    rw [Maps.has_put_other hne, h1, hp]
    by_cases hlt : place all t < all.length
    · rw [if_pos hlt]
      refine ⟨by simp [hlt]; omega, fun _ z => ?_⟩
      rw [Maps.atKey_put_other hne]
      exact h2 hlt z
    · rw [if_neg hlt]
      exact ⟨by simp [hlt], fun hc => by simp at hc⟩
theorem keyed : Go.Maps.Keyed Tryz.prog 9 := Go.Maps.string_keyed Tryz.underlying9
/-- The four cells of a writer, and what stands behind them. -/
def tcells (mb : Nat) (st tm : Value) (fz : Bool) (rest : List Value) : List Value := [.map (some mb), st, tm, .bool fz] ++ rest
/-- A map's block. -/
def OwnsTab (w : World) (mb : Nat) (all : List ByteArray) : Prop := ∃ D, w.ownsMap Tryz.prog 9 (plainElem (H := Unit) Tryz.prog 36) mb all.length D ∧ TabD D all
theorem OwnsTab.keep {S : Nat → Prop} {w w' : World} {mb : Nat} {all : List ByteArray} (h : OwnsTab w mb all) (k : Keep S w w') (hn : ¬ S mb) : OwnsTab w' mb all := by
  obtain ⟨D, ho, hd⟩ := h
  have hlt := ho.lt
  obtain ⟨es, clock, hb, r⟩ := ho
  exact ⟨D, ⟨es, clock, (k.block mb hlt hn).trans hb, r⟩, hd⟩
theorem OwnsTab.lt {w : World} {mb : Nat} {all : List ByteArray} (h : OwnsTab w mb all) : mb < w.heap.size := by
  obtain ⟨D, ho, _⟩ := h
  exact ho.lt
theorem OwnsTab.neBlk {w : World} {mb g : Nat} {all : List ByteArray} {cs : List Value} {T : TypeId} (h : OwnsTab w mb all) (hb : Blk w g cs T) : mb ≠ g := by
  rintro rfl
  obtain ⟨D, ⟨es, clock, he, _⟩, _⟩ := h
  rw [Blk, he] at hb
  simp at hb
theorem OwnsTab.neRow {w : World} {mb : Nat} {all : List ByteArray} {e : TypeId} {size : Nat} {v : Value} {n : Nat} {xs : List Value} (h : OwnsTab w mb all) (hr : Row w e size v n xs) : v.ownBlock ≠ some mb := by
  intro hv
  obtain ⟨D, ⟨es, clock, he, _⟩, _⟩ := h
  rcases hr.2 with ⟨rfl, _⟩ | ⟨a, _, _, rfl, _, ha, _⟩
  · simp [Value.ownBlock] at hv
  · simp [Value.ownBlock] at hv
    subst hv
    rw [ha] at he
    simp at he
/-- What a writer of a table holds: its block, its map, its texts, its scratch. -/
structure Tab (w : World) (g : Nat) (T : TypeId) (rest : List Value) (mb : Nat) (st tm : Value) (fz : Bool) (all : List ByteArray) : Prop where
  blk : Blk w g (tcells mb st tm fz rest) T
  map : OwnsTab w mb all
  strs : Row w 9 1 st all.length (Ts all)
  tmp : ∃ n bs, Row w 5 1 tm n (B bs) ∧ n ≤ 1000
  shape : ∃ b n c, tm = .slice (some ⟨b, 0, none⟩) n c
  short : ∀ s ∈ all, s.size ≤ 1000
/-- Its blocks. -/
def TabF (g mb : Nat) (st tm : Value) : Nat → Prop := fun i => i = g ∨ i = mb ∨ st.ownBlock = some i ∨ tm.ownBlock = some i
theorem Tab.keep {S : Nat → Prop} {w w' : World} {g : Nat} {T : TypeId} {rest : List Value} {mb : Nat} {st tm : Value} {fz : Bool} {all : List ByteArray} (h : Tab w g T rest mb st tm fz all) (k : Keep S w w') (hn : ∀ i, TabF g mb st tm i → ¬ S i) : Tab w' g T rest mb st tm fz all where
  blk := h.blk.keep k (hn g (.inl rfl))
  map := h.map.keep k (hn mb (.inr (.inl rfl)))
  strs := h.strs.keep k (fun b hb => hn b (.inr (.inr (.inl hb))))
  tmp := by
    obtain ⟨n, bs, hr, hl⟩ := h.tmp
    exact ⟨n, bs, hr.keep k (fun b hb => hn b (.inr (.inr (.inr hb)))), hl⟩
  shape := h.shape
  short := h.short
theorem Tab.far {w w' : World} {g : Nat} {T : TypeId} {rest : List Value} {mb : Nat} {st tm : Value} {fz : Bool} {all : List ByteArray} (h : Tab w g T rest mb st tm fz all) (k : Keep Non w w') : Tab w' g T rest mb st tm fz all := h.keep k (fun _ _ h => h)
theorem Tab.lt {w : World} {g : Nat} {T : TypeId} {rest : List Value} {mb : Nat} {st tm : Value} {fz : Bool} {all : List ByteArray} (h : Tab w g T rest mb st tm fz all) : ∀ i, TabF g mb st tm i → i < w.heap.size := by
  intro i hi
  rcases hi with rfl | rfl | hi | hi
  · exact h.blk.lt
  · exact h.map.lt
  · exact h.strs.lt hi
  · obtain ⟨n, bs, hr, _⟩ := h.tmp
    exact hr.lt hi
theorem zeroU32 (w : World) : (zeroValue 36).run Tryz.prog w = .ok (.int .u32 0) w := by kernel_rfl
/-- What a look-up has done. -/
def LookPost (g : Nat) (T : TypeId) (rest : List Value) (mb : Nat) (st tm : Value) (fz : Bool) (all : List ByteArray) (s : ByteArray) (w : World) (e : Ending) (w' : World) : Prop :=
  ∃ st', e = .returned (.int .u32 (place all s)) ∧ Tab w' g T rest mb st' tm fz (added all s) ∧ Keep (fun i => i = g ∨ i = mb ∨ st.ownBlock = some i) w w' ∧ (∀ b, st'.ownBlock = some b → st.ownBlock = some b ∨ w.heap.size ≤ b)
set_option maxRecDepth 100000 in
set_option maxHeartbeats 4000000 in
theorem lookup (g : Nat) (T : TypeId) (rest : List Value) (mb : Nat) (st tm : Value) (fz : Bool) (all : List ByteArray) (s : ByteArray) (w : World) (h : Tab w g T rest mb st tm fz all) (hT : 9 ≠ T) (hT2 : 5 ≠ T) (hl : all.length ≤ 1000000) (hs : s.size ≤ 1000) (hf : fz = false ∨ place all s < all.length) :
    Calls Tryz.prog 36 #[.pointer (some ⟨g, 0, none⟩), .string s] w (LookPost g T rest mb st tm fz all s w) := by
  have c0 : w.cell? ⟨g, 0, none⟩ = some (.map (some mb)) := by rw [h.blk.cell]; rfl
  have c1 : w.cell? ⟨g, 1, none⟩ = some st := by rw [h.blk.cell]; rfl
  have c3 : w.cell? ⟨g, 3, none⟩ = some (.bool fz) := by rw [h.blk.cell]; rfl
  have f1 := h.blk.free 1
  have hkey := Go.WideMaps.keyOf_string_mk (P := Tryz.prog) Tryz.underlying9 (s := s) (by unfold maxLen; omega)
  obtain ⟨D, ho, hD⟩ := h.map
  obtain ⟨hd1, hd2⟩ := hD s
  obtain ⟨sa, sc, rfl⟩ := h.strs.reads.slice
  have H := Lib.hid h
  have HO := Lib.hid ho
  have HD := Lib.hid hD
  have HKEY := Lib.hid hkey
  have HD1 := Lib.hid hd1
  have HD2 := Lib.hid hd2
  clear h ho hD hkey hd1 hd2
  by_cases hin : place all s < all.length
  · have hdt : decide (place all s < all.length) = true := by simpa using hin
    have HA : Hid (added all s = all) := Lib.hid (by unfold added; rw [if_pos hin])
    go_enter Tryz.func36, Tryz.ntmps36
    go_wp2_with (at_lookup; go_must (refine wpList_lookup_own_ok_int _ rfl _ _ 89 rfl 9 36 .u32 keyed Tryz.underlying89 Tryz.underlying36 (zeroU32 _) mb all.length D rfl HO.out _ _ rfl HKEY.out ?_); intro c hat hwc; have hce : c = ((place all s : Nat) : Int) := (by rw [HD2.out hin] at hat; simpa using hat.symm); subst hce; rw [HD1.out, hdt]; clear hat hwc)
    go_ret
    refine ⟨_, rfl, ?_, Keep.refl _ _, fun b hb => .inl hb⟩
    rw [HA.out]
    exact H.out
  · obtain rfl : fz = false := hf.resolve_right hin
    have hdt : decide (place all s < all.length) = false := by simpa using hin
    have HA : Hid (added all s = all ++ [s]) := Lib.hid (by unfold added; rw [if_neg hin])
    have hpe : place all s = all.length := by have := place_le all s; omega
    have HPE := Lib.hid hpe
    clear hpe
    go_enter Tryz.func36, Tryz.ntmps36
    have hwf : (Lit.int .u32 (all.length : Int)).wf = true := by
      simp [Lit.wf, IntKind.min, IntKind.max, IntKind.signed, IntKind.bits]
      omega
    have HWF := Lib.hid hwf
    clear hwf
    go_wp2_with (first
      | (at_lookup; go_must (refine wpList_lookup_own_ok_int _ rfl _ _ 89 rfl 9 36 .u32 keyed Tryz.underlying89 Tryz.underlying36 (zeroU32 _) mb all.length D rfl HO.out _ _ rfl HKEY.out ?_); intro c hat hwc; rw [HD1.out, hdt]; clear hat hwc)
      | (at_mapUpdate; go_must (refine wpList_mapUpdate_own _ rfl _ _ _ 89 rfl 9 36 keyed Tryz.underlying89 _ mb all.length D rfl HO.out (by unfold maxLen; omega) _ _ _ rfl rfl HKEY.out _ [] (plainElem_int Tryz.underlying36 HWF.out) ?_); intro w1 ho1 hg1
         have k1 := Keep.of_grown hg1
         have b1 := H.out.blk.keep k1 (fun e => H.out.map.neBlk H.out.blk (by simpa using e))
         have s1 := H.out.strs.keep k1 (fun b hb e => H.out.map.neRow H.out.strs (by rw [hb]; simpa using Eq.symm e))
         have d1 : w1.cell? ⟨g, 1, none⟩ = some (.slice sa all.length sc) := by rw [b1.cell]; rfl
         have hgz := b1.lt)
      | (at_builtin; go_must (refine wpList_app (n := all.length) (xs := Ts all) (m := 1) sliceStr rfl (.tmp 40) (.tmp 42) rfl rfl (Row.alloc s1 _) rfl (Reads.oneAt (by simp)) (str_one _) (by unfold maxLen; omega) (by omega) ?_); intro v' w2 r2 g2 n2
         have b2 := (b1.alloc (.cells #[.string s] 9)).keep g2.keep (fun e => s1.neBlk b1 hT e)
         obtain ⟨va, vc, hve⟩ := r2.reads.slice
         subst hve
         have d2 : w2.cell? ⟨g, 1, none⟩ = some (.slice sa all.length sc) := by rw [b2.cell]; rfl
         have f2 := b2.free 1))
    go_ret
    have HW : LookPost g T rest mb (.slice sa all.length sc) tm false all s w (.returned (.int .u32 (place all s))) (w2.setCell ⟨g, 1, none⟩ (.slice va (all.length + 1) vc)) := by
      have hml : (OwnsTab w1 mb (all ++ [s])) := ⟨_, by simpa using ho1, tabD_add HD.out HO.out.isMap hin⟩
      obtain ⟨n, bs, ht, hn⟩ := H.out.tmp
      have t1 := ht.keep k1 (fun b hb e => H.out.map.neRow ht (by rw [hb]; simpa using Eq.symm e))
      have t2 := (t1.alloc (.cells #[.string s] 9)).keep g2.keep (fun b hb e => t1.ne s1 (by decide) hb e)
      have m2 := (hml.keep ((Keep.refl Non w1).alloc (.cells #[.string s] 9)) (fun h => h)).keep g2.keep (fun e => hml.neRow s1 e)
      have hne : ∀ b, (Value.slice va (all.length + 1) vc).ownBlock = some b → b ≠ g := fun b hb e => r2.neBlk b2 hT (by rw [hb, e])
      refine ⟨.slice va (all.length + 1) vc, rfl, ⟨?_, ?_, ?_, ⟨n, bs, ?_, hn⟩, H.out.shape, ?_⟩, ?_, ?_⟩
      · have := b2.set 1 (.slice va (all.length + 1) vc)
        simpa [tcells] using this
      · rw [HA.out]
        exact m2.keep (Keep.one w2 g 1 (.slice va (all.length + 1) vc)) (fun e => m2.neBlk b2 e)
      · rw [HA.out]
        have := r2.keep (Keep.one w2 g 1 (.slice va (all.length + 1) vc)) (fun b hb e => hne b hb e)
        simpa [Ts_append, Ts] using this
      · exact t2.keep (Keep.one w2 g 1 (.slice va (all.length + 1) vc)) (fun b hb e => t2.neBlk b2 hT2 (by rw [hb]; exact congrArg some e))
      · intro x hx
        rw [HA.out] at hx
        rcases List.mem_append.1 hx with h | h
        · exact H.out.short x h
        · simp at h; subst h; exact hs
      · refine Keep.setAt ?_ _ _ _ (.inl rfl)
        refine Keep.trans (S' := Own (.slice sa all.length sc)) ?_ g2.keep (fun i _ e => .inr (.inr e))
        exact (k1.mono (fun i _ e => .inr (.inl (by simpa using Eq.symm e)))).alloc _
      · intro b hb
        rcases g2.lies hb with e | e
        · exact .inl e
        · right
          have := k1.size
          simp at e; omega
    rw [HPE.out] at HW
    exact HW
end Go.Proofs.YtcpegoofbenoiaaGreatDoor
/-
  CONTRACTS of the writer of a table of texts: beginning, how many, how long.
-/
namespace Go.Proofs.YtcpegoofbenoiaaGreatDoor
open Go.RowKit
open Go.ChangeShapes Go.WideShapes Go.ChangeAt Go.Deep
open Plain (M64)

/-- The bytes of a text in a table, and of a table. -/
def tone (s : ByteArray) : List UInt8 := uleb s.size ++ s.data.toList
def tbytes (all : List ByteArray) : List UInt8 := uleb all.length ++ all.flatMap tone
theorem tone_len {s : ByteArray} (h : s.size ≤ 1000) : (tone s).length ≤ 1010 := by
  have := uleb_len64 (v := s.size) (by unfold M64; omega)
  have e : s.data.toList.length = s.size := Array.length_toList
  simp [tone] at *
  omega
theorem tones_len : ∀ (l : List ByteArray), (∀ s ∈ l, s.size ≤ 1000) → (l.flatMap tone).length ≤ 1010 * l.length
  | [], _ => by simp
  | s :: l, h => by
    have h1 := tone_len (h s List.mem_cons_self)
    have h2 := tones_len l (fun x hx => h x (List.mem_cons_of_mem _ hx))
    rw [List.flatMap_cons, List.length_append, List.length_cons]
    omega
theorem tones_snoc {l : List ByteArray} {k : Nat} (h : k < l.length) : (l.take (k + 1)).flatMap tone = (l.take k).flatMap tone ++ tone l[k] := by
  rw [List.take_succ_eq_append_getElem h, List.flatMap_append]; simp
theorem Keep.undrew {S : Nat → Prop} {w w' : World} (k : Keep S w.drew w') : Keep S w w' := ⟨k.os, k.tape, k.output, k.size, k.block⟩
theorem Tab.c0 {w : World} {g : Nat} {T : TypeId} {rest : List Value} {mb : Nat} {st tm : Value} {fz : Bool} {all : List ByteArray} (h : Tab w g T rest mb st tm fz all) : w.cell? ⟨g, 0, none⟩ = some (.map (some mb)) := by rw [h.blk.cell]; rfl
theorem Tab.c1 {w : World} {g : Nat} {T : TypeId} {rest : List Value} {mb : Nat} {st tm : Value} {fz : Bool} {all : List ByteArray} (h : Tab w g T rest mb st tm fz all) : w.cell? ⟨g, 1, none⟩ = some st := by rw [h.blk.cell]; rfl
theorem Tab.c2 {w : World} {g : Nat} {T : TypeId} {rest : List Value} {mb : Nat} {st tm : Value} {fz : Bool} {all : List ByteArray} (h : Tab w g T rest mb st tm fz all) : w.cell? ⟨g, 2, none⟩ = some tm := by rw [h.blk.cell]; rfl
theorem Tab.c3 {w : World} {g : Nat} {T : TypeId} {rest : List Value} {mb : Nat} {st tm : Value} {fz : Bool} {all : List ByteArray} (h : Tab w g T rest mb st tm fz all) : w.cell? ⟨g, 3, none⟩ = some (.bool fz) := by rw [h.blk.cell]; rfl
/-- Its scratch is another one: what was done was done to the old one. -/
theorem Tab.retmp {w w' : World} {g : Nat} {T : TypeId} {rest : List Value} {mb : Nat} {st tm tm' : Value} {fz : Bool} {all : List ByteArray} (h : Tab w g T rest mb st tm fz all) (hT : 9 ≠ T) (hT2 : 5 ≠ T) (k : Keep (Own tm) w w') {n : Nat} {bs : List UInt8}
    (r : Row w' 5 1 tm' n (B bs)) (hn : n ≤ 1000) (hs : ∃ b n c, tm' = .slice (some ⟨b, 0, none⟩) n c) : Tab (w'.setCell ⟨g, 2, none⟩ tm') g T rest mb st tm' fz all := by
  obtain ⟨n0, bs0, r0, _⟩ := h.tmp
  have b1 := h.blk.keep k (fun e => r0.neBlk h.blk hT2 e)
  have m1 := h.map.keep k (fun e => h.map.neRow r0 e)
  have s1 := h.strs.keep k (fun b hb e => h.strs.ne r0 (by decide) hb e)
  refine ⟨?_, m1.keep (Keep.one w' g 2 tm') (fun e => m1.neBlk b1 e), ?_, ⟨n, bs, ?_, hn⟩, hs, h.short⟩
  · have := b1.set 2 tm'
    simpa [tcells] using this
  · exact s1.keep (Keep.one w' g 2 tm') (fun b hb e => s1.neBlk b1 hT (by rw [hb]; exact congrArg _ (show b = g from e)))
  · exact r.keep (Keep.one w' g 2 tm') (fun b hb e => r.neBlk b1 hT2 (by rw [hb]; exact congrArg _ (show b = g from e)))
set_option maxRecDepth 100000 in
set_option maxHeartbeats 2000000 in
theorem initWriter (g : Nat) (T : TypeId) (rest : List Value) (w : World) (hb : Blk w g ([.map none, .slice none 0 0, .slice none 0 0, .bool false] ++ rest) T) :
    Calls Tryz.prog 35 #[.pointer (some ⟨g, 0, none⟩)] w fun e w' => e = .returned (.tuple #[]) ∧ ∃ mb tm, Tab w' g T rest mb (.slice none 0 0) tm false [] ∧ Keep (At g) w w' ∧ w.heap.size ≤ mb ∧ (∀ b, tm.ownBlock = some b → w.heap.size ≤ b) := by
  have c0 : w.cell? ⟨g, 0, none⟩ = some (.map none) := by rw [hb.cell]; rfl
  have c2 : w.cell? ⟨g, 2, none⟩ = some (.slice none 0 0) := by rw [hb.cell]; rfl
  have f0 := hb.free 0
  have f2 := hb.free 2
  have hz := hb.lt
  have hmm := @run_makeMap Tryz.prog
  have hmk : ∀ W, (Instr.makeSlice 33 (.int .i64 64) (.int .i64 64)).run Tryz.prog W = _ := fun W => run_make_row' (P := Tryz.prog) 33 5 (.int .u8 0) 1 Tryz.underlying33 (by kernel_rfl) rfl .i64 .i64 64 (by omega) (by omega) W
  have HB := Lib.hid hb
  clear hb
  go_enter Tryz.func35, Tryz.ntmps35
  go_wp2
  go_end0
  have hm : madeCells #[.int .u8 0] 64 = (B (List.replicate 64 0)).toArray := by
    apply Array.ext'
    rw [toList_madeCells_one]
    simp [B]
  rw [hm]
  obtain ⟨W1, hW1⟩ : ∃ W1, W1 = (w.setCell ⟨g, 0, none⟩ (.map (some w.heap.size))).setCell ⟨g, 2, none⟩ (.slice (some ⟨w.heap.size + 1, 0, none⟩) 64 64) := ⟨_, rfl⟩
  have ez : W1.heap.size = w.heap.size := by rw [hW1]; simp
  have bk : Blk W1 g (tcells w.heap.size (.slice none 0 0) (.slice (some ⟨w.heap.size + 1, 0, none⟩) 64 64) false rest) T := by
    rw [hW1]
    have := (HB.out.set 0 (.map (some w.heap.size))).set 2 (.slice (some ⟨w.heap.size + 1, 0, none⟩) 64 64)
    simpa [tcells] using this
  have kk : Keep (At g) w W1 := by rw [hW1]; exact ((Keep.refl _ _).setAt _ _ _ (atSelf _)).setAt _ _ _ (atSelf _)
  have ow : (W1.alloc (.map #[] 0)).ownsMap Tryz.prog 9 (plainElem (H := Unit) Tryz.prog 36) W1.heap.size 0 (.map []) := World.ownsMap_made _ _ _ _
  have e1 : (W1.alloc (.map #[] 0)).heap.size = w.heap.size + 1 := by simp [ez]
  have rw1 := Row.lit (W1.alloc (.map #[] 0)) 5 1 (B (List.replicate 64 0)) 64 (by decide) (by simp [B])
  rw [e1] at rw1
  rw [ez] at ow
  rw [← hW1]
  refine ⟨rfl, w.heap.size, .slice (some ⟨w.heap.size + 1, 0, none⟩) 64 64, ⟨(bk.alloc _).alloc _, ?_, Row.nil _ _ _, ⟨64, List.replicate 64 0, rw1, by omega⟩, ⟨_, _, _, rfl⟩, by simp⟩, (kk.alloc _).alloc _, Nat.le_refl _, ?_⟩
  · exact OwnsTab.keep (S := Non) ⟨_, ow, tabD_empty⟩ ((Keep.refl Non _).alloc _) (fun h => h)
  · intro b hb
    simp [Value.ownBlock] at hb
    omega
set_option maxRecDepth 100000 in
theorem freeze (g : Nat) (T : TypeId) (rest : List Value) (mb : Nat) (st tm : Value) (fz : Bool) (all : List ByteArray) (w : World) (h : Tab w g T rest mb st tm fz all) (hT : 9 ≠ T) (hT2 : 5 ≠ T) :
    Calls Tryz.prog 61 #[.pointer (some ⟨g, 0, none⟩)] w fun e w' => e = .returned (.tuple #[]) ∧ Tab w' g T rest mb st tm true all ∧ Keep (At g) w w' := by
  have c3 := h.c3
  have f3 := h.blk.free 3
  have H := Lib.hid h
  clear h
  go_enter Tryz.func61, Tryz.ntmps61
  go_wp2
  go_end0
  have k := Keep.one w g 3 (.bool true)
  have hm := H.out.map
  obtain ⟨n, bs, ht, hn⟩ := H.out.tmp
  refine ⟨rfl, ⟨?_, hm.keep k (fun e => hm.neBlk H.out.blk e), H.out.strs.keep k (fun b hb e => H.out.strs.neBlk H.out.blk hT (by rw [hb]; exact congrArg _ (show b = g from e))), ⟨n, bs, ht.keep k (fun b hb e => ht.neBlk H.out.blk hT2 (by rw [hb]; exact congrArg _ (show b = g from e))), hn⟩, H.out.shape, H.out.short⟩, k⟩
  have := H.out.blk.set 3 (.bool true)
  simpa [tcells] using this
/-- AppendUleb128 onto emptied scratch. -/
def Uleb0 (b x : Nat) (w : World) (e : Ending) (w' : World) : Prop :=
  ∃ vb vc, e = .returned (.slice (some ⟨vb, 0, none⟩) (uleb x).length vc) ∧ Row w' 5 1 (.slice (some ⟨vb, 0, none⟩) (uleb x).length vc) (uleb x).length (B (uleb x)) ∧ Keep (At b) w w' ∧ (vb = b ∨ w.heap.size ≤ vb)
theorem uleb0 (b c x : Nat) (w : World) (hx : x < M64) (hown : Row w 5 1 (.slice (some ⟨b, 0, none⟩) 0 c) 0 (B [])) : Calls Tryz.prog 66 #[.slice (some ⟨b, 0, none⟩) 0 c, .int .u64 x] w (Uleb0 b x w) := by
  refine (appendUleb _ 0 [] x w hx hown (Nat.zero_le _)).mono ?_
  rintro e w' ⟨v', rfl, r, k, l⟩
  rw [Nat.zero_add, List.nil_append] at r
  obtain ⟨vb, vc, rfl⟩ := r.at (List.length_pos_iff.2 (uleb_ne x))
  refine ⟨vb, vc, rfl, r, k.mono (fun i _ e => ?_), ?_⟩
  · have : b = i := by simpa [Own, Value.ownBlock] using e
    exact this.symm
  · rcases l vb rfl with h | h
    · exact .inl (by simpa [Value.ownBlock] using h.symm)
    · exact .inr h
/-- Its scratch after a number was laid there: like 'retmp', in the words of 'Uleb0'. -/
theorem Tab.laid {w w' : World} {g : Nat} {T : TypeId} {rest : List Value} {mb : Nat} {st : Value} {fz : Bool} {all : List ByteArray} {b n c vb vc x : Nat} (h : Tab w g T rest mb st (.slice (some ⟨b, 0, none⟩) n c) fz all) (hT : 9 ≠ T) (hT2 : 5 ≠ T) (hx : x < M64) (k : Keep (At b) w w')
    (r : Row w' 5 1 (.slice (some ⟨vb, 0, none⟩) (uleb x).length vc) (uleb x).length (B (uleb x))) :
    Blk w' g (tcells mb st (.slice (some ⟨b, 0, none⟩) n c) fz rest) T ∧ Tab (w'.setCell ⟨g, 2, none⟩ (.slice (some ⟨vb, 0, none⟩) (uleb x).length vc)) g T rest mb st (.slice (some ⟨vb, 0, none⟩) (uleb x).length vc) fz all ∧
    Row (w'.setCell ⟨g, 2, none⟩ (.slice (some ⟨vb, 0, none⟩) (uleb x).length vc)) 5 1 (.slice (some ⟨vb, 0, none⟩) (uleb x).length vc) (uleb x).length (B (uleb x)) := by
  obtain ⟨n0, bs0, r0, _⟩ := h.tmp
  have hbg : b ≠ g := fun e => r0.neBlk h.blk hT2 (by rw [← e]; rfl)
  have b1 := h.blk.keep k (fun e => hbg (Eq.symm e))
  have hlu := uleb_len64 hx
  refine ⟨b1, h.retmp hT hT2 (k.mono fun i _ e => ?_) r (by omega) ⟨_, _, _, rfl⟩, r.keep (Keep.one w' g 2 _) (fun i hb e => r.neBlk b1 hT2 (by rw [hb]; exact congrArg _ (show i = g from e)))⟩
  have e' : i = b := e
  subst e'; rfl
/-- Behind Size. -/
def SizePost (g : Nat) (T : TypeId) (rest : List Value) (mb : Nat) (st tm : Value) (fz : Bool) (all : List ByteArray) (w : World) (e : Ending) (w' : World) : Prop :=
  ∃ tm', e = .returned (.int .u32 (tbytes all).length) ∧ Tab w' g T rest mb st tm' fz all ∧ Keep (fun i => i = g ∨ tm.ownBlock = some i) w w' ∧ (∀ b, tm'.ownBlock = some b → tm.ownBlock = some b ∨ w.heap.size ≤ b)
/-- Scratch is emptied, and a number is laid there. -/
theorem Tab.scratch {w : World} {g : Nat} {T : TypeId} {rest : List Value} {mb : Nat} {st : Value} {fz : Bool} {all : List ByteArray} {b n c : Nat} (h : Tab w g T rest mb st (.slice (some ⟨b, 0, none⟩) n c) fz all) (hT : 9 ≠ T) (hT2 : 5 ≠ T) :
    Tab (w.setCell ⟨g, 2, none⟩ (.slice (some ⟨b, 0, none⟩) 0 c)) g T rest mb st (.slice (some ⟨b, 0, none⟩) 0 c) fz all ∧ Row (w.setCell ⟨g, 2, none⟩ (.slice (some ⟨b, 0, none⟩) 0 c)) 5 1 (.slice (some ⟨b, 0, none⟩) 0 c) 0 (B []) := by
  obtain ⟨n0, bs0, r0, _⟩ := h.tmp
  have hn : n0 = n := by
    rcases r0.shape with ⟨h, _⟩ | ⟨_, _, h, _⟩
    · cases h
    · cases h; rfl
  subst hn
  have rz : Row w 5 1 (.slice (some ⟨b, 0, none⟩) 0 c) 0 (B []) := r0.zero
  refine ⟨h.retmp hT hT2 (Keep.refl _ _) rz (by omega) ⟨_, _, _, rfl⟩, rz.keep (Keep.one w g 2 _) (fun b' hb e => ?_)⟩
  exact r0.neBlk h.blk hT2 (by have e' : b' = g := e; rw [← e']; exact hb)
end Go.Proofs.YtcpegoofbenoiaaGreatDoor
