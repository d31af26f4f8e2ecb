/-
  CONTRACTS of the writer of a table of texts: what it holds, and looking up.
-/
import Derived.Test.YtbmidlaakbpnlaaDoorKb
import Derived.Maps.OwnSet
import Derived.Carry
namespace Go.Proofs.YtbmidlaakbpnlaaDoor
open Go.RowKit
open Go.ChangeShapes Go.WideShapes Go.ChangeAt Go.Deep
open Plain (M64)

/-! ### Places of texts -/
/-- The place of the first text that is equal; how many there are, if there is none. -/
def place : List ByteArray → ByteArray → Nat
  | [], _ => 0
  | a :: l, s => if a = s then 0 else place l s + 1
theorem place_le : ∀ (l : List ByteArray) s, place l s ≤ l.length
  | [], _ => Nat.le_refl _
  | a :: l, s => by
    have := place_le l s
    unfold place
    split
    · simp
    · simp; exact this
theorem place_at : ∀ (l : List ByteArray) s (h : place l s < l.length), l[place l s] = s
  | [], _, h => by simp at h
  | a :: l, s, h => by
    by_cases e : a = s
    · subst e; simp [place]
    · have h' : place (a :: l) s = place l s + 1 := by simp [place, e]
      have := place_at l s (by rw [h'] at h; simpa using h)
      simp only [h']
      simpa using this
theorem place_before : ∀ (l : List ByteArray) s k (_ : k < place l s) (h : k < l.length), l[k] ≠ s
  | [], _, _, _, h => by simp at h
  | a :: l, s, k, hk, h => by
    by_cases e : a = s
    · subst e; simp [place] at hk
    · simp [place, e] at hk
      match k, h with
      | 0, _ => simpa using e
      | k + 1, h =>
        have := place_before l s k (by omega) (by simpa using h)
        simpa using this
theorem place_snoc_self : ∀ (l : List ByteArray) s, place (l ++ [s]) s = place l s
  | [], s => by simp [place]
  | a :: l, s => by
    have := place_snoc_self l s
    simp only [List.cons_append, place]
    rw [this]
theorem place_snoc : ∀ (l : List ByteArray) s t, s ≠ t → place (l ++ [s]) t = if place l t < l.length then place l t else l.length + 1
  | [], s, t, h => by simp [place, h]
  | a :: l, s, t, h => by
    have := place_snoc l s t h
    simp only [List.cons_append, place]
    by_cases e : a = t
    · simp [e]
    · simp only [e, if_false]
      rw [this]
      simp only [List.length_cons]
      split <;> split <;> omega
/-- The texts behind a look-up. -/
def added (l : List ByteArray) (s : ByteArray) : List ByteArray := if place l s < l.length then l else l ++ [s]
theorem added_length (l : List ByteArray) (s : ByteArray) : l.length ≤ (added l s).length ∧ (added l s).length ≤ l.length + 1 := by
  unfold added; split <;> simp
theorem added_place (l : List ByteArray) (s : ByteArray) : place l s < (added l s).length := by
  have := place_le l s
  unfold added
  split
  · assumption
  · simp; omega
theorem added_at (l : List ByteArray) (s : ByteArray) (h : place l s < (added l s).length) : (added l s)[place l s] = s := by
  by_cases hp : place l s < l.length
  · simp only [added, if_pos hp] at h ⊢
    exact place_at l s hp
  · have := place_le l s
    have e : place l s = l.length := by omega
    simp only [added, if_neg hp] at h ⊢
    simp [e]

/-! ### What a writer holds -/
/-- The map says of each text where it is. -/
def TabD (D : DataW Unit) (all : List ByteArray) : Prop :=
  ∀ s : ByteArray, Maps.has D (.string s.data.toList) = decide (place all s < all.length) ∧ (place all s < all.length → ∀ z, D.atKey (.string s.data.toList) z = .lit (.int .u32 (place all s)))
theorem tabD_empty : TabD (.map []) [] := fun s => ⟨by simp [Maps.has_eq, place], fun h => by simp [place] at h⟩
theorem keyLit (l : List UInt8) : WideAt.IsKeyLit (.string l) := trivial
theorem toList_ne {s t : ByteArray} (h : s ≠ t) : (Lit.string s.data.toList) ≠ .string t.data.toList := by
  intro e
  simp only [Lit.string.injEq] at e
  apply h
  have : (⟨s.data.toList.toArray⟩ : ByteArray) = ⟨t.data.toList.toArray⟩ := by rw [e]
  exact this
theorem tabD_add {D : DataW Unit} {all : List ByteArray} (h : TabD D all) (hm : Maps.IsMap D) {s : ByteArray} (hs : ¬ place all s < all.length) : TabD (D.put (.string s.data.toList) (.lit (.int .u32 all.length))) (all ++ [s]) := by
  intro t
  have hle := place_le all s
  have hpe : place all s = all.length := by omega
  by_cases e : t = s
  · subst e
    rw [Maps.has_put_same hm (keyLit _), place_snoc_self, hpe]
    refine ⟨by simp, fun _ z => ?_⟩
    rw [Maps.atKey_put_same hm (keyLit _)]
  · have hne := toList_ne e
    obtain ⟨h1, h2⟩ := h t
    have hp := place_snoc all s t (Ne.symm e)
    rw [Maps.has_put_other hne, h1, hp]
    by_cases hlt : place all t < all.length
    · rw [if_pos hlt]
      refine ⟨by simp [hlt]; omega, fun _ z => ?_⟩
      rw [Maps.atKey_put_other hne]
      exact h2 hlt z
    · rw [if_neg hlt]
      exact ⟨by simp [hlt], fun hc => by simp at hc⟩
theorem keyed : Go.Maps.Keyed Tryd.prog 9 := Go.Maps.string_keyed Tryd.underlying9
/-- The four cells of a writer, and what stands behind them. -/
def tcells (mb : Nat) (st tm : Value) (fz : Bool) (rest : List Value) : List Value := [.map (some mb), st, tm, .bool fz] ++ rest
/-- A map's block. -/
def OwnsTab (w : World) (mb : Nat) (all : List ByteArray) : Prop := ∃ D, w.ownsMap Tryd.prog 9 (plainElem (H := Unit) Tryd.prog 47) mb all.length D ∧ TabD D all
theorem OwnsTab.keep {S : Nat → Prop} {w w' : World} {mb : Nat} {all : List ByteArray} (h : OwnsTab w mb all) (k : Keep S w w') (hn : ¬ S mb) : OwnsTab w' mb all := by
  obtain ⟨D, ho, hd⟩ := h
  have hlt := ho.lt
  obtain ⟨es, clock, hb, r⟩ := ho
  exact ⟨D, ⟨es, clock, (k.block mb hlt hn).trans hb, r⟩, hd⟩
theorem OwnsTab.lt {w : World} {mb : Nat} {all : List ByteArray} (h : OwnsTab w mb all) : mb < w.heap.size := by
  obtain ⟨D, ho, _⟩ := h
  exact ho.lt
theorem OwnsTab.neBlk {w : World} {mb g : Nat} {all : List ByteArray} {cs : List Value} {T : TypeId} (h : OwnsTab w mb all) (hb : Blk w g cs T) : mb ≠ g := by
  rintro rfl
  obtain ⟨D, ⟨es, clock, he, _⟩, _⟩ := h
  rw [Blk, he] at hb
  simp at hb
theorem OwnsTab.neRow {w : World} {mb : Nat} {all : List ByteArray} {e : TypeId} {size : Nat} {v : Value} {n : Nat} {xs : List Value} (h : OwnsTab w mb all) (hr : Row w e size v n xs) : v.ownBlock ≠ some mb := by
  intro hv
  obtain ⟨D, ⟨es, clock, he, _⟩, _⟩ := h
  rcases hr.2 with ⟨rfl, _⟩ | ⟨a, _, _, rfl, _, ha, _⟩
  · simp [Value.ownBlock] at hv
  · simp [Value.ownBlock] at hv
    subst hv
    rw [ha] at he
    simp at he
/-- What a writer of a table holds: its block, its map, its texts, its scratch. -/
structure Tab (w : World) (g : Nat) (T : TypeId) (rest : List Value) (mb : Nat) (st tm : Value) (fz : Bool) (all : List ByteArray) : Prop where
  blk : Blk w g (tcells mb st tm fz rest) T
  map : OwnsTab w mb all
  strs : Row w 9 1 st all.length (Ts all)
  tmp : ∃ n bs, Row w 5 1 tm n (B bs) ∧ n ≤ 1000
  shape : ∃ b n c, tm = .slice (some ⟨b, 0, none⟩) n c
  short : ∀ s ∈ all, s.size ≤ 1000
/-- Its blocks. -/
def TabF (g mb : Nat) (st tm : Value) : Nat → Prop := fun i => i = g ∨ i = mb ∨ st.ownBlock = some i ∨ tm.ownBlock = some i
theorem Tab.keep {S : Nat → Prop} {w w' : World} {g : Nat} {T : TypeId} {rest : List Value} {mb : Nat} {st tm : Value} {fz : Bool} {all : List ByteArray} (h : Tab w g T rest mb st tm fz all) (k : Keep S w w') (hn : ∀ i, TabF g mb st tm i → ¬ S i) : Tab w' g T rest mb st tm fz all where
  blk := h.blk.keep k (hn g (.inl rfl))
  map := h.map.keep k (hn mb (.inr (.inl rfl)))
  strs := h.strs.keep k (fun b hb => hn b (.inr (.inr (.inl hb))))
  tmp := by
    obtain ⟨n, bs, hr, hl⟩ := h.tmp
    exact ⟨n, bs, hr.keep k (fun b hb => hn b (.inr (.inr (.inr hb)))), hl⟩
  shape := h.shape
  short := h.short
theorem Tab.far {w w' : World} {g : Nat} {T : TypeId} {rest : List Value} {mb : Nat} {st tm : Value} {fz : Bool} {all : List ByteArray} (h : Tab w g T rest mb st tm fz all) (k : Keep Non w w') : Tab w' g T rest mb st tm fz all := h.keep k (fun _ _ h => h)
theorem Tab.lt {w : World} {g : Nat} {T : TypeId} {rest : List Value} {mb : Nat} {st tm : Value} {fz : Bool} {all : List ByteArray} (h : Tab w g T rest mb st tm fz all) : ∀ i, TabF g mb st tm i → i < w.heap.size := by
  intro i hi
  rcases hi with rfl | rfl | hi | hi
  · exact h.blk.lt
  · exact h.map.lt
  · exact h.strs.lt hi
  · obtain ⟨n, bs, hr, _⟩ := h.tmp
    exact hr.lt hi
theorem zeroU32 (w : World) : (zeroValue 47).run Tryd.prog w = .ok (.int .u32 0) w := by kernel_rfl
/-- What a look-up has done. -/
def LookPost (g : Nat) (T : TypeId) (rest : List Value) (mb : Nat) (st tm : Value) (fz : Bool) (all : List ByteArray) (s : ByteArray) (w : World) (e : Ending) (w' : World) : Prop :=
  ∃ st', e = .returned (.int .u32 (place all s)) ∧ Tab w' g T rest mb st' tm fz (added all s) ∧ Keep (fun i => i = g ∨ i = mb ∨ st.ownBlock = some i) w w' ∧ (∀ b, st'.ownBlock = some b → st.ownBlock = some b ∨ w.heap.size ≤ b)
set_option maxRecDepth 100000 in
set_option maxHeartbeats 4000000 in
theorem lookup (g : Nat) (T : TypeId) (rest : List Value) (mb : Nat) (st tm : Value) (fz : Bool) (all : List ByteArray) (s : ByteArray) (w : World) (h : Tab w g T rest mb st tm fz all) (hT : 9 ≠ T) (hT2 : 5 ≠ T) (hl : all.length ≤ 1000000) (hs : s.size ≤ 1000) (hf : fz = false ∨ place all s < all.length) :
    Calls Tryd.prog 27 #[.pointer (some ⟨g, 0, none⟩), .string s] w (LookPost g T rest mb st tm fz all s w) := by
  have c0 : w.cell? ⟨g, 0, none⟩ = some (.map (some mb)) := by rw [h.blk.cell]; rfl
  have c1 : w.cell? ⟨g, 1, none⟩ = some st := by rw [h.blk.cell]; rfl
  have c3 : w.cell? ⟨g, 3, none⟩ = some (.bool fz) := by rw [h.blk.cell]; rfl
  have f1 := h.blk.free 1
  have hkey := Go.WideMaps.keyOf_string_mk (P := Tryd.prog) Tryd.underlying9 (s := s) (by unfold maxLen; omega)
  obtain ⟨D, ho, hD⟩ := h.map
  obtain ⟨hd1, hd2⟩ := hD s
  obtain ⟨sa, sc, rfl⟩ := h.strs.reads.slice
  have H := Lib.hid h
  have HO := Lib.hid ho
  have HD := Lib.hid hD
  have HKEY := Lib.hid hkey
  have HD1 := Lib.hid hd1
  have HD2 := Lib.hid hd2
  clear h ho hD hkey hd1 hd2
  by_cases hin : place all s < all.length
  · have hdt : decide (place all s < all.length) = true := by simpa using hin
    have HA : Hid (added all s = all) := Lib.hid (by unfold added; rw [if_pos hin])
    go_enter Tryd.func27, Tryd.ntmps27
    go_wp2_with (at_lookup; go_must (refine wpList_lookup_own_ok_int _ rfl _ _ 81 rfl 9 47 .u32 keyed Tryd.underlying81 Tryd.underlying47 (zeroU32 _) mb all.length D rfl HO.out _ _ rfl HKEY.out ?_); intro c hat hwc; have hce : c = ((place all s : Nat) : Int) := (by rw [HD2.out hin] at hat; simpa using hat.symm); subst hce; rw [HD1.out, hdt]; clear hat hwc)
    go_ret
    refine ⟨_, rfl, ?_, Keep.refl _ _, fun b hb => .inl hb⟩
    rw [HA.out]
    exact H.out
  · obtain rfl : fz = false := hf.resolve_right hin
    have hdt : decide (place all s < all.length) = false := by simpa using hin
    have HA : Hid (added all s = all ++ [s]) := Lib.hid (by unfold added; rw [if_neg hin])
    have hpe : place all s = all.length := by have := place_le all s; omega
    have HPE := Lib.hid hpe
    clear hpe
    go_enter Tryd.func27, Tryd.ntmps27
    have hwf : (Lit.int .u32 (all.length : Int)).wf = true := by
      simp [Lit.wf, IntKind.min, IntKind.max, IntKind.signed, IntKind.bits]
      omega
    have HWF := Lib.hid hwf
    clear hwf
    go_wp2_with (first
      | (at_lookup; go_must (refine wpList_lookup_own_ok_int _ rfl _ _ 81 rfl 9 47 .u32 keyed Tryd.underlying81 Tryd.underlying47 (zeroU32 _) mb all.length D rfl HO.out _ _ rfl HKEY.out ?_); intro c hat hwc; rw [HD1.out, hdt]; clear hat hwc)
      | (at_mapUpdate; go_must (refine wpList_mapUpdate_own _ rfl _ _ _ 81 rfl 9 47 keyed Tryd.underlying81 _ mb all.length D rfl HO.out (by unfold maxLen; omega) _ _ _ rfl rfl HKEY.out _ [] (plainElem_int Tryd.underlying47 HWF.out) ?_); intro w1 ho1 hg1
         have k1 := Keep.of_grown hg1
         have b1 := H.out.blk.keep k1 (fun e => H.out.map.neBlk H.out.blk (by simpa using e))
         have s1 := H.out.strs.keep k1 (fun b hb e => H.out.map.neRow H.out.strs (by rw [hb]; simpa using Eq.symm e))
         have d1 : w1.cell? ⟨g, 1, none⟩ = some (.slice sa all.length sc) := by rw [b1.cell]; rfl
         have hgz := b1.lt)
      | (at_builtin; go_must (refine wpList_app (n := all.length) (xs := Ts all) (m := 1) sliceStr rfl (.tmp 40) (.tmp 42) rfl rfl (Row.alloc s1 _) rfl (Reads.oneAt (by simp)) (str_one _) (by unfold maxLen; omega) (by omega) ?_); intro v' w2 r2 g2 n2
         have b2 := (b1.alloc (.cells #[.string s] 9)).keep g2.keep (fun e => s1.neBlk b1 hT e)
         obtain ⟨va, vc, hve⟩ := r2.reads.slice
         subst hve
         have d2 : w2.cell? ⟨g, 1, none⟩ = some (.slice sa all.length sc) := by rw [b2.cell]; rfl
         have f2 := b2.free 1))
    go_ret
    have HW : LookPost g T rest mb (.slice sa all.length sc) tm false all s w (.returned (.int .u32 (place all s))) (w2.setCell ⟨g, 1, none⟩ (.slice va (all.length + 1) vc)) := by
      have hml : (OwnsTab w1 mb (all ++ [s])) := ⟨_, by simpa using ho1, tabD_add HD.out HO.out.isMap hin⟩
      obtain ⟨n, bs, ht, hn⟩ := H.out.tmp
      have t1 := ht.keep k1 (fun b hb e => H.out.map.neRow ht (by rw [hb]; simpa using Eq.symm e))
      have t2 := (t1.alloc (.cells #[.string s] 9)).keep g2.keep (fun b hb e => t1.ne s1 (by decide) hb e)
      have m2 := (hml.keep ((Keep.refl Non w1).alloc (.cells #[.string s] 9)) (fun h => h)).keep g2.keep (fun e => hml.neRow s1 e)
      have hne : ∀ b, (Value.slice va (all.length + 1) vc).ownBlock = some b → b ≠ g := fun b hb e => r2.neBlk b2 hT (by rw [hb, e])
      refine ⟨.slice va (all.length + 1) vc, rfl, ⟨?_, ?_, ?_, ⟨n, bs, ?_, hn⟩, H.out.shape, ?_⟩, ?_, ?_⟩
      · have := b2.set 1 (.slice va (all.length + 1) vc)
        simpa [tcells] using this
      · rw [HA.out]
        exact m2.keep (Keep.one w2 g 1 (.slice va (all.length + 1) vc)) (fun e => m2.neBlk b2 e)
      · rw [HA.out]
        have := r2.keep (Keep.one w2 g 1 (.slice va (all.length + 1) vc)) (fun b hb e => hne b hb e)
        simpa [Ts_append, Ts] using this
      · exact t2.keep (Keep.one w2 g 1 (.slice va (all.length + 1) vc)) (fun b hb e => t2.neBlk b2 hT2 (by rw [hb]; exact congrArg some e))
      · intro x hx
        rw [HA.out] at hx
        rcases List.mem_append.1 hx with h | h
        · exact H.out.short x h
        · simp at h; subst h; exact hs
      · refine Keep.setAt ?_ _ _ _ (.inl rfl)
        refine Keep.trans (S' := Own (.slice sa all.length sc)) ?_ g2.keep (fun i _ e => .inr (.inr e))
        exact (k1.mono (fun i _ e => .inr (.inl (by simpa using Eq.symm e)))).alloc _
      · intro b hb
        rcases g2.lies hb with e | e
        · exact .inl e
        · right
          have := k1.size
          simp at e; omega
    rw [HPE.out] at HW
    exact HW
end Go.Proofs.YtbmidlaakbpnlaaDoor
