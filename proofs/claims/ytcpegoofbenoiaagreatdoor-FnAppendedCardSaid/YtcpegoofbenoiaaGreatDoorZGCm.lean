/-
  MAPS of texts by texts: what one holds; storing, looking up, ranging over it.
-/
import Derived.Test.YtcpegoofbenoiaaGreatDoorZGKe
import Derived.Maps.RangeWalk
import Derived.Maps.StringElems
import Derived.Sort.KeysCollected
import Derived.Carry
import Derived.Test.YtcpegoofbenoiaaGreatDoorZShelf
namespace Go.Proofs.YtcpegoofbenoiaaGreatDoor
open Go.RowKit
open Go.ChangeShapes Go.WideShapes Go.ChangeAt Go.Deep
open Plain (M64)

def keysL (kvs : List (ByteArray × ByteArray)) : List ByteArray := kvs.map (·.1)
def getSM : List (ByteArray × ByteArray) → ByteArray → Option ByteArray
  | [], _ => none
  | x :: l, s => if x.1 = s then some x.2 else getSM l s
theorem getSM_none : ∀ {l : List (ByteArray × ByteArray)} {s : ByteArray}, s ∉ keysL l → getSM l s = none
  | [], _, _ => rfl
  | x :: l, s, h => by
    have h1 : ¬ x.1 = s := fun e => h (by simp [keysL, e])
    have h2 : s ∉ keysL l := fun e => h (by simp only [keysL, List.map_cons, List.mem_cons]; exact .inr e)
    rw [getSM, if_neg h1, getSM_none h2]
theorem getSM_mem : ∀ {l : List (ByteArray × ByteArray)} {s v : ByteArray}, getSM l s = some v → (s, v) ∈ l
  | x :: l, s, v, h => by
    by_cases e : x.1 = s
    · rw [getSM, if_pos e] at h
      cases h
      subst e
      exact List.mem_cons_self
    · rw [getSM, if_neg e] at h
      exact List.mem_cons_of_mem _ (getSM_mem h)
theorem getSM_isSome {l : List (ByteArray × ByteArray)} {s : ByteArray} : (getSM l s).isSome = true ↔ s ∈ keysL l := by
  constructor
  · intro h
    obtain ⟨v, hv⟩ := Option.isSome_iff_exists.1 h
    exact List.mem_map_of_mem (f := (·.1)) (getSM_mem hv)
  · intro h
    by_cases e : getSM l s = none
    · exfalso
      induction l with
      | nil => simp [keysL] at h
      | cons x l ih =>
        by_cases e1 : x.1 = s
        · rw [getSM, if_pos e1] at e; cases e
        · rw [getSM, if_neg e1] at e
          simp only [keysL, List.map_cons, List.mem_cons] at h
          exact ih (h.resolve_left (fun h => e1 h.symm)) e
    · exact Option.isSome_iff_ne_none.2 e
theorem getSM_of_mem : ∀ {l : List (ByteArray × ByteArray)} {s v : ByteArray}, (keysL l).Nodup → (s, v) ∈ l → getSM l s = some v
  | x :: l, s, v, hn, h => by
    simp only [keysL, List.map_cons, List.nodup_cons] at hn
    rcases List.mem_cons.1 h with rfl | h
    · rw [getSM, if_pos rfl]
    · have e : ¬ x.1 = s := fun e => hn.1 (by rw [e]; exact List.mem_map_of_mem (f := (·.1)) h)
      rw [getSM, if_neg e, getSM_of_mem hn.2 h]
theorem getSM_snoc {s v : ByteArray} : ∀ {l : List (ByteArray × ByteArray)} {t : ByteArray}, s ∉ keysL l → getSM (l ++ [(s, v)]) t = if s = t then some v else getSM l t
  | [], t, _ => by simp [getSM]
  | x :: l, t, h => by
    have h1 : ¬ x.1 = s := fun e => h (by simp [keysL, e])
    have h2 : s ∉ keysL l := fun e => h (by simp only [keysL, List.map_cons, List.mem_cons]; exact .inr e)
    rw [List.cons_append, getSM, getSM, getSM_snoc h2]
    by_cases e : x.1 = t
    · rw [if_pos e, if_pos e, if_neg (fun e2 => h1 (e.trans e2.symm))]
    · rw [if_neg e, if_neg e]
/-- The map's datum holds these pairs, each key once. -/
structure MapIs (D : DataW Unit) (kvs : List (ByteArray × ByteArray)) : Prop where
  tidy : Maps.Tidy D
  size : Maps.size D = kvs.length
  nodup : (keysL kvs).Nodup
  has : ∀ s : ByteArray, Maps.has D (.string s.data.toList) = (getSM kvs s).isSome
  get : ∀ (s : ByteArray) (z : DataW Unit), D.atKey (.string s.data.toList) z = ((getSM kvs s).map fun v => .lit (.string v.data.toList)).getD z
theorem mapIs_empty : MapIs (.map []) [] := ⟨Maps.tidy_empty, rfl, List.nodup_nil, fun s => by simp [Maps.has_eq, getSM], fun s z => by rw [Maps.atKey_of_not_has (by simp [Maps.has_eq])]; rfl⟩
theorem MapIs.put {D : DataW Unit} {kvs : List (ByteArray × ByteArray)} (h : MapIs D kvs) {s v : ByteArray} (hn : s ∉ keysL kvs) : MapIs (D.put (.string s.data.toList) (.lit (.string v.data.toList))) (kvs ++ [(s, v)]) where
  tidy := h.tidy.put (keyLit _) _
  size := by
    rw [Maps.size_put h.tidy, h.has, getSM_none hn, h.size]
    simp
  nodup := by
    simp only [keysL, List.map_append, List.map_cons, List.map_nil]
    exact List.nodup_append.2 ⟨h.nodup, by simp, fun a ha b hb e => hn (by simp at hb; rw [← hb, ← e]; exact ha)⟩
  has := fun t => by
    rw [getSM_snoc hn]
    by_cases e : s = t
    · subst e; rw [if_pos rfl, Maps.has_put_same h.tidy.isMap (keyLit _)]; rfl
    · rw [if_neg e, Maps.has_put_other (toList_ne (Ne.symm e)), h.has]
  get := fun t z => by
    rw [getSM_snoc hn]
    by_cases e : s = t
    · subst e; rw [if_pos rfl, Maps.atKey_put_same h.tidy.isMap (keyLit _)]; rfl
    · rw [if_neg e, Maps.atKey_put_other (toList_ne (Ne.symm e)), h.get]
/-- The map in block mb holds these pairs. -/
def OwnsSM (w : World) (mb : Nat) (kvs : List (ByteArray × ByteArray)) : Prop := ∃ D, w.ownsMap Tryz.prog 9 (plainElem (H := Unit) Tryz.prog 9) mb kvs.length D ∧ MapIs D kvs
theorem OwnsSM.keep {S : Nat → Prop} {w w' : World} {mb : Nat} {kvs : List (ByteArray × ByteArray)} (h : OwnsSM w mb kvs) (k : Keep S w w') (hn : ¬ S mb) : OwnsSM w' mb kvs := by
  obtain ⟨D, ho, hd⟩ := h
  have hlt := ho.lt
  obtain ⟨es, clock, hb, r⟩ := ho
  exact ⟨D, ⟨es, clock, (k.block mb hlt hn).trans hb, r⟩, hd⟩
theorem OwnsSM.lt {w : World} {mb : Nat} {kvs : List (ByteArray × ByteArray)} (h : OwnsSM w mb kvs) : mb < w.heap.size := by
  obtain ⟨D, ho, _⟩ := h
  exact ho.lt
theorem OwnsSM.new (w : World) : OwnsSM (w.alloc (.map #[] 0)) w.heap.size [] := ⟨_, World.ownsMap_made w _ _ _, mapIs_empty⟩
theorem OwnsSM.nodup {w : World} {mb : Nat} {kvs : List (ByteArray × ByteArray)} (h : OwnsSM w mb kvs) : (keysL kvs).Nodup := by
  obtain ⟨D, _, hd⟩ := h
  exact hd.nodup
theorem zeroStr (w : World) : (zeroValue 9).run Tryz.prog w = .ok (.string ⟨#[]⟩) w := by kernel_rfl
theorem str_of_list {s t : ByteArray} (h : s.data.toList = t.data.toList) : s = t := by
  have : (⟨s.data.toList.toArray⟩ : ByteArray) = ⟨t.data.toList.toArray⟩ := by rw [h]
  exact this
section
variable {ops : Array Oper} {rest : List Oper} {o : Oper} {a : Act} {Q : Exit → Act → World → Prop} (w : World) {mb : Nat} {kvs : List (ByteArray × ByteArray)}
theorem wpSM_store (hg : o.guard = none) (m x v : Operand) (hop : o.op = Op.mapUpdate 62 m x v) {s t : ByteArray} (hm : a.eval m = .map (some mb)) (hown : OwnsSM w mb kvs) (hx : a.eval x = .string s) (hv : a.eval v = .string t) (hs : s.size ≤ maxLen) (ht : t.size ≤ maxLen) (hn : s ∉ keysL kvs) (hl : kvs.length ≤ 1000)
    (hK : ∀ w', OwnsSM w' mb (kvs ++ [(s, t)]) → Keep (At mb) w w' → wpList Tryz.prog ops Q rest (a.put o.dst undef) w') : wpList Tryz.prog ops Q (o :: rest) a w := by
  obtain ⟨D, ho, hd⟩ := hown
  refine wpList_mapUpdate_own w hg m x v 62 hop 9 9 keyed Tryz.underlying62 _ mb kvs.length D hm ho (by unfold maxLen; omega) (.string s) (.string t) _ hx hv (Go.WideMaps.keyOf_string_mk (P := Tryz.prog) Tryz.underlying9 (s := s) hs) _ [] (plainElem_string Tryz.underlying9 ht) ?_
  intro w' h1 h2
  refine hK w' ⟨_, by simpa using h1, hd.put hn⟩ ((Keep.of_grown h2).mono (fun i _ e => ?_))
  exact (Option.some.inj e).symm
/-- What a look-up gives. -/
theorem looked {D : DataW Unit} (hd : MapIs D kvs) {s : ByteArray} {v : Value} {ps : List MemPlace} (h : plainElem (H := Unit) Tryz.prog 9 v = some (D.atKey (.string s.data.toList) (.lit (.string [])), ps)) : v = .string ((getSM kvs s).getD ⟨#[]⟩) := by
  obtain ⟨c, rfl, hc, _⟩ := plainElem_string_inv Tryz.underlying9 h
  rw [hd.get] at hc
  have e := congrArg Prod.fst hc
  cases hg : getSM kvs s with
  | none =>
    rw [hg] at e
    simp at e
    rw [show c = ⟨#[]⟩ from str_of_list (by simpa using e.symm)]
    rfl
  | some t =>
    rw [hg] at e
    simp at e
    rw [show c = t from str_of_list (by simpa using congrArg Array.toList e.symm)]
    rfl
theorem wpSM_look (hg : o.guard = none) (m x : Operand) (hop : o.op = Op.lookup 62 m x false) {s : ByteArray} (hm : a.eval m = .map (some mb)) (hown : OwnsSM w mb kvs) (hx : a.eval x = .string s) (hs : s.size ≤ maxLen)
    (hK : wpList Tryz.prog ops Q rest (a.put o.dst (.string ((getSM kvs s).getD ⟨#[]⟩))) w) : wpList Tryz.prog ops Q (o :: rest) a w := by
  obtain ⟨D, ho, hd⟩ := hown
  refine wpList_plain hg fun K' hK' => ?_
  obtain ⟨v, ps, hrun, hv⟩ := ho.lookup keyed Tryz.underlying62 (zeroStr w) (plainElem_string (s := ⟨#[]⟩) Tryz.underlying9 (Nat.zero_le _)) (Go.WideMaps.keyOf_string_mk (P := Tryz.prog) Tryz.underlying9 (s := s) hs)
  unfold Oper.wp
  simp [execOp, hop, hm, hx, hrun, Result.andThen]
  rw [looked hd hv]
  exact hK' _ _ hK
theorem wpSM_look2 (hg : o.guard = none) (m x : Operand) (hop : o.op = Op.lookup 62 m x true) {s : ByteArray} (hm : a.eval m = .map (some mb)) (hown : OwnsSM w mb kvs) (hx : a.eval x = .string s) (hs : s.size ≤ maxLen)
    (hK : wpList Tryz.prog ops Q rest (a.put o.dst (.tuple #[.string ((getSM kvs s).getD ⟨#[]⟩), .bool (getSM kvs s).isSome])) w) : wpList Tryz.prog ops Q (o :: rest) a w := by
  obtain ⟨D, ho, hd⟩ := hown
  refine wpList_lookup_own_ok w hg m x 62 hop 9 9 keyed Tryz.underlying62 _ (zeroStr w) _ _ (plainElem_string (s := ⟨#[]⟩) Tryz.underlying9 (Nat.zero_le _)) mb kvs.length D hm ho (.string s) _ hx (Go.WideMaps.keyOf_string_mk (P := Tryz.prog) Tryz.underlying9 (s := s) hs) ?_
  intro v ps hv
  rw [looked hd hv, hd.has]
  exact hK
theorem wpSM_len (hg : o.guard = none) (m : Operand) (hop : o.op = Op.call { callee := Callee.builtin Builtin.len, args := #[m], argTypes := #[62] }) (hm : a.eval m = .map (some mb)) (hown : OwnsSM w mb kvs)
    (hK : wpList Tryz.prog ops Q rest (a.put o.dst (.int .i64 kvs.length)) w) : wpList Tryz.prog ops Q (o :: rest) a w := by
  obtain ⟨D, ho, hd⟩ := hown
  refine wpList_len_own w hg m 62 hop 9 9 Tryz.underlying62 _ mb kvs.length D hm ho ?_
  rw [hd.size]
  exact hK
/-- A range over the map is under way; these keys have come. -/
def RangeSM (w : World) (mb r : Nat) (kvs : List (ByteArray × ByteArray)) (seen : List ByteArray) : Prop :=
  ∃ D left cnt, w.ranges Tryz.prog 9 (plainElem (H := Unit) Tryz.prog 9) mb r kvs.length D left cnt ∧ MapIs D kvs ∧ ∀ s : ByteArray, left (.string s.data.toList) = true ↔ s ∈ keysL kvs ∧ s ∉ seen
theorem RangeSM.owns {w : World} {mb r : Nat} {kvs : List (ByteArray × ByteArray)} {seen : List ByteArray} (h : RangeSM w mb r kvs seen) : OwnsSM w mb kvs := by
  obtain ⟨D, left, cnt, hr, hd, _⟩ := h
  exact ⟨D, hr.owns, hd⟩
theorem RangeSM.keep {S : Nat → Prop} {w w' : World} {mb r : Nat} {kvs : List (ByteArray × ByteArray)} {seen : List ByteArray} (h : RangeSM w mb r kvs seen) (k : Keep S w w') (h1 : ¬ S mb) (h2 : ¬ S r) : RangeSM w' mb r kvs seen ∧ w'.rangeLeft mb r = w.rangeLeft mb r := by
  obtain ⟨D, left, cnt, hr, hd, hl⟩ := h
  have hlt := hr.lt
  have hlb := hr.owns.lt
  have hr0 := hr
  obtain ⟨es, clock, since, seen', c0, hb, F, hs, hD, hi, q⟩ := hr
  have hr' : w'.ranges Tryz.prog 9 (plainElem (H := Unit) Tryz.prog 9) mb r kvs.length D left cnt := ⟨es, clock, since, seen', c0, (k.block mb hlb h1).trans hb, F, hs, hD, (k.block r hlt h2).trans hi, q⟩
  exact ⟨⟨D, left, cnt, hr', hd, hl⟩, by rw [hr'.left_eq, hr0.left_eq]⟩
theorem RangeSM.lt {w : World} {mb r : Nat} {kvs : List (ByteArray × ByteArray)} {seen : List ByteArray} (h : RangeSM w mb r kvs seen) : r < w.heap.size := by
  obtain ⟨D, left, cnt, hr, _⟩ := h
  exact hr.lt
theorem wpSM_range (hg : o.guard = none) (m : Operand) (hop : o.op = Op.range 62 m) (hm : a.eval m = .map (some mb)) (hown : OwnsSM w mb kvs)
    (hK : ∀ w', RangeSM w' mb w.heap.size kvs [] → Keep Non w w' → w'.rangeLeft mb w.heap.size = kvs.length → wpList Tryz.prog ops Q rest (a.put o.dst (.pointer (some ⟨w.heap.size, 0, none⟩))) w') : wpList Tryz.prog ops Q (o :: rest) a w := by
  obtain ⟨D, ho, hd⟩ := hown
  refine wpList_range_own w hg m 62 hop 9 9 keyed Tryz.underlying62 _ mb kvs.length D hm ho ?_
  intro w' h1 h2 h3
  refine hK w' ⟨D, _, _, h1, hd, fun s => ?_⟩ ((Keep.of_grown h2).mono (fun i _ e => by cases e)) (by rw [h1.left_eq, hd.size])
  rw [hd.has, getSM_isSome]
  simp
theorem wpSM_next (hg : o.guard = none) (it : Operand) (hop : o.op = Op.next it false) {r : Nat} {seen : List ByteArray} (hit : a.eval it = .pointer (some ⟨r, 0, none⟩)) (h : RangeSM w mb r kvs seen)
    (hDone : (∀ s ∈ keysL kvs, s ∈ seen) → wpList Tryz.prog ops Q rest (a.put o.dst (.tuple #[.bool false])) w)
    (hMore : ∀ (s v : ByteArray) (w' : World), (s, v) ∈ kvs → s ∉ seen → RangeSM w' mb r kvs (s :: seen) → w'.rangeLeft mb r < w.rangeLeft mb r → Keep (At r) w w' → (Instr.entry (.pointer (some ⟨r, 0, none⟩))).run Tryz.prog w' = .ok (.tuple #[.string s, .string v]) w' → wpList Tryz.prog ops Q rest (a.put o.dst (.tuple #[.bool true, .string s, .string v])) w') :
    wpList Tryz.prog ops Q (o :: rest) a w := by
  obtain ⟨D, left, cnt, hr, hd, hl⟩ := h
  refine wpList_next_ranges w hg it hop 9 keyed _ Value.string Value.string (fun key kl hkey => by
      obtain ⟨x, rfl, _⟩ := Go.Maps.keyOf_str Tryz.underlying9 hkey; exact ⟨_, rfl⟩) (fun v y hv => by obtain ⟨c, rfl, _⟩ := plainElem_string_inv Tryz.underlying9 hv; exact ⟨c, rfl⟩) mb r kvs.length D left cnt hit hr ?_ ?_
  · intro _ h0
    refine hDone (fun s hs => ?_)
    by_cases e : s ∈ seen
    · exact e
    · have := (hl s).2 ⟨hs, e⟩
      rw [h0] at this; cases this
  · intro s v kl y w' cnt' hkey hlk hv hat hr' hlt hgr hsz hen
    have hs : kl = .string s.data.toList := by
      obtain ⟨x, e1, e2, _⟩ := Go.Maps.keyOf_str Tryz.underlying9 hkey
      rw [e2]
      have e1 := Value.string.inj e1
      rw [e1]
    subst hs
    obtain ⟨hin, hns⟩ := (hl s).1 hlk
    have hsome := getSM_isSome.2 hin
    obtain ⟨t, ht⟩ := Option.isSome_iff_exists.1 hsome
    have hvt : v = t := by
      obtain ⟨c, e1, e2, _⟩ := plainElem_string_inv Tryz.underlying9 hv
      have e1 := Value.string.inj e1
      have := hat (.lit (.string []))
      rw [hd.get, ht, e2] at this
      simp at this
      rw [e1]
      exact str_of_list (by simpa using congrArg Array.toList this.symm)
    subst hvt
    refine hMore s v w' (getSM_mem ht) hns ⟨D, _, cnt', hr', hd, fun x => ?_⟩ (by rw [hr'.left_eq, hr.left_eq]; exact hlt) ((Keep.of_grown hgr).mono (fun i _ e => (Option.some.inj e).symm)) hen
    by_cases e : x = s
    · subst e
      simp [Lit.sameKey]
    · have hne := toList_ne e
      rw [Bool.and_eq_true, hl x, Maps.sameKey_ne hne]
      simp [e]
end
end Go.Proofs.YtcpegoofbenoiaaGreatDoor
/-
  CONTRACTS: the keys of a map of texts, sorted.
-/
namespace Go.Proofs.YtcpegoofbenoiaaGreatDoor
open Go.RowKit Go.Maps Go.Sort Go.Shelf
open Go.ChangeShapes Go.WideShapes Go.ChangeAt Go.Deep
open Plain (M64)

/-- slices.Sort's two contracts at this program. -/
theorem sorts63 (m : Nat) : AnyZ.SortsIn Tryz.prog Tryz.sorted63_ren Fence.wide m :=
  ⟨fun blk off cap ss W hH hblk hsz => callsIn_wide.2 (AnyM.slices_Sort_string Tryz.sort85 blk off cap ss W hH hblk hsz),
   fun p cap W => callsIn_wide.2 (AnyM.slices_Sort_string_none Tryz.sort85 p cap W)⟩
theorem mapsKeys (mb : Nat) (w : World) : Calls Tryz.prog 64 #[.map (some mb)] w fun e w' => e = .returned (.func (.func 86) #[] #[.pointer (some ⟨w.heap.size, 0, none⟩)]) ∧ w' = w.alloc (.cells #[.map (some mb)] 62) :=
  (callsIn_wide (n := 5)).1 (AnyZ.keys_in Tryz.keys64 Fence.wide 5 trivial rfl (some mb) w)
theorem sortedLaid (b nn : Nat) (D0 : DataW Unit) (R : Value → Option (DataW Unit × List MemPlace)) (w : World) (hown : w.ownsMap Tryz.prog 9 R b nn D0) (hmax : Maps.size D0 ≤ maxLen) (hbytes : Maps.size D0 * 16 ≤ 140737488355328) :
    Calls Tryz.prog 63 #[.func (.func 86) #[] #[.pointer (some ⟨w.heap.size, 0, none⟩)]] (w.alloc (.cells #[.map (some b)] 62)) fun e w' => ∃ (v : Value) (ss : List (List UInt8)), e = .returned v ∧ ss.Perm (strKeys D0) ∧
      w'.ownsRow (w.alloc (.cells #[.map (some b)] 62)).heap.size 9 1 v ss.length ((ss.mergeSort (fun x y => decide (x ≤ y))).map encStr) ∧ (v = .slice none 0 0 ↔ ss = []) ∧ Below (w.alloc (.cells #[.map (some b)] 62)).heap.size (w.alloc (.cells #[.map (some b)] 62)) w' := by
  have hbl := hown.lt
  have hseq : SeqGives Fence.wide 2 Tryz.prog 86 #[.pointer (some ⟨w.heap.size, 0, none⟩)] encStr (fun ss => ss.Perm (strKeys D0)) (Maps.size D0) (w.alloc (.cells #[.map (some b)] 62)) :=
    AnyZ.keys_gives (ρ := Tryz.keys64_ren) { Tryz.keys64 with } Fence.wide _ trivial rfl (by omega) w.heap.size b nn D0 _ (by simp) (by simp) (by
      obtain ⟨es, clock, hb, Ft, hs, hD⟩ := hown
      exact ⟨es, clock, (Below.heap_alloc _ _ b hbl).trans hb, Ft, hs, hD⟩)
  exact (callsIn_wide (n := 5)).1 (AnyZ.sorted_in Tryz.sorted63 Fence.wide 5 trivial trivial trivial trivial rfl (by omega) (sorts63 _) (enters_of Tryz.func85 (by kernel_rfl) rfl) 86 #[.pointer (some ⟨w.heap.size, 0, none⟩)] trivial (enters_of Tryz.func86 (by kernel_rfl) rfl) _ _ hmax hbytes _ hseq)
def SortedPost (kvs : List (ByteArray × ByteArray)) (W : World) (e : Ending) (w' : World) : Prop :=
  ∃ (v : Value) (ks : List ByteArray), e = .returned v ∧ Reads w' 1 v ks.length (Ts ks) ∧ ks.Perm (keysL kvs) ∧ Keep Non W w' ∧ ∀ b, v.ownBlock = some b → W.heap.size ≤ b ∧ b < w'.heap.size
theorem sortedKeys (mb : Nat) (kvs : List (ByteArray × ByteArray)) (w : World) (h : OwnsSM w mb kvs) (hl : kvs.length ≤ 1000) :
    Calls Tryz.prog 63 #[.func (.func 86) #[] #[.pointer (some ⟨w.heap.size, 0, none⟩)]] (w.alloc (.cells #[.map (some mb)] 62)) (SortedPost kvs (w.alloc (.cells #[.map (some mb)] 62))) := by
  obtain ⟨D, ho, hd⟩ := h
  refine (sortedLaid mb kvs.length D _ w ho (by rw [hd.size]; unfold maxLen; omega) (by rw [hd.size]; omega)).mono ?_
  rintro e w' ⟨v, ss, rfl, hp, hrow, _, hb⟩
  obtain ⟨es, hD, hpw, _⟩ := ho.entries keyed
  obtain ⟨es', hD', hko⟩ := ho.keysOf
  obtain rfl : es = es' := by rw [hD] at hD'; simpa using hD'
  have h1 : ((keysL kvs).map fun s : ByteArray => s.data.toList).Perm (strKeys D) := by
    rw [hD]
    refine perm_strKeys hpw (fun p hp => by obtain ⟨v, hv⟩ := hko p hp; obtain ⟨x, _, hx, _⟩ := Maps.keyOf_str Tryz.underlying9 hv; exact ⟨x, hx⟩) ?_ ?_
    · exact List.pairwise_map.2 (hd.nodup.imp (fun hne e => hne (str_of_list e)))
    · intro x
      rw [← hD]
      have e := hd.has ⟨x.toArray⟩
      simp only at e
      rw [e, getSM_isSome, List.mem_map]
      constructor
      · rintro ⟨s, hs, rfl⟩; exact hs
      · intro hs; exact ⟨_, hs, rfl⟩
  have h2 := (List.mergeSort_perm ss leB).trans (hp.trans h1.symm)
  refine ⟨v, (ss.mergeSort leB).map (fun x => (⟨x.toArray⟩ : ByteArray)), rfl, ?_, ?_, (Keep.of_below hb).mono (fun i hi e => absurd e (by omega)), ?_⟩
  · have e : ((ss.mergeSort leB).map (fun x => (⟨x.toArray⟩ : ByteArray))).length = ss.length := by simp
    rw [e]
    have e2 : Ts ((ss.mergeSort leB).map (fun x => (⟨x.toArray⟩ : ByteArray))) = (ss.mergeSort leB).map encStr := by simp [Ts]
    rw [e2]
    refine ⟨hrow.1, ?_⟩
    rcases hrow.2 with ⟨rfl, h0⟩ | ⟨g, cap, cur, rfl, r⟩
    · exact .inl ⟨rfl, h0⟩
    · exact .inr ⟨_, cap, rfl, fun j u hj => World.ownsRow.cells hrow (g := g) rfl j u hj⟩
  · have := h2.map (fun x => (⟨x.toArray⟩ : ByteArray))
    rw [List.map_map] at this
    rw [show ((fun x : List UInt8 => (⟨x.toArray⟩ : ByteArray)) ∘ fun s : ByteArray => s.data.toList) = id from rfl, List.map_id] at this
    exact this
  · intro b hbv
    rcases hrow.2 with ⟨rfl, _⟩ | ⟨g, cap, cur, rfl, hg, hh, _⟩
    · cases hbv
    · simp only [Value.ownBlock, Option.some.injEq] at hbv
      subst hbv
      exact ⟨hg, (Array.getElem?_eq_some_iff.1 hh).1⟩
end Go.Proofs.YtcpegoofbenoiaaGreatDoor
