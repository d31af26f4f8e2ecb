/-
  THE PLAIN LAW of a description's bytes: what stands where.
-/
import Derived.Test.YtbmidlaakbpnlaaDoorRm6
import Derived.Test.YtbmidlaakbpnlaaDoorMe11
namespace Go.Proofs.YtbmidlaakbpnlaaDoor
open Go.RowKit
open Go.ChangeShapes Go.WideShapes Go.ChangeAt Go.Deep
open Plain (M64)

theorem pre_at {α : Type} {l l' : List α} (h : l <+: l') {i : Nat} {x : α} (e : l[i]? = some x) : l'[i]? = some x := by
  obtain ⟨t, rfl⟩ := h
  rw [List.getElem?_append_left (List.getElem?_eq_some_iff.1 e).1]
  exact e
theorem added_pre (l : List ByteArray) (s : ByteArray) : l <+: added l s := by
  unfold added
  split
  · exact List.prefix_refl _
  · exact List.prefix_append _ _
theorem added_get (l : List ByteArray) (s : ByteArray) : (added l s)[place l s]? = some s := by
  rw [List.getElem?_eq_getElem (added_place l s), added_at]
theorem added_mem {l : List ByteArray} {s t : ByteArray} (h : t ∈ added l s) : t ∈ l ∨ t = s := by
  unfold added at h
  split at h
  · exact .inl h
  · simpa using h
theorem ms_mono (p : Pkg) : ∀ (m k : Nat), k + m ≤ p.ds.length → (p.ms k).all <+: (p.ms (k + m)).all ∧ (p.ms k).es <+: (p.ms (k + m)).es
  | 0, k, _ => ⟨List.prefix_refl _, List.prefix_refl _⟩
  | m + 1, k, h => by
    obtain ⟨h1, h2⟩ := ms_mono p m k (by omega)
    have e := p.ms_snoc (k := k + m) (by omega)
    rw [show k + (m + 1) = k + m + 1 by omega, e]
    exact ⟨h1.trans ((added_pre _ _).trans (added_pre _ _)), h2.trans (List.prefix_append _ _)⟩
theorem ms_le (p : Pkg) {k m : Nat} (h : k ≤ m) (hm : m ≤ p.ds.length) : (p.ms k).all <+: (p.ms m).all ∧ (p.ms k).es <+: (p.ms m).es := by
  have := ms_mono p (m - k) k (by omega)
  rwa [show k + (m - k) = m by omega] at this
/-- The function number k. -/
theorem ms_fn (p : Pkg) (hg : p.good) (hw : p.wide) {k m : Nat} (h : k < m) (hm : m ≤ p.ds.length) :
    (p.ms m).es[k]? = some (encF (p.ms k).all (p.ds[k]'(by omega)).1) ∧
    (p.ms m).all[place (p.ms k).all (p.ds[k]'(by omega)).1.name]? = some (p.ds[k]'(by omega)).1.name ∧
    (p.ms m).all[place (added (p.ms k).all (p.ds[k]'(by omega)).1.name) (p.ds[k]'(by omega)).1.file]? = some (p.ds[k]'(by omega)).1.file := by
  obtain ⟨h1, h2⟩ := ms_le p (k := k + 1) (m := m) (by omega) hm
  have e := p.ms_snoc (k := k) (by omega)
  have hl := (p.ms_len hg hw k (by omega)).2.1
  rw [e] at h1 h2
  refine ⟨pre_at h2 ?_, pre_at h1 ?_, pre_at h1 ?_⟩
  · simp only [Ms.step]
    rw [List.getElem?_append_right (by omega), hl]
    simp
  · exact pre_at (added_pre _ _) (added_get _ _)
  · exact added_get _ _
theorem ms_heads (p : Pkg) {m : Nat} (hm : m ≤ p.ds.length) : (p.ms m).all[p.P]? = some p.path ∧ (p.ms m).all[p.N]? = some p.name ∧ (p.ms m).all[p.M]? = some p.mod := by
  obtain ⟨h1, _⟩ := ms_le p (k := 0) (m := m) (by omega) hm
  have e : (p.ms 0).all = tabN p.path p.name p.mod := rfl
  rw [e] at h1
  have a3 : tabC p.path p.name <+: tabN p.path p.name p.mod := added_pre _ _
  have a2 : tabB p.path <+: tabC p.path p.name := added_pre _ _
  exact ⟨pre_at ((a2.trans a3).trans h1) (added_get _ _), pre_at (a3.trans h1) (added_get _ _), pre_at h1 (added_get _ _)⟩
theorem emp_size : emp.size = 0 := rfl
theorem ms_texts (p : Pkg) (hg : p.good) : ∀ m, m ≤ p.ds.length → ∀ t ∈ (p.ms m).all, t.size ≤ 1000
  | 0, _, t, ht => by
    have e : (p.ms 0).all = tabN p.path p.name p.mod := rfl
    rw [e] at ht
    obtain ⟨g1, g2, g3, _⟩ := hg
    have := g1.1
    have := g2.1
    have := g3.1
    rcases added_mem ht with ht | rfl
    · rcases added_mem ht with ht | rfl
      · rcases added_mem ht with ht | rfl
        · rcases added_mem ht with ht | rfl
          · cases ht
          · rw [emp_size]; omega
        · omega
      · omega
    · omega
  | m + 1, hm, t, ht => by
    rw [p.ms_snoc (k := m) (by omega)] at ht
    have h5 := hg.2.2.2.2 _ (List.getElem_mem (l := p.ds) (n := m) (by omega))
    rcases added_mem ht with ht | rfl
    · rcases added_mem ht with ht | rfl
      · exact ms_texts p hg m (by omega) t ht
      · omega
    · omega
theorem offs_drop : ∀ (l : List (List UInt8)) (o k : Nat), k < l.length → (offs o l).drop (4 * k) = leB 4 (o + (l.take k).flatten.length) ++ offs (o + (l.take (k + 1)).flatten.length) (l.drop (k + 1))
  | [], _, _, h => by simp at h
  | e :: l, o, 0, _ => by simp [offs]
  | e :: l, o, k + 1, h => by
    have ih := offs_drop l (o + e.length) k (by simpa using h)
    rw [offs, show 4 * (k + 1) = (leB 4 o).length + 4 * k by rw [leB_length]; omega, ← List.drop_drop, List.drop_left, ih]
    simp [Nat.add_assoc]
theorem flatten_drop (l : List (List UInt8)) {k : Nat} (h : k < l.length) : l.flatten.drop (l.take k).flatten.length = l[k] ++ (l.drop (k + 1)).flatten := by
  have e : l = l.take k ++ l[k] :: l.drop (k + 1) := by simp
  have e2 : l.flatten = (l.take k).flatten ++ (l[k] ++ (l.drop (k + 1)).flatten) := by
    conv => lhs; rw [e]
    rw [List.flatten_append, List.flatten_cons]
  rw [e2]
  exact List.drop_left
theorem take_eq {α : Type} {a b : List α} {n : Nat} (h : a.length = n) : (a ++ b).take n = a := by subst h; exact List.take_left
theorem drop_eq {α : Type} {a b : List α} {n : Nat} (h : a.length = n) : (a ++ b).drop n = b := by subst h; exact List.drop_left
theorem mb_table (s : Ms) (len p q m : Nat) : (mbytes s len p q m).drop (44 + 4 * s.es.length) = tbytes s.all ++ s.es.flatten := by
  rw [mbytes, ← List.drop_drop, drop_eq (mhead_length len p q m (digest s.hash) s.all.length s.es.length (digest_length _)), mtail, List.append_assoc, drop_eq (offs_length s.es (mbase s))]
theorem mb_off (s : Ms) (len p q m : Nat) {k : Nat} (h : k < s.es.length) : ((mbytes s len p q m).drop (44 + 4 * k)).take 4 = leB 4 (mbase s + (s.es.take k).flatten.length) := by
  rw [mbytes, ← List.drop_drop, drop_eq (mhead_length len p q m (digest s.hash) s.all.length s.es.length (digest_length _)), mtail, List.append_assoc, List.drop_append_of_le_length (by rw [offs_length]; omega), offs_drop _ _ _ h, List.append_assoc, take_eq (leB_length 4 _)]
theorem mb_fn (s : Ms) (len p q m : Nat) {k : Nat} (h : k < s.es.length) : (mbytes s len p q m).drop (mbase s + (s.es.take k).flatten.length) = s.es[k] ++ (s.es.drop (k + 1)).flatten := by
  have e1 : mbytes s len p q m = (mhead len p q m (digest s.hash) s.all.length s.es.length ++ (offs (mbase s) s.es ++ tbytes s.all)) ++ s.es.flatten := by rw [mbytes, mtail]; simp only [List.append_assoc]
  have e2 : (mhead len p q m (digest s.hash) s.all.length s.es.length ++ (offs (mbase s) s.es ++ tbytes s.all)).length = mbase s := by
    rw [List.length_append, List.length_append, mhead_length _ _ _ _ _ _ _ (digest_length _), offs_length, mbase]; omega
  rw [e1, ← List.drop_drop, drop_eq e2, flatten_drop _ h]
theorem meta_dbs (p : Pkg) (hg : p.good) (hw : p.wide) : DBs (mbytes (p.ms p.ds.length) (mtotal (p.ms p.ds.length)) p.P p.N p.M) (p.ms p.ds.length).all (mtotal (p.ms p.ds.length)) p.P p.N p.M p.ds.length := by
  obtain ⟨l1, l2, l3⟩ := p.ms_len hg hw _ (Nat.le_refl _)
  obtain ⟨h1, h2, h3⟩ := ms_heads p (Nat.le_refl _)
  have ht := ms_texts p hg _ (Nat.le_refl _)
  have g4 := hg.2.2.2.1
  have hm : mtotal (p.ms p.ds.length) ≤ 1000000 := by
    have a := tones_len _ ht
    have b := uleb_len64 (v := (p.ms p.ds.length).all.length) (by unfold M64; omega)
    have c := flatten_len _ l3
    rw [mtotal, mbase, tbytes, List.length_append]
    rw [l2] at c
    rw [l2]
    have : 60000 * p.ds.length ≤ 60000 * 8 := Nat.mul_le_mul_left _ g4
    omega
  refine ⟨⟨digest (p.ms p.ds.length).hash, (p.ms p.ds.length).all.length, mtail (p.ms p.ds.length), ?_, digest_length (p.ms p.ds.length).hash, ?_⟩, ⟨(p.ms p.ds.length).es.flatten, ?_⟩, ?_, ?_, by omega, ht, by omega, (List.getElem?_eq_some_iff.1 h1).1, (List.getElem?_eq_some_iff.1 h2).1, (List.getElem?_eq_some_iff.1 h3).1⟩
  · rw [mbytes, l2]
  · omega
  · have := mb_table (p.ms p.ds.length) (mtotal (p.ms p.ds.length)) p.P p.N p.M
    rwa [l2] at this
  · rw [mbytes_length]; exact hm
  · rw [mbytes_length, mtotal, mbase, l2]; omega
/-- All that ReadFunc wants of the function number k. -/
theorem meta_fn (p : Pkg) (hg : p.good) (hw : p.wide) {k : Nat} (h : k < p.ds.length) : ∃ o ni fi r, ((mbytes (p.ms p.ds.length) (mtotal (p.ms p.ds.length)) p.P p.N p.M).drop (44 + 4 * k)).take 4 = leB 4 o ∧
    (mbytes (p.ms p.ds.length) (mtotal (p.ms p.ds.length)) p.P p.N p.M).drop o = uleb p.ds[k].1.units.length ++ (uleb ni ++ (uleb fi ++ (p.ds[k].1.units.flatMap Ut.ulebs ++ (uleb (litN p.ds[k].1.lit) ++ r)))) ∧
    44 + 4 * k ≤ o ∧ o ≤ mtotal (p.ms p.ds.length) ∧ (p.ms p.ds.length).all[ni]? = some p.ds[k].1.name ∧ (p.ms p.ds.length).all[fi]? = some p.ds[k].1.file := by
  obtain ⟨e1, e2, e3⟩ := ms_fn p hg hw h (Nat.le_refl _)
  obtain ⟨_, l2, _⟩ := p.ms_len hg hw _ (Nat.le_refl _)
  have hk : k < (p.ms p.ds.length).es.length := by omega
  refine ⟨mbase (p.ms p.ds.length) + ((p.ms p.ds.length).es.take k).flatten.length, _, _, ((p.ms p.ds.length).es.drop (k + 1)).flatten, mb_off _ _ _ _ _ hk, ?_, ?_, ?_, e2, e3⟩
  · rw [mb_fn _ _ _ _ _ hk]
    have : (p.ms p.ds.length).es[k] = encF (p.ms k).all p.ds[k].1 := by rw [List.getElem?_eq_getElem hk] at e1; exact Option.some.inj e1
    rw [this, encF]
    simp only [List.append_assoc]
  · rw [mbase]; omega
  · have := flatten_take_le (p.ms p.ds.length).es k
    rw [mtotal]; omega
end Go.Proofs.YtbmidlaakbpnlaaDoor
