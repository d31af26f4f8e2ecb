/-
  THE PLAIN LAW of a segment's table of texts.
-/
import Derived.Test.YtcpegoofbenoiaaGreatDoorZCw
import Derived.Test.YtcpegoofbenoiaaGreatDoorZCh
namespace Go.Proofs.YtcpegoofbenoiaaGreatDoor
open Go.RowKit
open Go.ChangeShapes Go.WideShapes Go.ChangeAt Go.Deep
open Plain (M64)

theorem place_lt : ∀ {l : List ByteArray} {s : ByteArray}, place l s < l.length ↔ s ∈ l
  | [], s => by simp [place]
  | a :: l, s => by
    by_cases e : a = s
    · subst e; simp [place]
    · have := place_lt (l := l) (s := s)
      simp only [place, if_neg e, List.length_cons, List.mem_cons]
      constructor
      · intro h; exact .inr (this.1 (by omega))
      · rintro (h | h)
        · exact absurd h.symm e
        · have := this.2 h; omega
theorem mem_added {l : List ByteArray} {s t : ByteArray} : t ∈ added l s ↔ t ∈ l ∨ t = s := by
  unfold added
  split
  · rename_i h
    exact ⟨.inl, fun e => e.elim id (fun e => by rw [e]; exact place_lt.1 h)⟩
  · simp
theorem nodup_added {l : List ByteArray} (h : l.Nodup) (s : ByteArray) : (added l s).Nodup := by
  unfold added
  split
  · exact h
  · rename_i hn
    refine List.nodup_append.2 ⟨h, by simp, fun a ha b hb e => hn (place_lt.2 ?_)⟩
    simp at hb
    rw [← hb, ← e]; exact ha
theorem added_short {l : List ByteArray} {s : ByteArray} (h : ∀ t ∈ l, t.size ≤ 60) (hs : s.size ≤ 60) : ∀ t ∈ added l s, t.size ≤ 60 := fun t ht => (mem_added.1 ht).elim (h t) (fun e => by rw [e]; exact hs)
/-- The table of a segment and the order of its keys. -/
structure SegT (s : Sg) (all ks : List ByteArray) : Prop where
  perm : ks.Perm (keysL (pairs s))
  nodup : all.Nodup
  mem : ∀ t, t ∈ all ↔ t = ⟨#[]⟩ ∨ ∃ x ∈ pairs s, t = x.1 ∨ t = x.2
  len : all.length ≤ 30
  short : ∀ t ∈ all, t.size ≤ 60
theorem SegT.has {s : Sg} {all ks : List ByteArray} (h : SegT s all ks) : ∀ x ∈ pairs s, place all x.1 < all.length ∧ place all x.2 < all.length :=
  fun x hx => ⟨place_lt.2 ((h.mem _).2 (.inr ⟨x, hx, .inl rfl⟩)), place_lt.2 ((h.mem _).2 (.inr ⟨x, hx, .inr rfl⟩))⟩
theorem argvs_val : ∀ (l : List ByteArray) (i : Nat), ∀ x ∈ argvs i l, x.2 ∈ l
  | [], _, x, h => by simp [argvs] at h
  | a :: l, i, x, h => by
    simp only [argvs, List.mem_cons] at h
    rcases h with rfl | h
    · simp
    · exact List.mem_cons_of_mem _ (argvs_val l _ x h)
/-- Keys and texts are short. -/
theorem pairs_short {s : Sg} (h : s.ok) : ∀ x ∈ pairs s, x.1.size ≤ 60 ∧ x.2.size ≤ 60 := by
  intro x hx
  rw [pairs_eq, List.mem_append] at hx
  rcases hx with hx | hx
  · unfold heads at hx
    have a1 : kOs.size ≤ 60 := by decide
    have a2 : kArch.size ≤ 60 := by decide
    split at hx <;> split at hx <;> simp at hx
    · rw [hx]; exact ⟨a2, h.arch⟩
    · rw [hx]; exact ⟨a1, h.os⟩
    · rcases hx with rfl | rfl
      · exact ⟨a1, h.os⟩
      · exact ⟨a2, h.arch⟩
  · split at hx
    · simp at hx
    · rcases List.mem_cons.1 hx with rfl | hx
      · exact ⟨(by decide : kArgc.size ≤ 60), (by decide : 1 ≤ 60)⟩
      · obtain ⟨j, _, _, e⟩ := argvs_keys s.args 0 x.1 (List.mem_map_of_mem (f := (·.1)) hx)
        exact ⟨by rw [e, argv_size]; decide, h.arg _ (argvs_val _ _ x hx)⟩
/-- No key is there twice. -/
theorem argvs_nodup : ∀ (l : List ByteArray) (i : Nat), i + l.length ≤ 10 → (keysL (argvs i l)).Nodup
  | [], _, _ => List.nodup_nil
  | a :: l, i, h => by
    simp only [List.length_cons] at h
    simp only [keysL, argvs, List.map_cons, List.nodup_cons]
    refine ⟨fun e => ?_, argvs_nodup l (i + 1) (by omega)⟩
    obtain ⟨j, h1, h2, e⟩ := argvs_keys l (i + 1) _ e
    have := argv_inj (by omega) (by omega) e
    omega
theorem heads_nodup (os arch : ByteArray) : (keysL (heads os arch)).Nodup := by
  unfold heads keysL
  have : kOs ≠ kArch := fun e => absurd (congrArg ByteArray.size e) (by decide)
  split <;> split <;> simp [this]
theorem pairs_nodup {s : Sg} (h : s.args.length ≤ 6) : (keysL (pairs s)).Nodup := by
  rw [pairs_eq, keysL, List.map_append]
  refine List.nodup_append.2 ⟨heads_nodup _ _, ?_, fun a ha b hb e => ?_⟩
  · split
    · simp
    · simp only [List.map_cons, List.nodup_cons]
      refine ⟨fun e => ?_, argvs_nodup _ _ (by omega)⟩
      obtain ⟨j, _, _, e⟩ := argvs_keys s.args 0 _ e
      have := congrArg ByteArray.size e
      rw [argv_size] at this
      exact absurd this (by decide)
  · subst e
    split at hb
    · simp at hb
    · simp only [List.map_cons, List.mem_cons] at hb
      rcases hb with rfl | hb
      · exact argc_new _ _ ha
      · obtain ⟨j, _, _, e⟩ := argvs_keys s.args 0 _ hb
        rw [e] at ha
        exact heads_argv _ _ _ ha
end Go.Proofs.YtcpegoofbenoiaaGreatDoor
/-
  WHAT A WRITER OF COUNTERS HOLDS between two segments; the range over what a run says of itself.
-/
namespace Go.Proofs.YtcpegoofbenoiaaGreatDoor
open Go.RowKit
open Go.ChangeShapes Go.WideShapes Go.ChangeAt Go.Deep
open Plain (M64)

theorem tones_short : ∀ (l : List ByteArray), (∀ t ∈ l, t.size ≤ 60) → (l.flatMap tone).length ≤ 61 * l.length
  | [], _ => by simp
  | t :: l, h => by
    have h1 := h t List.mem_cons_self
    have h2 := tones_short l (fun x hx => h x (List.mem_cons_of_mem _ hx))
    have e : t.data.toList.length = t.size := Array.length_toList
    have e2 := uleb_one (v := t.size) (by omega)
    rw [List.flatMap_cons, List.length_append, List.length_cons, tone, List.length_append, e, e2]
    omega
theorem SegT.tlen {s : Sg} {all ks : List ByteArray} (h : SegT s all ks) : (tbytes all).length ≤ 1840 := by
  have h1 := tones_short all h.short
  have h2 := h.len
  have e2 := uleb_one (v := all.length) (by omega)
  rw [tbytes, List.length_append, e2]
  omega
/-- A writer of counters between two segments, with bytes pending. -/
structure CW (w : World) (gc : Nat) (gs : Value) (gb fe st al : Nat) (tm : Value) (fl segs go bb : Nat) (pend : List UInt8) (po : Value) (out : List UInt8) : Prop where
  blk : Blk w gc (ccells gs gb fe st al tm fl segs) 98
  bw : BW w gb go bb pend po out
  tmp : ∃ n xs, Row w 5 1 tm n (B xs)
  shape : ∃ b n c, tm = .slice (some ⟨b, 0, none⟩) n c
  sep : ∀ b, tm.ownBlock = some b → b ≠ bb ∧ po.ownBlock ≠ some b
def CWF (gc gb go bb : Nat) (tm po : Value) : Nat → Prop := fun i => i = gc ∨ tm.ownBlock = some i ∨ BWF gb go bb po i
/-- A writer and its scratch. -/
def CTF (gc n : Nat) (tm : Value) : Nat → Prop := fun i => i = gc ∨ tm.ownBlock = some i ∨ n ≤ i
section
variable {w w' : World} {gc : Nat} {gs : Value} {gb fe st al : Nat} {tm : Value} {fl segs go bb : Nat} {pend : List UInt8} {po : Value} {out : List UInt8}
theorem CW.gcb (h : CW w gc gs gb fe st al tm fl segs go bb pend po out) : ∀ i, BWF gb go bb po i → i ≠ gc := by
  obtain ⟨zs, hzb, _⟩ := h.bw.buf
  rintro i (rfl | rfl | rfl | e) rfl
  · exact h.blk.ne h.bw.blk (by decide) rfl
  · exact h.blk.ne h.bw.wr.blk (by decide) rfl
  · exact h.blk.ne hzb (by decide) rfl
  · exact h.bw.wr.row.neBlk h.blk (by decide) e
theorem CW.tmb (h : CW w gc gs gb fe st al tm fl segs go bb pend po out) : ∀ i, BWF gb go bb po i → tm.ownBlock ≠ some i := by
  obtain ⟨n, xs, r⟩ := h.tmp
  rintro i (rfl | rfl | rfl | e) hb
  · exact r.neBlk h.bw.blk (by decide) hb
  · exact r.neBlk h.bw.wr.blk (by decide) hb
  · exact (h.sep i hb).1 rfl
  · exact (h.sep i hb).2 e
theorem CW.tmg (h : CW w gc gs gb fe st al tm fl segs go bb pend po out) : tm.ownBlock ≠ some gc := by
  obtain ⟨n, xs, r⟩ := h.tmp
  exact fun e => r.neBlk h.blk (by decide) e
/-- The buffered writer is not touched. -/
theorem CW.apart (h : CW w gc gs gb fe st al tm fl segs go bb pend po out) : ∀ i, BWF gb go bb po i → ¬ CTF gc w.heap.size tm i := fun i hi e => by
  rcases e with e | e | e
  · exact h.gcb i hi e
  · exact h.tmb i hi e
  · have := h.bw.lt i hi; omega
theorem CW.far (h : CW w gc gs gb fe st al tm fl segs go bb pend po out) (k : Keep Non w w') : CW w' gc gs gb fe st al tm fl segs go bb pend po out := by
  obtain ⟨n, xs, r⟩ := h.tmp
  exact ⟨h.blk.keep k (fun h => h), h.bw.far k, ⟨n, xs, r.keep k (fun _ _ h => h)⟩, h.shape, h.sep⟩
end
section
variable {w : World} {ma r : Nat} {kvs : List (ByteArray × ByteArray)} {seen : List ByteArray}
theorem RangeSM.iter (h : RangeSM w ma r kvs seen) : ∃ m s l c, w.heap[r]? = some (.mapIter m s l c) := by
  obtain ⟨D, left, cnt, hr, _⟩ := h
  obtain ⟨es, clock, since, seen', c0, _, _, _, _, hi, _⟩ := hr
  exact ⟨_, _, _, _, hi⟩
theorem RangeSM.neBlk (h : RangeSM w ma r kvs seen) {cs : List Value} {T : TypeId} (hb : Blk w r cs T) : False := by
  obtain ⟨m, s, l, c, e⟩ := h.iter
  rw [Blk, e] at hb
  cases hb
theorem RangeSM.neTab (h : RangeSM w ma r kvs seen) {all : List ByteArray} (hb : OwnsTab w r all) : False := by
  obtain ⟨m, s, l, c, e⟩ := h.iter
  obtain ⟨D, ⟨es, clock, he, _⟩, _⟩ := hb
  rw [e] at he
  cases he
theorem RangeSM.neRow (h : RangeSM w ma r kvs seen) {e : TypeId} {size : Nat} {v : Value} {n : Nat} {xs : List Value} (hr : Row w e size v n xs) : v.ownBlock ≠ some r := by
  intro hv
  obtain ⟨m, s, l, c, he⟩ := h.iter
  rcases hr.2 with ⟨rfl, _⟩ | ⟨a, _, _, rfl, _, ha, _⟩
  · simp [Value.ownBlock] at hv
  · simp [Value.ownBlock] at hv
    subst hv
    rw [ha] at he
    cases he
theorem OwnsSM.neBlk (h : OwnsSM w ma kvs) {cs : List Value} {T : TypeId} (hb : Blk w ma cs T) : False := by
  obtain ⟨D, ⟨es, clock, he, _⟩, _⟩ := h
  rw [Blk, he] at hb
  cases hb
theorem OwnsSM.neRow (h : OwnsSM w ma kvs) {e : TypeId} {size : Nat} {v : Value} {n : Nat} {xs : List Value} (hr : Row w e size v n xs) : v.ownBlock ≠ some ma := by
  intro hv
  obtain ⟨D, ⟨es, clock, he, _⟩, _⟩ := h
  rcases hr.2 with ⟨rfl, _⟩ | ⟨a, _, _, rfl, _, ha, _⟩
  · simp [Value.ownBlock] at hv
  · simp [Value.ownBlock] at hv
    subst hv
    rw [ha] at he
    cases he
end
/-- What the table holds while the range is under way. -/
structure SeenT (kvs : List (ByteArray × ByteArray)) (all seen : List ByteArray) : Prop where
  nodup : all.Nodup
  mem : ∀ t ∈ all, t = ⟨#[]⟩ ∨ ∃ x ∈ kvs, t = x.1 ∨ t = x.2
  emp : (⟨#[]⟩ : ByteArray) ∈ all
  done : ∀ x ∈ kvs, x.1 ∈ seen → x.1 ∈ all ∧ x.2 ∈ all
  short : ∀ t ∈ all, t.size ≤ 60
theorem seenT_start (kvs : List (ByteArray × ByteArray)) : SeenT kvs (added [] ⟨#[]⟩) [] :=
  ⟨nodup_added List.nodup_nil _, fun t ht => .inl ((mem_added.1 ht).elim (fun h => by simp at h) id), mem_added.2 (.inr rfl), fun _ _ h => by simp at h, added_short (by simp) (by decide)⟩
theorem SeenT.step {kvs : List (ByteArray × ByteArray)} {all seen : List ByteArray} (h : SeenT kvs all seen) (hn : (keysL kvs).Nodup) (hs : ∀ x ∈ kvs, x.1.size ≤ 60 ∧ x.2.size ≤ 60) {k v : ByteArray} (hx : (k, v) ∈ kvs) : SeenT kvs (added (added all k) v) (k :: seen) where
  nodup := nodup_added (nodup_added h.nodup _) _
  mem := fun t ht => by
    rcases mem_added.1 ht with ht | rfl
    · rcases mem_added.1 ht with ht | rfl
      · exact h.mem t ht
      · exact .inr ⟨_, hx, .inl rfl⟩
    · exact .inr ⟨_, hx, .inr rfl⟩
  emp := mem_added.2 (.inl (mem_added.2 (.inl h.emp)))
  done := fun x hx' hin => by
    rcases List.mem_cons.1 hin with e | hin
    · have e2 : x.2 = v := by
        have a1 := getSM_of_mem (s := x.1) (v := x.2) hn hx'
        have a2 := getSM_of_mem hn hx
        rw [e, a2] at a1
        exact (Option.some.inj a1).symm
      rw [e, e2]
      exact ⟨mem_added.2 (.inl (mem_added.2 (.inr rfl))), mem_added.2 (.inr rfl)⟩
    · obtain ⟨a1, a2⟩ := h.done x hx' hin
      exact ⟨mem_added.2 (.inl (mem_added.2 (.inl a1))), mem_added.2 (.inl (mem_added.2 (.inl a2)))⟩
  short := added_short (added_short h.short (hs _ hx).1) (hs _ hx).2
theorem SeenT.done_all {s : Sg} {all seen ks : List ByteArray} (h : SeenT (pairs s) all seen) (hd : ∀ k ∈ keysL (pairs s), k ∈ seen) (hl : all.length ≤ 30) (hp : ks.Perm (keysL (pairs s))) : SegT s all ks :=
  ⟨hp, h.nodup, fun t => ⟨h.mem t, fun e => by
    rcases e with rfl | ⟨x, hx, e⟩
    · exact h.emp
    · obtain ⟨a1, a2⟩ := h.done x hx (hd _ (List.mem_map_of_mem (f := (·.1)) hx))
      rcases e with rfl | rfl
      · exact a1
      · exact a2⟩, hl, h.short⟩
end Go.Proofs.YtcpegoofbenoiaaGreatDoor
