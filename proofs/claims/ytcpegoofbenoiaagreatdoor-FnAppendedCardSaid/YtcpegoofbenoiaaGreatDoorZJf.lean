/-
  CONTRACT: what was written is read back. PLAIN: the length of a file does not hang on the order of the keys.
-/
import Derived.Test.YtcpegoofbenoiaaGreatDoorZRo3
import Derived.Test.YtcpegoofbenoiaaGreatDoorZDg
import Derived.Test.YtcpegoofbenoiaaGreatDoorZJd
import Derived.Test.YtcpegoofbenoiaaGreatDoorZJe
namespace Go.Proofs.YtcpegoofbenoiaaGreatDoor
open Go.RowKit
open Go.ChangeShapes Go.WideShapes Go.ChangeAt Go.Deep
open Plain (M64)

theorem GoodS.fil {packed : Bool} {hash : List UInt8} {C : List Ch} {bs : List UInt8} {l : List Sg} (hg : GoodS l) (hh : hash.length = 16) (hF : FileB packed hash C bs) (hm : C.map (·.1) = l) (hl : bs.length ≤ 20000) : Fil packed hash C bs := by
  subst hm
  exact ⟨hF, hh, by omega, fun x hx => hg.ok _ (List.mem_map_of_mem hx), hg.mono, hg.last, by have := hg.n4; simp at this; omega⟩
/-- Behind impl.ReadCounters of what was written. -/
def BackPost (L : List SgV) (w : World) (e : Ending) (w' : World) : Prop :=
  ∃ n0 ov L2, e = .returned (.tuple #[ov, .int .u32 L.length, .bool true]) ∧ OutR w' n0 ov L2 ∧ L2.map SgV.sg = L.map SgV.sg ∧ L2.length = L.length ∧ Keep Non w w'
theorem readBackT (packed : Bool) (hash : List UInt8) (L : List SgV) (C : List Ch) (bs : List UInt8) (dv : Value) (w : World) (hg : GoodS (L.map SgV.sg)) (hh : hash.length = 16) (hF : FileB packed hash C bs) (hm : C.map (·.1) = L.map SgV.sg) (hl : bs.length ≤ 20000) (hs : Reads w 1 dv bs.length (B bs)) (hM : Mag w) :
    Calls Tryz.prog 11 #[dv] w (BackPost L w) := by
  have hcl : C.length = L.length := by have := congrArg List.length hm; simpa using this
  have h1 := hg.n1
  simp only [List.length_map] at h1
  refine (readCountersT packed hash C bs dv w (hg.fil hh hF hm hl) (by intro e; rw [e] at hcl; simp at hcl; omega) hs hM).mono ?_
  rintro e w' ⟨n0, ov, L2, rfl, hO, hmm, hk, _⟩
  rw [hcl]
  exact ⟨n0, ov, L2, rfl, hO, hmm.trans hm, by have := congrArg List.length (hmm.trans hm); simpa using this, hk⟩
theorem SegT.same {s : Sg} {a1 k1 a2 k2 : List ByteArray} (h1 : SegT s a1 k1) (h2 : SegT s a2 k2) (hs : s.ok) : headL s a1 k1 = headL s a2 k2 := by
  have hp : a1.Perm a2 := (List.perm_ext_iff_of_nodup h1.nodup h2.nodup).2 (fun t => by rw [h1.mem, h2.mem])
  have ht : (tbytes a1).length = (tbytes a2).length := by
    rw [tbytes, tbytes, List.length_append, List.length_append, hp.length_eq, (hp.flatMap_right tone).length_eq]
  have e1 := (h1.alen hs).1
  have e2 := (h2.alen hs).1
  rw [headL, headL, argB_length, argB_length, prsOf, prsOf, e1, e2, ht]
theorem posOf_same (packed : Bool) : ∀ (C1 C2 : List Ch), C1.map (·.1) = C2.map (·.1) → (∀ x ∈ C1, SegT x.1 x.2.1 x.2.2) → (∀ x ∈ C2, SegT x.1 x.2.1 x.2.2) → (∀ x ∈ C1, x.1.ok) → (C1.map (chL packed)).sum = (C2.map (chL packed)).sum
  | [], [], _, _, _, _ => rfl
  | [], _ :: _, h, _, _, _ => by simp at h
  | _ :: _, [], h, _, _, _ => by simp at h
  | x :: l, y :: m, h, h1, h2, h3 => by
    simp only [List.map_cons, List.cons.injEq] at h
    have ih := posOf_same packed l m h.2 (fun z hz => h1 z (List.mem_cons_of_mem _ hz)) (fun z hz => h2 z (List.mem_cons_of_mem _ hz)) (fun z hz => h3 z (List.mem_cons_of_mem _ hz))
    obtain ⟨s, a1, k1⟩ := x
    obtain ⟨t, a2, k2⟩ := y
    have e := h.1
    simp only at e
    subst e
    have := (h1 (s, a1, k1) List.mem_cons_self).same (h2 (s, a2, k2) List.mem_cons_self) (h3 (s, a1, k1) List.mem_cons_self)
    simp only at this
    simp only [List.map_cons, List.sum_cons, chL, ih, this]
/-- A file of a segment more is longer. -/
theorem longer {packed : Bool} {hash : List UInt8} {C1 C2 : List Ch} {b1 b2 : List UInt8} {l : List Sg} {s : Sg} (hh : hash.length = 16) (h1 : FileB packed hash C1 b1) (h2 : FileB packed hash C2 b2) (m1 : C1.map (·.1) = l) (m2 : C2.map (·.1) = l ++ [s]) (ho : ∀ t ∈ l, t.ok) : b1.length < b2.length := by
  have hne : C2 ≠ [] := by intro e; rw [e] at m2; simp at m2
  obtain ⟨D, y, rfl⟩ : ∃ D y, C2 = D ++ [y] := ⟨_, _, (List.dropLast_concat_getLast hne).symm⟩
  rw [List.map_append] at m2
  have hd : D.map (·.1) = l := (List.append_inj' m2 rfl).1
  have e := posOf_same packed C1 D (m1.trans hd.symm) h1.seg (fun x hx => h2.seg x (List.mem_append_left _ hx)) (fun x hx => ho _ (by rw [← m1]; exact List.mem_map_of_mem hx))
  rw [h1.len hh, h2.len hh, posOf_snoc, posOf, posOf, e, chL]
  omega
/-- The first of good segments. -/
theorem GoodS.init {l : List Sg} {s : Sg} (h : GoodS (l ++ [s])) (hn : 1 ≤ l.length) : GoodS l := by
  refine ⟨fun t ht => h.ok t (List.mem_append_left _ ht), mono_of l (fun i hi => ?_), last_of l (fun i hi => ?_), hn, by have := h.n4; simp at this; omega⟩
  · have := mono_at _ i (by simp; omega) h.mono
    rw [List.getElem_append_left (by omega), List.getElem_append_left hi] at this
    exact this
  · have := last_at _ i (by simp; omega) h.last
    rw [List.getElem_append_left (by omega)] at this
    exact this
theorem fits_of {l : List SgV} (h : ∀ s ∈ l.map SgV.sg, s.ok) : ∀ x ∈ l, x.sg.fits := fun x hx => by
  have := (h _ (List.mem_map_of_mem hx)).nfun
  unfold Sg.fits; omega
theorem ok_same {l l' : List SgV} (h : l.map SgV.sg = l'.map SgV.sg) (ho : ∀ s ∈ l'.map SgV.sg, s.ok) : ∀ x ∈ l, x.sg.ok := fun x hx => ho _ (by rw [← h]; exact List.mem_map_of_mem hx)
theorem wide_same {l l' : List SgV} (h : l.map SgV.sg = l'.map SgV.sg) (hw : ∀ x ∈ l', x.sg.wide) : ∀ x ∈ l, x.sg.wide := fun x hx => by
  have h1 : x.sg ∈ l'.map SgV.sg := by rw [← h]; exact List.mem_map_of_mem hx
  obtain ⟨y, hy, e⟩ := List.mem_map.1 h1
  rw [← e]; exact hw y hy
end Go.Proofs.YtcpegoofbenoiaaGreatDoor
