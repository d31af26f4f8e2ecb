/-
  PLAIN: where a segment stands in the file.
-/
import Derived.Test.YtcpegoofbenoiaaGreatDoorZRc8
namespace Go.Proofs.YtcpegoofbenoiaaGreatDoor
open Go.RowKit
open Go.ChangeShapes Go.WideShapes Go.ChangeAt Go.Deep
open Plain (M64)

/-- A segment's length. -/
def chL (packed : Bool) (x : Ch) : Nat := headL x.1 x.2.1 x.2.2 + (fcsB packed x.1.funs).length + 16
theorem segF_len (packed : Bool) (n fe : Nat) (s : Sg) (all ks : List ByteArray) : (segF packed n fe s all ks).length = headL s all ks + (fcsB packed s.funs).length + 16 := by
  rw [segF, List.length_append, footB_length, segB_length, headL, prsOf]
/-- Where the segment behind these begins. -/
def posOf (packed : Bool) (C : List Ch) : Nat := 32 + (C.map (chL packed)).sum
theorem segsB_len (packed : Bool) : ∀ (l : List Ch) (n fe : Nat), (segsB packed n fe l).length = (l.map (chL packed)).sum
  | [], _, _ => rfl
  | x :: l, n, fe => by rw [segsB, List.length_append, segsB_len packed l, segF_len, List.map_cons, List.sum_cons, chL]
theorem segsB_append (packed : Bool) : ∀ (l m : List Ch) (n fe : Nat), segsB packed n fe (l ++ m) = segsB packed n fe l ++ segsB packed (n + l.length) (fe + feOf l) m
  | [], m, n, fe => by simp [segsB, feOf]
  | x :: l, m, n, fe => by
    simp only [List.cons_append, segsB, segsB_append packed l m, List.append_assoc, List.length_cons]
    have e1 : n + 1 + l.length = n + (l.length + 1) := by omega
    have e2 : fe + x.1.funs.length + feOf l = fe + feOf (x :: l) := by simp [feOf]; omega
    rw [e1, e2]
theorem posOf_snoc (packed : Bool) (C : List Ch) (x : Ch) : posOf packed (C ++ [x]) = posOf packed C + chL packed x := by simp [posOf]; omega
theorem headL_four (s : Sg) (all ks : List ByteArray) : headL s all ks % 4 = 0 := seg4 _ _
section
variable {packed : Bool} {hash : List UInt8} {C C1 C2 : List Ch} {x : Ch} {bs : List UInt8}
theorem posOf_four (packed : Bool) : ∀ (C : List Ch), (∀ x ∈ C, x.1.funs = []) → posOf packed C % 4 = 0
  | [], _ => by simp [posOf]
  | x :: l, h => by
    have h1 := posOf_four packed l (fun y hy => h y (List.mem_cons_of_mem _ hy))
    have h2 := headL_four x.1 x.2.1 x.2.2
    have h3 : (fcsB packed x.1.funs).length = 0 := by rw [h x List.mem_cons_self]; rfl
    simp only [posOf, List.map_cons, List.sum_cons, chL, h3] at h1 ⊢
    omega
theorem feOf_zero : ∀ (C : List Ch), (∀ x ∈ C, x.1.funs = []) → feOf C = 0
  | [], _ => rfl
  | x :: l, h => by
    have h1 := feOf_zero l (fun y hy => h y (List.mem_cons_of_mem _ hy))
    have h3 : x.1.funs.length = 0 := by rw [h x List.mem_cons_self]; rfl
    simp only [feOf, List.map_cons, List.sum_cons, h3] at h1 ⊢
    omega
theorem FileB.head (h : FileB packed hash C bs) : bs.drop 0 = headB hash (if packed then 2 else 1) ++ segsB packed 0 0 C := h.eq
/-- From a segment on. -/
theorem FileB.from (h : FileB packed hash (C1 ++ x :: C2) bs) (hh : hash.length = 16) : bs.drop (posOf packed C1) = segB packed (feOf C1 + x.1.funs.length) x.2.1 (prsOf x.1 x.2.1 x.2.2) x.1.funs ++ (footB (C1.length + 1) ++ segsB packed (C1.length + 1) (feOf C1 + x.1.funs.length) C2) := by
  have h1 : posOf packed C1 = (headB hash (if packed then 2 else 1) ++ segsB packed 0 0 C1).length := by rw [List.length_append, headB_length hh, segsB_len, posOf]
  rw [h.eq, segsB_append, ← List.append_assoc, h1, List.drop_left, segsB, Nat.zero_add, Nat.zero_add, segF]
  simp only [List.append_assoc]
  rfl
theorem FileB.len (h : FileB packed hash C bs) (hh : hash.length = 16) : bs.length = posOf packed C := by
  rw [h.eq, List.length_append, headB_length hh, segsB_len, posOf]
/-- The foot of the file. -/
theorem FileB.foot (h : FileB packed hash (C1 ++ [x]) bs) (hh : hash.length = 16) : bs.drop (bs.length - 16) = footB (C1.length + 1) ∧ 16 ≤ bs.length := by
  have h0 := h.len hh
  rw [posOf_snoc, chL] at h0
  have h1 := h.from (C2 := []) hh
  refine ⟨?_, by omega⟩
  have h2 : bs.length - 16 = posOf packed C1 + (headL x.1 x.2.1 x.2.2 + (fcsB packed x.1.funs).length) := by omega
  rw [h2, ← List.drop_drop, h1]
  have h3 : headL x.1 x.2.1 x.2.2 + (fcsB packed x.1.funs).length = (segB packed (feOf C1 + x.1.funs.length) x.2.1 (prsOf x.1 x.2.1 x.2.2) x.1.funs).length := by rw [segB_length, headL]
  rw [h3, List.drop_left, segsB, List.append_nil]
end
/-- What one of them tells, the next tells, too. -/
def Mono : List Sg → Prop
  | [] => True
  | [_] => True
  | s :: t :: l => ((s.args ≠ [] → t.args ≠ []) ∧ (s.os.size ≠ 0 → t.os.size ≠ 0) ∧ (s.arch.size ≠ 0 → t.arch.size ≠ 0)) ∧ Mono (t :: l)
theorem mono_at : ∀ (l : List Sg) (k : Nat) (h : k + 1 < l.length), Mono l → (l[k].args ≠ [] → l[k + 1].args ≠ []) ∧ (l[k].os.size ≠ 0 → l[k + 1].os.size ≠ 0) ∧ (l[k].arch.size ≠ 0 → l[k + 1].arch.size ≠ 0)
  | [], _, h, _ => by simp at h
  | [_], _, h, _ => by simp at h
  | s :: t :: l, 0, _, hm => hm.1
  | s :: t :: l, k + 1, h, hm => mono_at (t :: l) k (by simpa using h) hm.2
/-- Only the last has functions. -/
def LastOnly : List Sg → Prop
  | [] => True
  | [_] => True
  | s :: t :: l => s.funs = [] ∧ LastOnly (t :: l)
theorem last_at : ∀ (l : List Sg) (k : Nat) (h : k + 1 < l.length), LastOnly l → (l[k]'(by omega)).funs = []
  | [], _, h, _ => by simp at h
  | [_], _, h, _ => by simp at h
  | s :: t :: l, 0, _, hm => hm.1
  | s :: t :: l, k + 1, h, hm => last_at (t :: l) k (by simpa using h) hm.2
end Go.Proofs.YtcpegoofbenoiaaGreatDoor
