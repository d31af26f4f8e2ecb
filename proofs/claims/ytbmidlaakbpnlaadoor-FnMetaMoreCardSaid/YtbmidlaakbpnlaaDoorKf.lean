/-
  LAWS without a program: copy and store as a step of a drawn region; ranges of cells.
-/
import Derived.Test.YtbmidlaakbpnlaaDoorKa
import Derived.Deep.MidRow
namespace Go.Proofs.YtbmidlaakbpnlaaDoor
open Go.RowKit
open Go.ChangeShapes Go.WideShapes Go.ChangeAt Go.Deep
open Plain (M64)

theorem step_cp {P : Program} {w : World} {ops : Array Oper} {o : Oper} {a : Act} {K : Act → World → Prop} {Q : Exit → Act → World → Prop} {E : Prop} {t e : TypeId} (ht : P.underlying t = some (.slice e)) (hsz : (P.info? e).map (·.size) = some 1) (hgd : o.guard = none) (d s : Operand)
    (ho : o.op = .call { callee := .builtin .copy, args := #[d, s], argTypes := #[t, t] })
    {g off dLen dCap n : Nat} {sv : Value} {cur xs : List Value} {T : TypeId} (hd : a.eval d = .slice (some ⟨g, off, none⟩) dLen dCap) (hs : a.eval s = sv) (hb : Blk w g cur T) (hr : Reads w 1 sv n xs) (hm : 0 < n) (hfit : off + min n dLen ≤ cur.length) (h1 : ∀ v ∈ xs, v.oneCell' = true)
    (h : ∀ w', Blk w' g (splice cur off (xs.take (min n dLen))) T → Keep (At g) w w' → K (a.put o.dst (goInt (min n dLen : Nat))) w') : if Region.wanted o (yielded ops a.tmps) = true then Oper.wp P o a w K Q else E := by
  obtain ⟨hl, ⟨_, h0⟩ | ⟨ad, c, rfl, hc⟩⟩ := hr
  · omega
  · have hw : Region.wanted o (yielded ops a.tmps) = true := by simp [Region.wanted, hgd]
    rw [if_pos hw]
    have hxl : (xs.take (min n dLen)).length = min n dLen := by simp; omega
    have hrun := run_copy_row (P := P) w t t o.type e g off dLen dCap ad n c cur.toArray T (xs.take (min n dLen)) ht hsz hb hxl (fun j v hj => hc j v (by
      have hjl := (List.getElem?_eq_some_iff.1 hj).1
      rw [List.getElem?_take_of_lt (by omega)] at hj
      exact hj)) (by rw [hxl]; simpa using hfit) (fun v hv => h1 v (List.mem_of_mem_take hv))
    have e : (cur.toArray.toList.take off ++ xs.take (min n dLen) ++ cur.toArray.toList.drop (off + (xs.take (min n dLen)).length)).toArray = (splice cur off (xs.take (min n dLen))).toArray := by simp [splice, hxl]
    rw [e, hxl] at hrun
    unfold Oper.wp execOp
    simp only [ho, resolve, invoke, builtin, Sem.run_bind, Sem.run_pure, Result.andThen_ok, List.map_toArray, List.map_cons, List.map_nil, hd, hs, hrun]
    refine h (w.setRow g (splice cur off (xs.take (min n dLen))).toArray) ?_ (Keep.setRow _ _ _)
    have := setRow_heap w g cur.toArray (splice cur off (xs.take (min n dLen))).toArray T (0, 0) hb
    simpa [Blk] using this
theorem Blk.range {w : World} {g : Nat} {cs : List Value} {T : TypeId} (h : Blk w g cs T) : w.rangeAt g 0 cs := fun j v hj => by rw [Nat.zero_add, h.cell]; exact hj
theorem range_keep {S : Nat → Prop} {w w' : World} {b o : Nat} {cs : List Value} (h : w.rangeAt b o cs) (k : Keep S w w') (hb : ¬ S b) : w'.rangeAt b o cs := fun j v hj => k.cell (h j v hj) hb
theorem wp_store_any {P : Program} {op : Oper} {a : Act} {w w' : World} {K : Act → World → Prop} {Q : Exit → Act → World → Prop} (ty : TypeId) (x y : Operand) (ho : op.op = .store ty x y) {pv v : Value} (hx : a.eval x = pv) (hy : a.eval y = v) (hrun : (Instr.storeAt ty pv v).run P w = .ok () w') (h : K (a.put op.dst undef) w') : op.wp P a w K Q := by
  unfold Oper.wp execOp
  simp only [ho, hx, hy, Sem.run_bind, Sem.run_pure, Result.andThen_ok, hrun]
  exact h
end Go.Proofs.YtbmidlaakbpnlaaDoor
