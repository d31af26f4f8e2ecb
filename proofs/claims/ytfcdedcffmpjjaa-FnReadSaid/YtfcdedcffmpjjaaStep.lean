/-
  LAWS at a step of a region that draws its order, in the words of the memory text; readings of nothing.
-/
import Derived.Test.YtfcdedcffmpjjaaCopy
import Derived.Deep.RegionLaw
namespace Go.Proofs.Ytfcdedcffmpjjaa
open Go.RowKit

theorem Reads.keep0 {w w' : World} {size : Nat} {v : Value} {xs : List Value} (h : Reads w size v 0 xs) : Reads w' size v 0 xs := by
  obtain ⟨hl, h | ⟨ad, c, h, _⟩⟩ := h
  · exact ⟨hl, .inl h⟩
  · refine ⟨hl, .inr ⟨ad, c, h, fun j u hj => ?_⟩⟩
    have : xs = [] := List.eq_nil_of_length_eq_zero (by simpa using hl)
    subst this
    cases hj
theorem Reads.keepIf {S : Nat → Prop} {w w' : World} {size : Nat} {v : Value} {n : Nat} {xs : List Value} (h : Reads w size v n xs) (k : Keep S w w') (hs : 0 < n → ∀ g, v.ownBlock = some g → ¬ S g) : Reads w' size v n xs := by
  by_cases h0 : 0 < n
  · exact h.keep k (hs h0)
  · obtain rfl : n = 0 := by omega
    exact h.keep0
/-- Where there is an element the slice's block is there. -/
theorem Reads.blk {w : World} {size : Nat} {v : Value} {n : Nat} {xs : List Value} (h : Reads w size v n xs) (h0 : 0 < n) (hs : 0 < size) : ∀ g, v.ownBlock = some g → g < w.heap.size := by
  intro g hg
  obtain ⟨b, off, c, rfl, hc⟩ := h.at h0 hs
  have hl : 0 < xs.length := by rw [h.1]; exact Nat.mul_pos h0 hs
  have := hc 0 _ (List.getElem?_eq_getElem hl)
  have := World.block_lt_of_cell? w _ this
  simp [Value.ownBlock] at hg
  subst hg
  exact this
theorem Blk.drewN {w : World} {g : Nat} {cs : List Value} {T : TypeId} (h : Blk w g cs T) (n : Nat) : Blk (w.drewN n) g cs T := h.keep ((Keep.refl Non _).drewN n) (fun h => h)
theorem Reads.drewN {w : World} {size : Nat} {v : Value} {n : Nat} {xs : List Value} (h : Reads w size v n xs) (k : Nat) : Reads (w.drewN k) size v n xs := h.keep ((Keep.refl Non _).drewN k) (fun _ _ h => h)
theorem Row.drewN {w : World} {e : TypeId} {size : Nat} {v : Value} {n : Nat} {xs : List Value} (h : Row w e size v n xs) (k : Nat) : Row (w.drewN k) e size v n xs := h.keep ((Keep.refl Non _).drewN k) (fun _ _ h => h)
theorem step_app {P : Program} {w : World} {t e : TypeId} {z : Value} {size bytes : Nat} (T : SliceT P t e z size bytes)
    {ops : Array Oper} {o : Oper} {a : Act} {K : Act → World → Prop} {Q : Exit → Act → World → Prop} {E : Prop} (hgd : o.guard = none) (s x : Operand)
    (ho : o.op = .call { callee := .builtin .append, args := #[s, x], argTypes := #[t, t] })
    {v : Value} {n : Nat} {xs : List Value} (hs : a.eval s = v) (hown : Row w e size v n xs)
    {xv : Value} {m : Nat} {news : List Value} (hx : a.eval x = xv) (hr : Reads w size xv m news) (hm : 0 < m) (h1 : ∀ u ∈ news, u.oneCell' = true)
    (h63 : n + m ≤ maxLen) (hbytes : (n + m) * bytes ≤ 140737488355328)
    (h : ∀ v' w', Row w' e size v' (n + m) (xs ++ news) → Grew w w' v v' → K (a.put o.dst v') w') :
    if Region.wanted o (yielded ops a.tmps) = true then Oper.wp P o a w K Q else E := by
  obtain ⟨i, hi, hz, hsz, hb⟩ := info_parts T.row
  obtain ⟨hl, ⟨rfl, rfl⟩ | ⟨ad, c, rfl, hc⟩⟩ := hr
  · omega
  · have hw : Region.wanted o (yielded ops a.tmps) = true := by simp [Region.wanted, hgd]
    rw [if_pos hw]
    obtain ⟨v', w', hr, h2, h3, _, h5⟩ := run_append_own_at (P := P) w 0 t o.type e i z size bytes T.und hi hz hsz hb T.zs T.pos v n xs hown ad m c news hl hc h1 h63 hbytes (Nat.zero_le _)
    unfold Oper.wp execOp
    simp only [ho, resolve, invoke, builtin, Sem.run_bind, Sem.run_pure, Result.andThen_ok, List.map_toArray, List.map_cons, List.map_nil, hs, hx, hr]
    exact h v' w' h2 ⟨h3, h5⟩
end Go.Proofs.Ytfcdedcffmpjjaa
