/-
  WORDS: a step that appends, be it nothing. (taken by a program out of the texts of seat A.)
-/
import Derived.Test.YtcpegoofbenoiaaGreatDoorZGJa
namespace Go.Proofs.YtcpegoofbenoiaaGreatDoor
open Go.RowKit
open Go.ChangeShapes Go.WideShapes Go.ChangeAt Go.Deep
open Plain (M64)

/-- A step that appends, be it nothing. -/
theorem step_app0 {P : Program} {w : World} {t e : TypeId} {z : Value} {size bytes : Nat} (T : SliceT P t e z size bytes)
    {ops : Array Oper} {o : Oper} {a : Act} {K : Act → World → Prop} {Q : Exit → Act → World → Prop} {E : Prop} (hgd : o.guard = none) (s x : Operand)
    (ho : o.op = .call { callee := .builtin .append, args := #[s, x], argTypes := #[t, t] })
    {v : Value} {n : Nat} {xs : List Value} (hs : a.eval s = v) (hown : Row w e size v n xs)
    {xv : Value} {m : Nat} {news : List Value} (hx : a.eval x = xv) (hr : Reads w size xv m news) (h1 : ∀ u ∈ news, u.oneCell' = true)
    (h63 : n + m ≤ maxLen) (hbytes : (n + m) * bytes ≤ 140737488355328)
    (h : ∀ v' w', Row w' e size v' (n + m) (xs ++ news) → Grew w w' v v' → K (a.put o.dst v') w') :
    if Region.wanted o (yielded ops a.tmps) = true then Oper.wp P o a w K Q else E := by
  by_cases hm : 0 < m
  · exact step_app T hgd s x ho hs hown hx hr hm h1 h63 hbytes h
  · obtain rfl : m = 0 := by omega
    obtain ⟨i, hi, hz, hsz, hb⟩ := info_parts T.row
    obtain ⟨hl, ⟨rfl, _⟩ | ⟨ad, c, rfl, hc⟩⟩ := hr
    · have hn : news = [] := List.eq_nil_of_length_eq_zero (by simpa using hl)
      subst hn
      have hw : Region.wanted o (yielded ops a.tmps) = true := by simp [Region.wanted, hgd]
      rw [if_pos hw]
      have hrun := run_append_owned_none (P := P) (w := w) 0 t o.type e i size T.und hi v n xs hown
      unfold Oper.wp execOp
      simp only [ho, resolve, invoke, builtin, Sem.run_bind, Sem.run_pure, Result.andThen_ok, List.map_toArray, List.map_cons, List.map_nil, hs, hx, hrun]
      exact h v w (by simpa using hown) ⟨World.grownBy.refl _ _, .inl rfl⟩
    · have hw : Region.wanted o (yielded ops a.tmps) = true := by simp [Region.wanted, hgd]
      rw [if_pos hw]
      obtain ⟨v', w', hr, h2, h3, _, h5⟩ := run_append_own_at (P := P) w 0 t o.type e i z size bytes T.und hi hz hsz hb T.zs T.pos v n xs hown ad 0 c news hl hc h1 h63 hbytes (Nat.zero_le _)
      unfold Oper.wp execOp
      simp only [ho, resolve, invoke, builtin, Sem.run_bind, Sem.run_pure, Result.andThen_ok, List.map_toArray, List.map_cons, List.map_nil, hs, hx, hr]
      exact h v' w' h2 ⟨h3, h5⟩
end Go.Proofs.YtcpegoofbenoiaaGreatDoor
