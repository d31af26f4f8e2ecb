/-
  THE LAW FnUlebBack.
-/
import Derived.Test.YtfcdedcffmpjjaaRead
namespace Go.Proofs.Ytfcdedcffmpjjaa
open Go.RowKit
open Go.ChangeShapes Go.WideShapes Go.ChangeAt Go.Deep
open Plain (M64)

def nat8 (l : List UInt8) : List Nat := l.map UInt8.toNat
theorem By_nat8 (l : List UInt8) : By (nat8 l) = B l := by simp [By, nat8, B]
theorem nat8_append (a b : List UInt8) : nat8 (a ++ b) = nat8 a ++ nat8 b := by simp [nat8]
theorem nat8_length (a : List UInt8) : (nat8 a).length = a.length := by simp [nat8]
theorem nat8_lt (l : List UInt8) : ∀ x ∈ nat8 l, x < 256 := by
  intro x hx
  simp [nat8] at hx
  obtain ⟨b, _, rfl⟩ := hx
  exact b.toNat_lt
theorem ulebVal_uleb (n : Nat) : ∀ v, v < n → ulebVal (nat8 (uleb v)) = v := by
  induction n with
  | zero => intro v h; omega
  | succ n ih =>
    intro v h
    by_cases hs : v < 128
    · rw [uleb_small hs]
      simp [nat8, ulebVal]
      omega
    · rw [uleb_big hs]
      have := ih (v / 128) (by omega)
      simp only [nat8, List.map_cons, ulebVal] at this ⊢
      rw [this]
      simp
      omega
theorem ulebAt_uleb (n : Nat) : ∀ v r, (uleb v).length ≤ n → ulebAt n (nat8 (uleb v) ++ r) = some (nat8 (uleb v)) := by
  induction n with
  | zero => intro v r h; have := uleb_ne v; simp at h; exact absurd h this
  | succ n ih =>
    intro v r h
    by_cases hs : v < 128
    · rw [uleb_small hs]
      have e : v % 256 = v := by omega
      simp [nat8, ulebAt, e]
      omega
    · rw [uleb_big hs] at h ⊢
      have := ih (v / 128) r (by simpa using h)
      simp only [nat8, List.map_cons, List.cons_append, ulebAt] at this ⊢
      have e : (UInt8.ofNat (v % 128 + 128)).toNat = v % 128 + 128 := by simp; omega
      rw [e, if_neg (by omega), this]
      rfl
theorem rrun_back (ahead behind : List UInt8) (x : Nat) (hx : x < M64) :
    rrun (nat8 (ahead ++ uleb x ++ behind)) [((5 : Int), (ahead.length : Int)), (3, 0), (9, 0)] = some (ahead.length + (uleb x).length, [ahead.length, x, ahead.length + (uleb x).length], []) := by
  have hl : (nat8 (ahead ++ uleb x ++ behind)).length = ahead.length + (uleb x).length + behind.length := by simp [nat8]; omega
  have s1 : rstep (nat8 (ahead ++ uleb x ++ behind)) (0, [], []) (5, (ahead.length : Int)) = some (ahead.length, [ahead.length], []) := by
    have e : seekTo (((5 : Int) - 5).toNat) 0 (nat8 (ahead ++ uleb x ++ behind)).length (ahead.length : Int) = (ahead.length : Int) := by simp [seekTo]
    simp only [rstep, e]
    rw [if_neg (by decide), if_pos (by decide), if_pos ⟨by omega, by omega⟩]
    simp
  have s2 : rstep (nat8 (ahead ++ uleb x ++ behind)) (ahead.length, [ahead.length], []) (3, 0) = some (ahead.length + (uleb x).length, [ahead.length, x], []) := by
    have e : (nat8 (ahead ++ uleb x ++ behind)).drop ahead.length = nat8 (uleb x) ++ nat8 behind := by
      rw [List.append_assoc, nat8_append, List.drop_left' (nat8_length _), nat8_append]
    simp only [rstep, e]
    rw [if_pos trivial, ulebAt_uleb 10 x _ (uleb_len64 hx), Option.bind_some, ulebVal_uleb (x + 1) x (by omega), if_pos hx, nat8_length]
    rfl
  have s3 : rstep (nat8 (ahead ++ uleb x ++ behind)) (ahead.length + (uleb x).length, [ahead.length, x], []) (9, 0) = some (ahead.length + (uleb x).length, [ahead.length, x, ahead.length + (uleb x).length], []) := by simp [rstep]
  rw [rrun, List.foldlM_cons, s1, Option.bind_eq_bind, Option.bind_some, List.foldlM_cons, s2, Option.bind_eq_bind, Option.bind_some, List.foldlM_cons, s3]
  rfl
set_option maxRecDepth 100000 in
set_option maxHeartbeats 4000000 in
theorem ulebBack_law (a b : Value) (ahead behind : List UInt8) (n m x : Nat) (w : World) (hx : x < M64) (ha : Reads w 1 a n (B ahead)) (hb : Reads w 1 b m (B behind)) (hva : ∃ ao c, a = .slice ao n c) (hvb : ∃ ao c, b = .slice ao m c)
    (hn : n ≤ 9223372036854775807) (hm : m ≤ 9223372036854775807) :
    Calls Try.prog 14 #[a, .int .u64 x, b] w fun e w' => e = .returned (.bool true) ∧ Below w.heap.size w w' := by
  obtain ⟨ao, ca, rfl⟩ := hva
  obtain ⟨bo, cb, rfl⟩ := hvb
  by_cases h0 : n ≤ 100 ∧ m ≤ 100
  · obtain ⟨h01, h02⟩ := h0
    have hl1 : ahead.length = n := by simpa [B_length] using ha.1
    have hl2 : behind.length = m := by simpa [B_length] using hb.1
    subst hl1
    subst hl2
    have HX := Lib.hid hx
    clear hx
    go_enter Try.func14, Try.ntmps14
    go_wp2_with (first
      | (go_at_call 19; go_must (refine (uleb_impl _ ahead x _ HX.out ha (by omega)).mono ?_); rintro e w1 ⟨v1, rfl, r1, k1, l1⟩; have hb1 := hb.keep k1 (fun _ _ h => h); have hlu := uleb_len64 HX.out; have hlen : (ahead ++ uleb x).length = ahead.length + (uleb x).length := List.length_append; rw [hlen] at r1)
      | (at_builtin; go_must (refine wpList_app sliceBytes rfl (.tmp 28) (.tmp 29) rfl rfl r1 rfl hb1 (B_one _) (by unfold maxLen; omega) (by omega) ?_); intro v2 w2 r2 g2 n2; have rd : Reads w2 1 v2 (nat8 (ahead ++ uleb x ++ behind)).length (By (nat8 (ahead ++ uleb x ++ behind))) := (by
           rw [By_nat8, B_append, nat8_length, List.length_append, hlen]; exact r2.reads)
         have k2 := k1.trans g2.keep (fun i hi e => by have := l1 i e; omega)
         obtain ⟨a2, c2, rfl⟩ := r2.reads.slice
         have hl3 : (nat8 (ahead ++ uleb x ++ behind)).length ≤ 1000000 := by rw [nat8_length, List.length_append, hlen]; omega)
      | (go_at_call 34; go_must (refine (read_impl _ _ (nat8 (ahead ++ uleb x ++ behind)) [((5 : Int), (ahead.length : Int)), (3, 0), (9, 0)] _ (rd.alloc _) (Row.lit w2 76 2 [.int .i64 5, .int .i64 ahead.length, .int .i64 3, .int .i64 0, .int .i64 9, .int .i64 0] 3 (by decide) rfl).reads hl3 (by simp) (nat8_lt _) (by
           intro m hm
           simp at hm
           rcases hm with rfl | rfl | rfl <;> simp <;> omega) _ (rrun_back ahead behind x HX.out)).mono ?_)
         rintro e w3 ⟨u1, u2, rfl, q1, q2, k3⟩
         have q1' : Row w3 29 1 u1 3 [.int .u64 ahead.length, .int .u64 x, .int .u64 ((ahead.length + (uleb x).length : Nat) : Int)] := q1
         obtain ⟨g1, cc, rfl⟩ := q1'.at (by omega)
         have e1 : w3.cell? ⟨g1, 1, none⟩ = some (.int .u64 x) := by rw [q1'.cell 1 (by omega)]; rfl
         have e2 : w3.cell? ⟨g1, 2, none⟩ = some (.int .u64 ((ahead.length + (uleb x).length : Nat) : Int)) := by rw [q1'.cell 2 (by omega)]; rfl
         have kk := (k2.alloc _).trans k3 (fun _ _ h => h)))
    go_ret
    exact ⟨rfl, kk.below (Nat.le_refl _) (fun _ _ h => h.elim)⟩
  · by_cases h1 : 100 < n
    · clear h0
      go_enter Try.func14, Try.ntmps14
      go_wp2
      all_goals
        go_ret
        exact ⟨rfl, Below.refl _ _⟩
    · have h2 : 100 < m := by omega
      clear h0
      go_enter Try.func14, Try.ntmps14
      go_wp2
      all_goals
        go_ret
        exact ⟨rfl, Below.refl _ _⟩
end Go.Proofs.Ytfcdedcffmpjjaa
