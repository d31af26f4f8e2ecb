/-
  THE LAW FnTable.
-/
import Derived.Test.YtbmidlaakbpnlaaTab6
import Derived.WalkSpells
namespace Go.Proofs.Ytbmidlaakbpnlaa
open Go.RowKit
open Go.ChangeShapes Go.WideShapes Go.ChangeAt Go.Deep
open Plain (M64)

theorem places_top (l : List ByteArray) : (places l).1.length = l.length ∧ (places l).2.length ≤ l.length := by
  have := places_len l l.length (Nat.le_refl _)
  rw [List.take_of_length_le (Nat.le_refl _)] at this
  exact ⟨this.1, this.2.1⟩
set_option maxRecDepth 100000 in
set_option maxHeartbeats 4000000 in
theorem table_law (sv : Value) (l : List ByteArray) (w : World) (hs : Reads w 1 sv l.length (Ts l)) (hll : l.length ≤ 9223372036854775807) (hsz : ∀ s ∈ l, s.size ≤ maxLen) :
    Calls Try.prog 3 #[sv] w fun e w' => e = .returned (.bool true) ∧ Below w.heap.size w w' := by
  obtain ⟨aa, ca, rfl⟩ := hs.slice
  have HSZ := Lib.hid hsz
  clear hsz
  have qT : ∀ (w : World) (a : Option Addr) (n c n' c' : Nat), (binOp .neq 24 (.slice a n c) (.slice none n' c')).run Try.prog w = .ok (.bool (!a.isNone)) w := fun w a n c n' c' => run_neq_slice_nil_any w _ _ a n c n' c' Try.underlying24
  go_enter Try.func3, Try.ntmps3
  go_wp2_with fail
  refine (fits3 _ l w hs hll HSZ.out).mono ?_
  rintro e w1 ⟨ok1, rfl, rfl, hok1⟩
  cases ok1 with
  | false =>
    go_wp2
    go_ret
    exact ⟨rfl, Below.refl _ _⟩
  | true =>
    clear hok1
    go_wp2_with fail
    refine (texts _ l _ hs hll HSZ.out).mono ?_
    rintro e w2 ⟨ok2, rfl, rfl, hok2⟩
    have HOK := Lib.hid hok2
    clear hok2
    cases ok2 with
    | false =>
      go_wp2
      go_ret
      exact ⟨rfl, Below.refl _ _⟩
    | true =>
      obtain ⟨b1, b2⟩ := HOK.out rfl
      have HB2 := Lib.hid b2
      obtain ⟨p1, p2⟩ := places_top l
      have HP1 := Lib.hid p1
      have hq1 : (places l).1.length ≤ 20 := by omega
      have hq2 : (places l).2.length ≤ 20 := by omega
      clear b2 HOK p1 p2
      go_wp2_with fail
      refine (places_spec _ l _ hs (by omega)).mono ?_
      rintro e w3 ⟨v1, v2, rfl, r1, r2, k3⟩
      have hs3 := hs.keep k3 (fun _ _ h => h)
      obtain ⟨y1, z1, rfl⟩ := r1.reads.slice
      obtain ⟨y2, z2, rfl⟩ := r2.reads.slice
      have R1 := Lib.hid r1
      have K3 := Lib.hid k3
      clear r1 r2 k3
      go_wp2_with fail
      refine (table_impl _ l w3 hs3 (by omega) (fun s h => by have := HB2.out s h; omega)).mono ?_
      rintro e w4 ⟨b, n, c, v4, rfl, r4, r5, k4⟩
      have R1' := Lib.hid (R1.out.keep k4 (fun _ _ h => h))
      have R4 := Lib.hid r4
      have hn : n = (places l).1.length := by
        obtain ⟨_, _, h⟩ := r4.reads.slice
        cases h; rfl
      have HN := Lib.hid hn
      have KB := Lib.hid ((K3.out.trans k4 (fun _ _ h => h)).below (Nat.le_refl _) (fun _ _ h => h.elim))
      clear r4 r5 k4 hs3 hn
      go_wp2_with (go_at_call 11; go_must (refine (sameNums _ _ _ _ w4 R4.out.reads R1'.out.reads (by omega) (by omega)).mono ?_); rintro e w5 ⟨rfl, n5, rfl⟩)
      go_ret
      exact ⟨ret_bool (by simp), KB.out.trans (((Keep.refl Non w4).drewN n5).below KB.out.size (fun _ _ h => h.elim))⟩
end Go.Proofs.Ytbmidlaakbpnlaa
