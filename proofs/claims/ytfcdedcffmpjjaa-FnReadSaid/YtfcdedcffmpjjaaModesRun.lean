/-
  CONTRACTS for modes that are set one after the other.
-/
import Derived.Test.YtfcdedcffmpjjaaMerge3
import Derived.Test.YtfcdedcffmpjjaaOpen2
namespace Go.Proofs.Ytfcdedcffmpjjaa
open Go.RowKit
open Go.ChangeShapes Go.WideShapes Go.ChangeAt Go.Deep

/-- The two cells of a mode, or of a step. -/
def two (m : Int × Int) : List Value := [.int .i64 m.1, .int .i64 m.2]
theorem two_length (m : Int × Int) : (two m).length = 2 := rfl

/-- A slice of structs of two numbers that came in. -/
theorem two_open {H : Type} {enc : TypeId × Value → H} {w : World} {t e i : TypeId} {f0 f1 : Field} {a : Option Addr} {len cap : Nat} {d : DataW H} {ps : List MemPlace}
    (ht : Try.prog.underlying t = some (.slice e)) (he : Try.prog.underlying e = some (.struct #[f0, f1])) (h0 : f0.type = i) (h1 : f1.type = i) (hi : Try.prog.underlying i = some (.int .i64))
    (hone : oneCellFields Try.prog #[f0, f1] = true) (hC : Try.prog.cellsOf e = 2)
    (h : DataW.Trod enc Try.prog w 0 (fun _ => true) true t (.slice a len cap) d ps) :
    ∃ l : List (Int × Int), l.length = len ∧ Reads w 2 (.slice a len cap) len (l.flatMap two) ∧ ∀ m ∈ l, (Lit.int .i64 m.1).wf = true ∧ (Lit.int .i64 m.2).wf = true := by
  refine reads_of two_length (by decide) ?_
  rcases structs_open ht he hone hC h with h | ⟨ad, rfl, _, _, hc⟩
  · exact .inl h
  · refine .inr ⟨ad, rfl, fun i hil => ?_⟩
    obtain ⟨cs, hl, hcell, hf⟩ := hc i hil
    obtain ⟨v0, y0, n0, c0, r0⟩ := hf 0 f0 rfl
    obtain ⟨v1, y1, n1, c1, r1⟩ := hf 1 f1 rfl
    rw [h0] at r0
    rw [h1] at r1
    obtain ⟨x0, e0, _, w0⟩ := DataW.trod_int hi r0
    obtain ⟨x1, e1, _, w1⟩ := DataW.trod_int hi r1
    simp only [List.cons.injEq, and_true] at e0 e1
    subst e0; subst e1
    refine ⟨(x0, x1), ⟨w0, w1⟩, fun j u hj => hcell j u ?_⟩
    match j, hj with
    | 0, hj => rw [c0]; exact hj
    | 1, hj => rw [c1]; exact hj
theorem two_at {w : World} {b off : Nat} {l : List (Int × Int)} (h : ∀ j u, (l.flatMap two)[j]? = some u → w.cell? ⟨b, off + j, none⟩ = some u) {k : Nat} (hk : k < l.length) :
    w.cell? ⟨b, off + k * 2, none⟩ = some (.int .i64 l[k].1) ∧ w.cell? ⟨b, off + k * 2 + 1, none⟩ = some (.int .i64 l[k].2) :=
  ⟨h (k * 2 + 0) _ (flat_get two_length l k 0 hk (by decide)), h (k * 2 + 1) _ (flat_get two_length l k 1 hk (by decide))⟩

theorem sliceSpecMode : SliceT Try.prog 39 42 (.agg #[.int .i64 0, .int .i64 0]) 2 16 := ⟨Try.underlying39, by kernel_rfl, rfl, by decide⟩
theorem sliceBool : SliceT Try.prog 43 4 (.bool false) 1 1 := ⟨Try.underlying43, by kernel_rfl, rfl, by decide⟩

theorem Reads.two (w : World) (x y : Value) (T : TypeId) : Reads (w.alloc (.cells #[x, y] T)) 2 (.slice (some ⟨w.heap.size, 0, none⟩) 1 1) 1 [x, y] :=
  ⟨rfl, .inr ⟨_, 1, rfl, cell_two_new _ _ _ _⟩⟩
theorem ints2_one (k : IntKind) (x y : Int) : ∀ u ∈ [Value.int k x, .int k y], u.oneCell' = true := by
  intro u hu
  simp at hu
  rcases hu with rfl | rfl <;> rfl
/-- A mode of which something is stated. -/
def vmode (m : Int × Int) : Bool := decide (1 ≤ m.1) && decide (m.1 ≤ 5) && decide (1 ≤ m.2) && decide (m.2 ≤ 2)
theorem vmode_mk {m : Int × Int} (h1 : 1 ≤ m.1) (h2 : m.1 ≤ 5) (h3 : 1 ≤ m.2) (h4 : m.2 ≤ 2) : vmode m = true := by simp [vmode, h1, h2, h3, h4]
theorem take_snoc_mem {α : Type} {l : List α} {k : Nat} (h : k < l.length) {Q : α → Prop} (h1 : ∀ x ∈ l.take k, Q x) (h2 : Q l[k]) : ∀ x ∈ l.take (k + 1), Q x := by
  intro x hx
  rw [List.take_succ_eq_append_getElem h] at hx
  rcases List.mem_append.1 hx with h | h
  · exact h1 x h
  · simp at h; subst h; exact h2

/-! ### What modes set one after the other tell -/
def castM (m : Nat × Nat) : Int × Int := ((m.1 : Int), (m.2 : Int))
def modeStep (pol : Nat) (st : List Bool × Nat × Nat) (x : Nat × Nat) : List Bool × Nat × Nat :=
  (st.1 ++ [(setm st.2.1 st.2.2 pol x.1 x.2).1], (setm st.2.1 st.2.2 pol x.1 x.2).2)
def modesTo (pol : Nat) (l : List (Nat × Nat)) : List Bool × Nat × Nat := l.foldl (modeStep pol) ([], 0, 0)
theorem modesTo_snoc (pol : Nat) {l : List (Nat × Nat)} {k : Nat} (h : k < l.length) : modesTo pol (l.take (k + 1)) = modeStep pol (modesTo pol (l.take k)) l[k] := by
  rw [List.take_succ_eq_append_getElem h, modesTo, List.foldl_append]; rfl
theorem modesTo_length (pol : Nat) (l : List (Nat × Nat)) : ∀ k, k ≤ l.length → (modesTo pol (l.take k)).1.length = k
  | 0, _ => by simp [modesTo]
  | k + 1, h => by rw [modesTo_snoc pol (by omega)]; simp [modeStep, modesTo_length pol l k (by omega)]
def Bs (l : List Bool) : List Value := l.map .bool
theorem Bs_append (a b : List Bool) : Bs (a ++ b) = Bs a ++ Bs b := by simp [Bs]
theorem bool_one (b : Bool) : ∀ u ∈ [Value.bool b], u.oneCell' = true := by
  intro u hu
  simp at hu
  subst hu; rfl
theorem twoN_at {w : World} {b off : Nat} {l : List (Nat × Nat)} (h : ∀ j u, ((l.map castM).flatMap two)[j]? = some u → w.cell? ⟨b, off + j, none⟩ = some u) {k : Nat} (hk : k < l.length) :
    w.cell? ⟨b, off + k * 2, none⟩ = some (.int .i64 (l[k].1 : Nat)) ∧ w.cell? ⟨b, off + k * 2 + 1, none⟩ = some (.int .i64 (l[k].2 : Nat)) := by
  have := two_at h (k := k) (by simpa using hk)
  simpa [castM] using this

/-- An interface value against nil. -/
theorem errIf_eql {ok : Bool} {r : Value} (h : ErrIf ok r) {T : TypeId} (hT : Try.prog.underlying T = some (.interface (Try.prog.methodsAt T))) (w : World) : (binOp .eql T r .nilIface).run Try.prog w = .ok (.bool ok) w := by
  cases ok with
  | true =>
    obtain rfl : r = .nilIface := h
    exact run_eql_nil_nil w T hT
  | false =>
    obtain ⟨t, a, rfl⟩ : ∃ t a, r = .iface t (.pointer (some a)) := h
    exact run_eql_held_nil w T t _ hT
theorem errIf_guard {ok : Bool} {r : Value} (h : ErrIf ok r) (op : BinOp) (T : TypeId) (x : Operand) (c : Value) : eqGuard op T x (.const c) r .nilIface = pure () := by
  cases ok with
  | true =>
    obtain rfl : r = .nilIface := h
    exact eqGuard_nil_constR _ _ _ _
  | false =>
    obtain ⟨t, a, rfl⟩ : ∃ t a, r = .iface t (.pointer (some a)) := h
    exact eqGuard_at_iface _ _ _ _ _ _ _
theorem errT : Try.prog.underlying 90 = some (.interface (Try.prog.methodsAt 90)) := by kernel_rfl

/-- Three blocks laid one behind the other, the last one empty. -/
theorem start3 (w : World) (a b : List Value) (T1 T2 T3 : TypeId) :
    Blk (((w.alloc (.cells a.toArray T1)).alloc (.cells b.toArray T2)).alloc (.cells #[] T3)) (w.heap.size + 1) b T2 ∧ Blk (((w.alloc (.cells a.toArray T1)).alloc (.cells b.toArray T2)).alloc (.cells #[] T3)) w.heap.size a T1 ∧
    Row (((w.alloc (.cells a.toArray T1)).alloc (.cells b.toArray T2)).alloc (.cells #[] T3)) T3 1 (.slice (some ⟨w.heap.size + 1 + 1, 0, none⟩) 0 0) 0 [] ∧
    Keep Non w (((w.alloc (.cells a.toArray T1)).alloc (.cells b.toArray T2)).alloc (.cells #[] T3)) := by
  have e1 : (w.alloc (.cells a.toArray T1)).heap.size = w.heap.size + 1 := by simp
  have e2 : ((w.alloc (.cells a.toArray T1)).alloc (.cells b.toArray T2)).heap.size = w.heap.size + 1 + 1 := by simp
  refine ⟨?_, ((Blk.new w a T1).alloc _).alloc _, ?_, (((Keep.refl _ _).alloc _).alloc _).alloc _⟩
  · have := (Blk.new (w.alloc (.cells a.toArray T1)) b T2).alloc (.cells #[] T3)
    rw [e1] at this
    exact this
  · have := Row.lit ((w.alloc (.cells a.toArray T1)).alloc (.cells b.toArray T2)) T3 1 [] 0 (by decide) rfl
    rw [e2] at this
    exact this
theorem modesTo_bd (pol : Nat) {l : List (Nat × Nat)} (hv : ∀ m ∈ l, m.1 ≤ 5 ∧ m.2 ≤ 2) : ∀ k, k ≤ l.length → (modesTo pol (l.take k)).2.1 ≤ 5 ∧ (modesTo pol (l.take k)).2.2 ≤ 2
  | 0, _ => by simp [modesTo]
  | k + 1, h => by
    have ih := modesTo_bd pol hv k (by omega)
    have hx := hv _ (List.getElem_mem (show k < l.length by omega))
    rw [modesTo_snoc pol (by omega)]
    unfold modeStep setm
    repeat' split
    all_goals simp only []; omega

set_option maxRecDepth 100000 in
set_option maxHeartbeats 4000000 in
theorem modes_impl (relaxed : Bool) (s : Value) (l : List (Nat × Nat)) (w : World) (hs : Reads w 2 s l.length ((l.map castM).flatMap two)) (hm : l.length ≤ 1000) (hv : ∀ m ∈ l, m.1 ≤ 5 ∧ m.2 ≤ 2) :
    Calls Try.prog 24 #[.bool relaxed, s] w fun e w' => ∃ v', e = .returned (.tuple #[v', .agg #[.int .i64 (modesTo relaxed.toNat l).2.1, .int .i64 (modesTo relaxed.toNat l).2.2]]) ∧
      Row w' 4 1 v' l.length (Bs (modesTo relaxed.toNat l).1) ∧ Keep Non w w' := by
  obtain ⟨aa, ca, rfl⟩ := hs.slice
  obtain ⟨pol, hpol⟩ : ∃ pol, relaxed.toNat = pol := ⟨_, rfl⟩
  rw [hpol]
  have HP := Lib.hid hpol
  clear hpol
  cases relaxed
  all_goals
    go_enter Try.func24, Try.ntmps24
    go_wp2
    try (go_end0; go_wp2)
    go_loopw [7, 18] (fun v i wr => ∃ k : Nat, k ≤ l.length ∧ i = .int .i64 k ∧ Row wr 4 1 v k (Bs (modesTo pol (l.take k)).1) ∧
        Blk wr (w.heap.size + 1) (mcells (modesTo pol (l.take k)).2.1 (modesTo pol (l.take k)).2.2 pol false) 87 ∧ Blk wr w.heap.size [.int .i64 0, .int .i64 0] 41 ∧ Keep Non w wr ∧ (∀ g, v.ownBlock = some g → w.heap.size + 2 ≤ g)) (fun _ i _ => l.length - (intOf i).toNat)
    case atStart =>
      have S := start3 w [.int .i64 0, .int .i64 0] (mcells 0 0 pol false) 41 87 4
      have e := HP.out
      simp at e
      subst e
      exact ⟨0, by omega, rfl, S.2.2.1, S.1, S.2.1, S.2.2.2, fun g h => by simp [Value.ownBlock] at h; omega⟩
    case round =>
      obtain ⟨k, hk, rfl, hr, hb, hb0, hkp, hl⟩ := hrel
      by_cases hlt : k < l.length
      · obtain ⟨ba, offa, ca', hva, hca⟩ := hs.at (by omega) (by omega)
        cases hva
        obtain ⟨c0, c1⟩ := twoN_at hca hlt
        have c0' := hkp.cell c0 (fun h => h)
        have c1' := hkp.cell c1 (fun h => h)
        obtain ⟨v1, v2⟩ := hv _ (List.getElem_mem hlt)
        have HL := Lib.hid hl
        clear hl hca c0 c1
        go_wp2_with (first
          | (go_at_call 42; go_must (refine (setMode _ _ _ pol false _ l[k].1 l[k].2 _ (hb.alloc _)).mono ?_); rintro e w1 ⟨r, rfl, he, hb1, k1⟩; have he' := errIf_eql he errT w1; have he'' := errIf_guard he .eql 90; have hr' := (hr.alloc _).keep k1 (fun g hg e => by have := HL.out g hg; unfold At at e; omega))
          | (at_builtin; go_must (refine wpList_app (m := 1) sliceBool rfl _ _ rfl rfl (hr'.alloc _) rfl (Reads.one _ _ _) (bool_one _) (by unfold maxLen; omega) (by omega) ?_); intro v' w2 hr2 hg2 hn2))
        go_roundw
        case measure => simp [intOf]; omega
        case rel =>
          have hk1 := hkp.size
          have e2 : ∀ g, u7.ownBlock = some g → w.heap.size + 2 ≤ g := HL.out
          refine ⟨k + 1, by omega, by go_num, ?_, ?_, ?_, ?_, ?_⟩
          · rw [modesTo_snoc pol hlt]
            simp only [modeStep, Bs_append]
            exact hr2
          · rw [modesTo_snoc pol hlt]
            exact (hb1.alloc _).keep hg2.keep (fun h => by have := e2 _ h; omega)
          · exact ((((hb0.alloc _).keep k1 (fun h => by unfold At at h; omega))).alloc _).keep hg2.keep (fun h => by have := e2 _ h; omega)
          · exact ((((hkp.alloc _).trans k1 (fun i hi h => by unfold At at h; omega))).alloc _).trans hg2.keep (fun i hi h => by have := e2 _ h; omega)
          · intro g hg
            rcases hg2.lies hg with h | h
            · exact e2 g h
            · have := k1.size
              simp at h this; omega
      · have hkl : k = l.length := by omega
        subst hkl
        rw [List.take_of_length_le (Nat.le_refl _)] at hr hb
        have bd := modesTo_bd pol hv l.length (Nat.le_refl _)
        rw [List.take_of_length_le (Nat.le_refl _)] at bd
        obtain ⟨st, hst⟩ : ∃ st, st = modesTo pol l := ⟨_, rfl⟩
        rw [← hst] at hr hb bd
        have HST := Lib.hid hst
        clear hst
        have c0 : wr.cell? ⟨w.heap.size + 1, 0, none⟩ = some (.int .u8 (st.2.1 : Int)) := by rw [hb.cell]; rfl
        have c1 : wr.cell? ⟨w.heap.size + 1, 1, none⟩ = some (.int .u8 (st.2.2 : Int)) := by rw [hb.cell]; rfl
        have d0 : wr.cell? ⟨w.heap.size, 0, none⟩ = some (.int .i64 0) := by rw [hb0.cell]; rfl
        have d1 : wr.cell? ⟨w.heap.size, 1, none⟩ = some (.int .i64 0) := by rw [hb0.cell]; rfl
        have f0 := hb0.free 0
        have f1 := hb0.free 1
        have HL := Lib.hid hl
        clear hl
        go_wp2
        refine bodyPost_ret (v := .tuple #[u7, .agg #[.int .i64 st.2.1, .int .i64 st.2.2]]) (by simp [results, Try.results24, go_sem, d0, d1]) rfl ⟨u7, by rw [← HST.out], ?_, ?_⟩
        · rw [← HST.out]
          exact hr.keep (((Keep.refl (At w.heap.size) wr).setAt _ 0 _ (atSelf _)).setAt _ 1 _ (atSelf _)) (fun g hg e => by have := HL.out g hg; unfold At at e; omega)
        · exact (hkp.setCell (fun h => absurd h (Nat.lt_irrefl _)) _).setCell (fun h => absurd h (Nat.lt_irrefl _)) _

/-! ### The reference -/
theorem Keep.setNew {S : Nat → Prop} {a w : World} (h : Keep S a w) {g : Nat} (hg : a.heap.size ≤ g) (o : Nat) (u : Value) : Keep S a (w.setCell ⟨g, o, none⟩ u) :=
  h.setCell (fun e => absurd e (Nat.not_lt.2 hg)) u
theorem Reads.oneAt {w : World} {u : Value} {T : TypeId} {g : Nat} (hg : g = w.heap.size) : Reads (w.alloc (.cells #[u] T)) 1 (.slice (some ⟨g, 0, none⟩) 1 1) 1 [u] := by
  subst hg; exact Reads.one _ _ _
theorem Row.setOther {w : World} {e : TypeId} {size : Nat} {v : Value} {n : Nat} {xs : List Value} (h : Row w e size v n xs) {g : Nat} (hg : v.ownBlock ≠ some g) (o : Nat) (u : Value) : Row (w.setCell ⟨g, o, none⟩ u) e size v n xs :=
  h.keep (Keep.one w g o u) (fun i hi e => hg (by rw [hi, e]))
set_option maxRecDepth 100000 in
set_option maxHeartbeats 8000000 in
theorem modes_spec (relaxed : Bool) (s : Value) (l : List (Nat × Nat)) (w : World) (hs : Reads w 2 s l.length ((l.map castM).flatMap two)) (hm : l.length ≤ 1000) (hv : ∀ m ∈ l, 1 ≤ m.1 ∧ m.1 ≤ 5 ∧ m.2 ≤ 2) :
    Calls Try.prog 23 #[.bool relaxed, s] w fun e w' => ∃ v', e = .returned (.tuple #[v', .agg #[.int .i64 (modesTo relaxed.toNat l).2.1, .int .i64 (modesTo relaxed.toNat l).2.2]]) ∧
      Row w' 4 1 v' l.length (Bs (modesTo relaxed.toNat l).1) ∧ Keep Non w w' := by
  obtain ⟨aa, ca, rfl⟩ := hs.slice
  obtain ⟨pol, hpol⟩ : ∃ pol, relaxed.toNat = pol := ⟨_, rfl⟩
  rw [hpol]
  have HP := Lib.hid hpol
  clear hpol
  go_enter Try.func23, Try.ntmps23
  go_wp2
  go_loopw [6, 14] (fun v i wr => ∃ k : Nat, k ≤ l.length ∧ i = .int .i64 k ∧ Row wr 4 1 v k (Bs (modesTo pol (l.take k)).1) ∧
      Blk wr (w.heap.size + 1 + 1) (two (castM (modesTo pol (l.take k)).2)) 42 ∧ Blk wr w.heap.size [.int .i64 0, .int .i64 0] 42 ∧ Keep Non w wr ∧ (∀ g, v.ownBlock = some g → w.heap.size + 1 ≤ g) ∧ (0 < k → 1 ≤ (modesTo pol (l.take k)).2.1)) (fun _ i _ => l.length - (intOf i).toNat)
  case atStart =>
    have e1 : (w.alloc (.cells #[.int .i64 0, .int .i64 0] 42)).heap.size = w.heap.size + 1 := by simp
    have e2 : ((w.alloc (.cells #[.int .i64 0, .int .i64 0] 42)).alloc (.cells #[] 4)).heap.size = w.heap.size + 1 + 1 := by simp
    refine ⟨0, by omega, rfl, ?_, ?_, ((Blk.new w [.int .i64 0, .int .i64 0] _).alloc _).alloc _, (((Keep.refl _ _).alloc _).alloc _).alloc _, fun g h => by simp [Value.ownBlock] at h; omega, fun h => absurd h (by omega)⟩
    · have := (Row.lit (w.alloc (.cells #[.int .i64 0, .int .i64 0] 42)) 4 1 [] 0 (by decide) rfl).alloc (.cells #[.int .i64 0, .int .i64 0] 42)
      rw [e1] at this
      exact this
    · have := Blk.new ((w.alloc (.cells #[.int .i64 0, .int .i64 0] 42)).alloc (.cells #[] 4)) [.int .i64 0, .int .i64 0] 42
      rw [e2] at this
      exact this
  case round =>
    obtain ⟨k, hk, rfl, hr, hb, hb0, hkp, hl, hpos⟩ := hrel
    by_cases hlt : k < l.length
    · obtain ⟨ba, offa, ca', hva, hca⟩ := hs.at (by omega) (by omega)
      cases hva
      obtain ⟨c0, c1⟩ := twoN_at hca hlt
      have c0' := hkp.cell c0 (fun h => h)
      have c1' := hkp.cell c1 (fun h => h)
      obtain ⟨v1, v2, v3⟩ := hv _ (List.getElem_mem hlt)
      have hsn := modesTo_snoc pol hlt
      have hn2 : u6.ownBlock ≠ some (w.heap.size + 1 + 1) := fun h => hr.neBlk hb (by decide) h
      obtain ⟨st, hst⟩ : ∃ st, st = modesTo pol (l.take k) := ⟨_, rfl⟩
      rw [← hst] at hr hb hpos hsn
      have HL := Lib.hid hl
      have HS := Lib.hid hsn
      have HN := Lib.hid hn2
      have HK0 := Lib.hid (show k = 0 → st = ([], 0, 0) from fun h => by rw [hst, h]; simp [modesTo])
      clear hl hca c0 c1 hst hsn hn2
      obtain ⟨told, cm, cg⟩ := st
      have d0 : wr.cell? ⟨w.heap.size + 1 + 1, 0, none⟩ = some (.int .i64 (cm : Int)) := by rw [hb.cell]; rfl
      have d1 : wr.cell? ⟨w.heap.size + 1 + 1, 1, none⟩ = some (.int .i64 (cg : Int)) := by rw [hb.cell]; rfl
      have g0 := hb.free 0
      have g1 := hb.free 1
      have z2 : w.heap.size + 1 + 1 < wr.heap.size := hb.lt
      have FIN : ∀ (W w1 : World) (v' u : Value) (b : Bool) (cm' cg' : Nat), Keep Non w W → w.heap.size + 1 + 1 < W.heap.size → Blk W (w.heap.size + 1 + 1) (two (castM (cm', cg'))) 42 → Blk W w.heap.size [.int .i64 0, .int .i64 0] 42 →
          Row w1 4 1 v' (k + 1) (Bs told ++ [.bool b]) → Grew (W.alloc (.cells #[u] 4)) w1 u6 v' → setm cm cg pol l[k].1 l[k].2 = (b, cm', cg') → 1 ≤ cm' →
          Row w1 4 1 v' (k + 1) (Bs (modesTo pol (l.take (k + 1))).1) ∧ Blk w1 (w.heap.size + 1 + 1) (two (castM (modesTo pol (l.take (k + 1))).2)) 42 ∧ Blk w1 w.heap.size [.int .i64 0, .int .i64 0] 42 ∧ Keep Non w w1 ∧
            (∀ g, v'.ownBlock = some g → w.heap.size + 1 ≤ g) ∧ (0 < k + 1 → 1 ≤ (modesTo pol (l.take (k + 1))).2.1) := by
        intro W w1 v' u b cm' cg' hkW hsW hbW hb0W hr1 hg1 hset hpos'
        rw [HS.out]
        simp only [modeStep, hset, Bs_append]
        have hkW2 := hkW.size
        refine ⟨hr1, (hbW.alloc _).keep hg1.keep (fun h => HN.out h), (hb0W.alloc _).keep hg1.keep (fun h => by have := HL.out _ h; omega), (hkW.alloc _).trans hg1.keep (fun i hi h => by have := HL.out i h; omega), fun g hg => ?_, fun _ => hpos'⟩
        rcases hg1.lies hg with h | h
        · exact HL.out g h
        · simp at h; omega
      have HF := Lib.hid FIN
      clear FIN
      have HKP := Lib.hid hkp
      have HB := Lib.hid hb
      have HB0 := Lib.hid hb0
      have hz0 : w.heap.size ≠ w.heap.size + 1 + 1 := by omega
      have HZ0 := Lib.hid hz0
      clear hkp hb hb0 hz0
      generalize l[k] = x at *
      obtain ⟨x1, x2⟩ := x
      simp only [] at v1 v2 v3 c0' c1'
      by_cases hk0 : k = 0
      · have t0 : ((k : Int) == 0) = true := by simp; omega
        have HZ := Lib.hid hk0
        clear hpos hk0
        go_wp2_with (at_builtin; go_must (refine wpList_app (n := k) (m := 1) sliceBool rfl _ _ rfl rfl ((((hr.setOther HN.out _ _).setOther HN.out _ _).alloc _).alloc _) rfl (Reads.oneAt (by simp [World.setCell])) (bool_one _) (by unfold maxLen; omega) (by omega) ?_); intro v' w1 hr1 hg1 hn1)
        have e := HK0.out HZ.out
        simp only [Prod.mk.injEq] at e
        obtain ⟨rfl, rfl, rfl⟩ := e
        have R := HF.out _ w1 v' _ true x1 x2 (((HKP.out.setNew (by omega) _ _).setNew (by omega) _ _).alloc _) (by simp [World.setCell]; omega) (((HB.out.set 0 _).set 1 _).alloc _) (((HB0.out.setOther HZ0.out _).setOther HZ0.out _).alloc _) hr1 hg1 (by simp [setm]) v1
        go_roundw
        case measure => simp [intOf]; omega
        case rel => exact ⟨k + 1, by omega, by go_num, R.1, R.2.1, R.2.2.1, R.2.2.2.1, R.2.2.2.2.1, R.2.2.2.2.2⟩
      · have t0 : ((k : Int) == 0) = false := by simp; omega
        have hpos' : 1 ≤ cm := hpos (by omega)
        have HZ := Lib.hid hk0
        clear hpos hk0
        by_cases e2 : cg = x2
        · have t1 : ((x2 : Int) != (cg : Int)) = false := by simp; omega
          by_cases e1 : cm = x1
          · have t2 : ((x1 : Int) != (cm : Int)) = false := by simp; omega
            have t3 : ¬ ((cm : Int) < (x1 : Int)) := by omega
            have E1 := Lib.hid e1
            have E2 := Lib.hid e2
            clear e1 e2
            go_wp2_with (at_builtin; go_must (refine wpList_app (n := k) (m := 1) sliceBool rfl _ _ rfl rfl ((hr.alloc _).alloc _) rfl (Reads.oneAt (by simp)) (bool_one _) (by unfold maxLen; omega) (by omega) ?_); intro v' w1 hr1 hg1 hn1)
            have R := HF.out _ w1 v' _ true cm cg (HKP.out.alloc _) (by simp; omega) (HB.out.alloc _) (HB0.out.alloc _) hr1 hg1 (by unfold setm; rw [if_neg (by omega), if_neg (by simp [E2.out]), if_pos E1.out]) (hpos')
            go_roundw
            case measure => simp [intOf]; omega
            case rel => exact ⟨k + 1, by omega, by go_num, R.1, R.2.1, R.2.2.1, R.2.2.2.1, R.2.2.2.2.1, R.2.2.2.2.2⟩
          · have t2 : ((x1 : Int) != (cm : Int)) = true := by simp; omega
            have E1 := Lib.hid e1
            have E2 := Lib.hid e2
            clear e1 e2
            cases relaxed with
            | false =>
              go_wp2_with (at_builtin; go_must (refine wpList_app (n := k) (m := 1) sliceBool rfl _ _ rfl rfl ((hr.alloc _).alloc _) rfl (Reads.oneAt (by simp)) (bool_one _) (by unfold maxLen; omega) (by omega) ?_); intro v' w1 hr1 hg1 hn1)
              have R := HF.out _ w1 v' _ false cm cg (HKP.out.alloc _) (by simp; omega) (HB.out.alloc _) (HB0.out.alloc _) hr1 hg1 (by unfold setm; rw [if_neg (by omega), if_neg (by simp [E2.out]), if_neg E1.out, if_pos (by simpa using HP.out.symm)]) (hpos')
              go_roundw
              case measure => simp [intOf]; omega
              case rel => exact ⟨k + 1, by omega, by go_num, R.1, R.2.1, R.2.2.1, R.2.2.2.1, R.2.2.2.2.1, R.2.2.2.2.2⟩
            | true =>
              by_cases e3 : cm < x1
              · have t3 : ((cm : Int) < (x1 : Int)) := by omega
                have E3 := Lib.hid e3
                clear e3
                go_wp2_with (at_builtin; go_must (refine wpList_app (n := k) (m := 1) sliceBool rfl _ _ rfl rfl ((hr.setOther HN.out _ _).alloc _ |>.alloc _) rfl (Reads.oneAt (by simp [World.setCell])) (bool_one _) (by unfold maxLen; omega) (by omega) ?_); intro v' w1 hr1 hg1 hn1)
                have R := HF.out _ w1 v' _ true x1 cg ((HKP.out.setNew (by omega) _ _).alloc _) (by simp [World.setCell]; omega) ((HB.out.set 0 _).alloc _) ((HB0.out.setOther HZ0.out _).alloc _) hr1 hg1 (by unfold setm; rw [if_neg (by omega), if_neg (by simp [E2.out]), if_neg E1.out, if_neg (by rw [← HP.out]; decide), if_pos E3.out]) (by omega)
                go_roundw
                case measure => simp [intOf]; omega
                case rel => exact ⟨k + 1, by omega, by go_num, R.1, R.2.1, R.2.2.1, R.2.2.2.1, R.2.2.2.2.1, R.2.2.2.2.2⟩
              · have t3 : ¬ ((cm : Int) < (x1 : Int)) := by omega
                have E3 := Lib.hid e3
                clear e3
                go_wp2_with (at_builtin; go_must (refine wpList_app (n := k) (m := 1) sliceBool rfl _ _ rfl rfl ((hr.alloc _).alloc _) rfl (Reads.oneAt (by simp)) (bool_one _) (by unfold maxLen; omega) (by omega) ?_); intro v' w1 hr1 hg1 hn1)
                have R := HF.out _ w1 v' _ true cm cg (HKP.out.alloc _) (by simp; omega) (HB.out.alloc _) (HB0.out.alloc _) hr1 hg1 (by unfold setm; rw [if_neg (by omega), if_neg (by simp [E2.out]), if_neg E1.out, if_neg (by rw [← HP.out]; decide), if_neg E3.out]) (hpos')
                go_roundw
                case measure => simp [intOf]; omega
                case rel => exact ⟨k + 1, by omega, by go_num, R.1, R.2.1, R.2.2.1, R.2.2.2.1, R.2.2.2.2.1, R.2.2.2.2.2⟩
        · have t1 : ((x2 : Int) != (cg : Int)) = true := by simp; omega
          have E2 := Lib.hid e2
          clear e2
          go_wp2_with (at_builtin; go_must (refine wpList_app (n := k) (m := 1) sliceBool rfl _ _ rfl rfl ((hr.alloc _).alloc _) rfl (Reads.oneAt (by simp)) (bool_one _) (by unfold maxLen; omega) (by omega) ?_); intro v' w1 hr1 hg1 hn1)
          have R := HF.out _ w1 v' _ false cm cg (HKP.out.alloc _) (by simp; omega) (HB.out.alloc _) (HB0.out.alloc _) hr1 hg1 (by unfold setm; rw [if_neg (by omega), if_pos E2.out]) (hpos')
          go_roundw
          case measure => simp [intOf]; omega
          case rel => exact ⟨k + 1, by omega, by go_num, R.1, R.2.1, R.2.2.1, R.2.2.2.1, R.2.2.2.2.1, R.2.2.2.2.2⟩
    · have hkl : k = l.length := by omega
      subst hkl
      rw [List.take_of_length_le (Nat.le_refl _)] at hr hb
      obtain ⟨st, hst⟩ : ∃ st, st = modesTo pol l := ⟨_, rfl⟩
      rw [← hst] at hr hb
      have HST := Lib.hid hst
      have d0 : wr.cell? ⟨w.heap.size + 1 + 1, 0, none⟩ = some (.int .i64 (st.2.1 : Int)) := by rw [hb.cell]; rfl
      have d1 : wr.cell? ⟨w.heap.size + 1 + 1, 1, none⟩ = some (.int .i64 (st.2.2 : Int)) := by rw [hb.cell]; rfl
      have e0 : wr.cell? ⟨w.heap.size, 0, none⟩ = some (.int .i64 0) := by rw [hb0.cell]; rfl
      have e1 : wr.cell? ⟨w.heap.size, 1, none⟩ = some (.int .i64 0) := by rw [hb0.cell]; rfl
      have f0 := hb0.free 0
      have f1 := hb0.free 1
      have HL := Lib.hid hl
      clear hl hst hpos
      go_wp2
      go_region
      all_goals go_wp2
      all_goals
        refine bodyPost_ret (v := .tuple #[u6, .agg #[.int .i64 st.2.1, .int .i64 st.2.2]]) (by simp [results, Try.results23, go_sem, e0, e1]) rfl ⟨u6, by rw [← HST.out], ?_, ?_⟩
        · rw [← HST.out]
          exact hr.keep (Keep.drew (((Keep.refl (At w.heap.size) wr).setAt _ 0 _ (atSelf _)).setAt _ 1 _ (atSelf _))) (fun g hg e => by have := HL.out g hg; unfold At at e; omega)
        · exact ((hkp.setNew (Nat.le_refl _) _ _).setNew (Nat.le_refl _) _ _).drew
end Go.Proofs.Ytfcdedcffmpjjaa
