/-
  THE CONTRACT of a builder's AddFunc.
-/
import Derived.Test.YtbmidlaakbpnlaaDoorMe4
import Derived.Deep.RegionLaw
namespace Go.Proofs.YtbmidlaakbpnlaaDoor
open Go.RowKit
open Go.ChangeShapes Go.WideShapes Go.ChangeAt Go.Deep
open Plain (M64)

/-- A function's bytes. -/
def encF (all : List ByteArray) (d : Dsc) : List UInt8 :=
  uleb d.units.length ++ uleb (place all d.name) ++ uleb (place (added all d.name) d.file) ++ d.units.flatMap Ut.ulebs ++ uleb (litN d.lit)
/-- AppendUleb128 onto scratch. -/
def UlP (bb n c : Nat) (pre : List UInt8) (x : Nat) (w : World) (e : Ending) (w' : World) : Prop :=
  ∃ vb vn vc, e = .returned (.slice (some ⟨vb, 0, none⟩) vn vc) ∧ Row w' 5 1 (.slice (some ⟨vb, 0, none⟩) vn vc) vn (B (pre ++ uleb x)) ∧ Keep (Own (.slice (some ⟨bb, 0, none⟩) n c)) w w' ∧ (∀ b, (Value.slice (some ⟨vb, 0, none⟩) vn vc).ownBlock = some b → (Value.slice (some ⟨bb, 0, none⟩) n c).ownBlock = some b ∨ w.heap.size ≤ b)
theorem ulebP (bb n c : Nat) (pre : List UInt8) (x : Nat) (w : World) (hx : x < M64) (hown : Row w 5 1 (.slice (some ⟨bb, 0, none⟩) n c) n (B pre)) (hn : pre.length ≤ 1000000) : Calls Tryd.prog 30 #[.slice (some ⟨bb, 0, none⟩) n c, .int .u64 x] w (UlP bb n c pre x w) := by
  have hl := hown.len
  rw [B_length] at hl
  refine (appendUleb _ n pre x w hx hown (by omega)).mono ?_
  rintro e w' ⟨v', rfl, r, k, l⟩
  obtain ⟨vb, vc, rfl⟩ := r.at (by have := List.length_pos_iff.2 (uleb_ne x); omega)
  exact ⟨vb, _, vc, rfl, r, k, l⟩
/-- A builder, somewhere on the way; pre: the scratch. -/
def AF (Q : Nat → Prop) (w0 wx : World) (g gh mb : Nat) (tm fv : Value) (p q m : Nat) (all : List ByteArray) (h : Nat × Nat) (E : List (Value × List UInt8)) (pre : List UInt8) : Prop :=
  ∃ st vb vn vc, Bd Q wx g gh mb st tm fv (.slice (some ⟨vb, 0, none⟩) vn vc) vn (B pre) p q m all h E ∧ Keep Q w0 wx
def fcells (d : Dsc) (uv : Value) : Array Value := #[.string d.name, .string d.file, uv, .bool d.lit]
theorem sliceFD : SliceT Tryd.prog 85 93 (.agg #[.slice none 0 0]) 1 24 := ⟨Tryd.underlying85, by kernel_rfl, rfl, by decide⟩
theorem slc_one (a : Option Addr) (n c : Nat) : ∀ u ∈ [Value.slice a n c], u.oneCell' = true := by
  intro u hu
  simp at hu
  subst hu; rfl
theorem Ut.ulebs_five (u : Ut) : u.ulebs = uleb u.sl ++ uleb u.sc ++ uleb u.el ++ uleb u.ec ++ uleb u.ns := rfl
theorem ulebs_len (l : List Ut) (hf : ∀ u ∈ l, u.fit) : ∀ k, ((l.take k).flatMap Ut.ulebs).length ≤ 50 * k
  | 0 => by simp
  | k + 1 => by
    have ih := ulebs_len l hf k
    by_cases hk : k < l.length
    · obtain ⟨a, b, c, d, e⟩ := hf _ (List.getElem_mem hk)
      have u1 := uleb_len64 (v := l[k].sl) (by unfold M64; omega)
      have u2 := uleb_len64 (v := l[k].sc) (by unfold M64; omega)
      have u3 := uleb_len64 (v := l[k].el) (by unfold M64; omega)
      have u4 := uleb_len64 (v := l[k].ec) (by unfold M64; omega)
      have u5 := uleb_len64 (v := l[k].ns) (by unfold M64; omega)
      rw [units_snoc hk, List.length_append, Ut.ulebs_five]
      simp only [List.length_append]
      omega
    · have e1 : l.take (k + 1) = l.take k := by rw [List.take_of_length_le (by omega), List.take_of_length_le (by omega)]
      rw [e1]; omega
/-- Behind AddFunc. -/
def AddPost (Q : Nat → Prop) (g gh mb : Nat) (tm : Value) (p q m : Nat) (all : List ByteArray) (h : Nat × Nat) (E : List (Value × List UInt8)) (d : Dsc) (w : World) (e : Ending) (w' : World) : Prop :=
  e = .returned (.int .u64 E.length) ∧ Keep Q w w' ∧ ∃ st fv vb vn vc ys ev, Bd Q w' g gh mb st tm fv (.slice (some ⟨vb, 0, none⟩) vn vc) vn ys p q m (added (added all d.name) d.file) (fnvs h d.hash) (E ++ [(ev, encF all d)]) ∧ 4 ≤ vc
set_option maxRecDepth 100000 in
set_option maxHeartbeats 8000000 in
theorem addFunc (Q0 : Nat → Prop) (g gh mb : Nat) (st tm fv : Value) (bb n c : Nat) (xs : List Value) (p q m : Nat) (all : List ByteArray) (h : Nat × Nat) (E : List (Value × List UInt8)) (d : Dsc) (uv : Value) (w : World)
    (H0 : Bd Q0 w g gh mb st tm fv (.slice (some ⟨bb, 0, none⟩) n c) n xs p q m all h E) (hc : 4 ≤ c) (hu0 : Row w 61 6 uv d.units.length (d.units.flatMap Ut.cells6)) (hfit : ∀ u ∈ d.units, u.fit)
    (hn : d.name.size ≤ 1000) (hfl : d.file.size ≤ 1000) (hul : d.units.length ≤ 1000) (hal : all.length ≤ 900) (hEl : E.length ≤ 900) :
    Calls Tryd.prog 15 #[.pointer (some ⟨g, 0, none⟩), .agg #[.string d.name, .string d.file, uv, .bool d.lit]] w (AddPost Q0 g gh mb tm p q m all h E d w) := by
  obtain ⟨fa, fc, rfl⟩ := H0.fns.reads.slice
  -- what must stay: the description and its pieces
  obtain ⟨W1, hW1⟩ : ∃ W1, W1 = w.alloc (.cells #[.string d.name, .string d.file, uv, .bool d.lit] 59) := ⟨_, rfl⟩
  have k1 : Keep Non w W1 := by rw [hW1]; exact (Keep.refl _ _).alloc _
  have z1 : W1.heap.size = w.heap.size + 1 := by rw [hW1]; simp
  have hf1 : Blk W1 w.heap.size [.string d.name, .string d.file, uv, .bool d.lit] 59 := by rw [hW1]; exact Blk.new w [.string d.name, .string d.file, uv, .bool d.lit] _
  have hu1 := hu0.keep k1 (fun _ _ h => h)
  have hB1 : Bd (fun i => Q0 i ∧ i ≠ w.heap.size ∧ uv.ownBlock ≠ some i) W1 g gh mb st tm (.slice fa E.length fc) (.slice (some ⟨bb, 0, none⟩) n c) n xs p q m all h E := by
    refine (H0.far k1).narrow (fun i hi => ⟨H0.ok i hi, ?_, fun e => ?_⟩) (fun i hi => ⟨(H0.far k1).fresh i hi, by omega, fun e => ?_⟩)
    · have := H0.lt hi; omega
    · have hk := hu0.kd e
      rcases H0.kd hi with h | h | h | h | h | h <;> exact kd_false hk h (by decide)
    · have := hu1.lt e; omega
  obtain ⟨Q, hQ⟩ : ∃ Q : Nat → Prop, Q = fun i => Q0 i ∧ i ≠ w.heap.size ∧ uv.ownBlock ≠ some i := ⟨_, rfl⟩
  rw [← hQ] at hB1
  have hQ1 : ∀ i, Q i → Q0 i := fun i hi => by rw [hQ] at hi; exact hi.1
  have hQ2 : ¬ Q w.heap.size := fun hi => by rw [hQ] at hi; exact hi.2.1 rfl
  have hQ3 : ∀ b, uv.ownBlock = some b → ¬ Q b := fun b hb hi => by rw [hQ] at hi; exact hi.2.2 hb
  obtain ⟨ua, uc, huv⟩ := hu0.reads.slice
  subst huv
  have HF1 := Lib.hid hf1
  have HU1 := Lib.hid hu1
  have HB1 := Lib.hid hB1
  have HQ1 := Lib.hid hQ1
  have HQ2 := Lib.hid hQ2
  have HQ3 := Lib.hid hQ3
  have HZ1 := Lib.hid z1
  have HK1 := Lib.hid k1
  have HFIT := Lib.hid hfit
  have HH0 := Lib.hid H0
  have x5 : W1.cell? ⟨g, 5, none⟩ = some (.slice (some ⟨bb, 0, none⟩) n c) := hB1.cell 1
  have x6 : W1.cell? ⟨g, 6, none⟩ = some (.pointer (some ⟨gh, 0, none⟩)) := hB1.cell 2
  have hHS := Lib.hid ((hB1.hs hc).far (Keep.refl _ _).drew)
  have hgz := hB1.tab.blk.lt
  have HNE : Hid (∀ b, (Value.slice ua d.units.length uc).ownBlock = some b → b ≠ gh ∧ b ≠ bb) := Lib.hid (fun b hb => ⟨fun e => kd_false (hu1.kd hb) (kd_at e hB1.hash.kd) (by decide), fun e => kd_false (hu1.kd hb) (kd_at e (hB1.row.kd rfl)) (by decide)⟩)
  rw [hW1] at x5 x6 hgz
  clear hf1 hu1 hB1 hQ1 hQ2 hQ3 z1 k1 hfit H0 hu0 hQ
  go_enter Tryd.func15, Tryd.ntmps15
  go_upto_region 1 with (fail)
  rw [← hW1]
  rw [← hW1] at x5 x6 hgz
  clear hW1
  go_cut [3] from 10 to 18 (fun v wx => v = .pointer (some ⟨w.heap.size, 0, none⟩) ∧ HS wx gh bb n c (fnvs h d.hash) ∧ Keep (fun i => i = gh ∨ i = bb) W1 wx)
  case first =>
    go_region_law (go_simp; go_at_call 29; go_must (refine (hashDesc gh bb n c w.heap.size h d (.slice ua d.units.length uc) _ hHS.out HF1.out.drew HU1.out.reads.drew HFIT.out HNE.out hn hfl hul).mono ?_); rintro e w2 ⟨rfl, s2, k2⟩)
    all_goals
      go_wp2_with fail
      go_meet
      case rel => exact ⟨rfl, s2, k2.undrew⟩
  case rest =>
    obtain ⟨rfl, s2, k2⟩ := hcut
    obtain ⟨⟨ys2, b2⟩, q2⟩ := HB1.out.hashed s2 k2
    obtain ⟨h2, hh2⟩ : ∃ h2, h2 = fnvs h d.hash := ⟨_, rfl⟩
    rw [← hh2] at b2
    have y5 : wc.cell? ⟨g, 5, none⟩ = some (.slice (some ⟨bb, 0, none⟩) n c) := b2.cell 1
    have f5 := b2.tab.blk.free 5
    have hgz2 := b2.tab.blk.lt
    have hzc := q2.size
    obtain ⟨gd, hgd⟩ : ∃ gd, gd = wc.heap.size := ⟨_, rfl⟩
    obtain ⟨tb3, b3, q3⟩ := b2.laid (Keep.refl _ _) rfl b2.row.zero (fun b hb => .inl hb)
    have b4 := b3.far ((Keep.refl Non _).alloc (.cells #[.slice none 0 0] 93))
    have q4 : Keep Q W1 ((wc.setCell ⟨g, 5, none⟩ (.slice (some ⟨bb, 0, none⟩) 0 c)).alloc (.cells #[.slice none 0 0] 93)) := (q2.trans' q3).alloc _
    have hd4 : Blk ((wc.setCell ⟨g, 5, none⟩ (.slice (some ⟨bb, 0, none⟩) 0 c)).alloc (.cells #[.slice none 0 0] 93)) gd [.slice none 0 0] 93 := by
      have := Blk.new (wc.setCell ⟨g, 5, none⟩ (.slice (some ⟨bb, 0, none⟩) 0 c)) [.slice none 0 0] 93
      rw [show (wc.setCell ⟨g, 5, none⟩ (.slice (some ⟨bb, 0, none⟩) 0 c)).heap.size = gd by rw [hgd]; simp] at this
      exact this
    have hlt3 : ∀ i, BdF g gh mb st tm (.slice fa E.length fc) (.slice (some ⟨bb, 0, none⟩) 0 c) E i → i < gd := fun i hi => by
      have := b3.lt hi
      simp at this; omega
    have b5 := b4.narrow (Q' := fun i => Q i ∧ i ≠ gd) (fun i hi => ⟨b4.ok i hi, by have := hlt3 i hi; omega⟩) (fun i hi => ⟨b4.fresh i hi, by simp at hi; omega⟩)
    obtain ⟨Q2, hQ2'⟩ : ∃ Q2 : Nat → Prop, Q2 = fun i => Q i ∧ i ≠ gd := ⟨_, rfl⟩
    rw [← hQ2'] at b5
    have HQ21 : Hid (∀ i, Q2 i → Q i) := Lib.hid (fun i hi => by rw [hQ2'] at hi; exact hi.1)
    have HQ22 : Hid (¬ Q2 gd) := Lib.hid (fun hi => by rw [hQ2'] at hi; exact hi.2 rfl)
    have HHD := Lib.hid hd4
    have HB5 := Lib.hid b5
    have HQ4 := Lib.hid q4
    have HGD : Hid (W1.heap.size ≤ gd) := Lib.hid (by omega)
    have HH2 := Lib.hid hh2
    have z2 : ((wc.setCell ⟨g, 5, none⟩ (.slice (some ⟨bb, 0, none⟩) 0 c)).alloc (.cells #[.slice none 0 0] 93)).cell? ⟨w.heap.size, 2, none⟩ = some (.slice ua d.units.length uc) := by
      rw [(HF1.out.keep q4 HQ2.out).cell]; rfl
    have HZ2 := Lib.hid z2
    clear s2 k2 b2 q2 hh2 tb3 b3 q3 b4 q4 hd4 hlt3 b5 hQ2' x5 x6 hgz hHS z2
    go_upto_region 4 with (fail)
    rw [← hgd]
    clear hgd hzc hgz2 f5 y5
    generalize (wc.setCell ⟨g, 5, none⟩ (.slice (some ⟨bb, 0, none⟩) 0 c)).alloc (.cells #[.slice none 0 0] 93) = V4 at *
    have HK4 := Lib.hid (Keep.refl Q2 V4)
    have hxU : d.units.length < M64 := by unfold M64; omega
    have hwU : IntKind.u64.wrap (d.units.length : Int) = (d.units.length : Int) := Plain.wrap_u64 _ (by omega) (by unfold M64; omega)
    have z2 := HZ2.out
    have hp1 := place_le all d.name
    have ha1 := added_length all d.name
    have hp2 := place_le (added all d.name) d.file
    have ha2 := added_length (added all d.name) d.file
    have hxN : place all d.name < M64 := by unfold M64; omega
    have hxF : place (added all d.name) d.file < M64 := by unfold M64; omega
    have hwN : IntKind.u64.wrap (place all d.name : Int) = (place all d.name : Int) := Plain.wrap_u64 _ (by omega) (by unfold M64; omega)
    have hwF : IntKind.u64.wrap (place (added all d.name) d.file : Int) = (place (added all d.name) d.file : Int) := Plain.wrap_u64 _ (by omega) (by unfold M64; omega)
    have hlU := uleb_len64 hxU
    have hlN := uleb_len64 hxN
    have hlF := uleb_len64 hxF
    have c5A : V4.cell? ⟨g, 5, none⟩ = some (.slice (some ⟨bb, 0, none⟩) 0 c) := HB5.out.cell 1
    have hzA := HB5.out.tab.blk.lt
    go_cut [] from 28 to 39 (fun wx => ∃ vb vn vc, Bd Q2 wx g gh mb st tm (.slice fa E.length fc) (.slice (some ⟨vb, 0, none⟩) vn vc) vn (B ([] ++ uleb d.units.length)) p q m all h2 E ∧ Keep Q2 V4 wx)
    case first =>
      go_region_law (go_simp; go_at_call 30; go_must (refine (ulebP bb 0 c ([]) d.units.length _ hxU HB5.out.row.drew (by simp)).mono ?_); rintro e w2 ⟨vb, vn, vc, rfl, r2, k2, l2⟩; obtain ⟨t2, t3, q3⟩ := HB5.out.drew.laid k2 rfl r2 l2; have d5 : w2.cell? ⟨g, 5, none⟩ = some (.slice (some ⟨bb, 0, none⟩) 0 c) := (by rw [t2.cell]; rfl); have y5 := t2.free 5)
      all_goals
        go_wp2_with fail
        go_meet
        case rel => exact ⟨vb, vn, vc, t3, HK4.out.trans' q3.undrew⟩
    case rest =>
      obtain ⟨bA, nA, cA, bdA, kkA⟩ := hcut
      have HBA := Lib.hid bdA
      have HKA := Lib.hid kkA
      clear bdA kkA c5A hzA
      have z0 : wc.cell? ⟨w.heap.size, 0, none⟩ = some (.string d.name) := by rw [(HF1.out.keep (HQ4.out.trans' (HKA.out.mono (fun i _ e => HQ21.out i e))) HQ2.out).cell]; rfl
      have c5B : wc.cell? ⟨g, 5, none⟩ = some (.slice (some ⟨bA, 0, none⟩) nA cA) := HBA.out.cell 1
      have hzB := HBA.out.tab.blk.lt
      go_upto_region 5 with (fail)
      go_cut [] from 40 to 54 (fun wx => ∃ st' vb vn vc, Bd Q2 wx g gh mb st' tm (.slice fa E.length fc) (.slice (some ⟨vb, 0, none⟩) vn vc) vn (B (([] ++ uleb d.units.length) ++ uleb (place all d.name))) p q m (added all d.name) h2 E ∧ Keep Q2 V4 wx)
      case first =>
        go_region_law (first
          | (go_simp; (go_at_call 27; go_must (refine (lookup g _ _ mb st tm false all d.name _ HBA.out.drew.tab (by decide) (by decide) (by omega) hn (.inl rfl)).mono ?_); rintro e w2 ⟨st', rfl, t2, k2, l2⟩; obtain ⟨b2, q2⟩ := HBA.out.drew.look t2 k2 l2; have z5 : w2.cell? ⟨g, 5, none⟩ = some (.slice (some ⟨bA, 0, none⟩) nA cA) := b2.cell 1; have hz2 := b2.tab.blk.lt))
          | (go_simp; (go_at_call 30; go_must (refine (ulebP bA nA cA (([] ++ uleb d.units.length)) (place all d.name) _ hxN b2.row (by simp; omega)).mono ?_); rintro e w4 ⟨vb, vn, vc, rfl, r4, k4, l4⟩; obtain ⟨t4, t5, q5⟩ := b2.laid k4 rfl r4 l4; have d5 : w4.cell? ⟨g, 5, none⟩ = some (.slice (some ⟨bA, 0, none⟩) nA cA) := (by rw [t4.cell]; rfl); have y5 := t4.free 5)))
        all_goals
          go_wp2_with fail
          go_meet
          case rel => exact ⟨st', vb, vn, vc, t5, HKA.out.trans' (q2.undrew.trans' q5)⟩
      case rest =>
        obtain ⟨stB, bB, nB, cB, bdB, kkB⟩ := hcut
        have HBB := Lib.hid bdB
        have HKB := Lib.hid kkB
        clear bdB kkB c5B hzB
        have z1 : wc.cell? ⟨w.heap.size, 1, none⟩ = some (.string d.file) := by rw [(HF1.out.keep (HQ4.out.trans' (HKB.out.mono (fun i _ e => HQ21.out i e))) HQ2.out).cell]; rfl
        clear z0 HKA HBA
        have c5C : wc.cell? ⟨g, 5, none⟩ = some (.slice (some ⟨bB, 0, none⟩) nB cB) := HBB.out.cell 1
        have hzC := HBB.out.tab.blk.lt
        go_upto_region 6 with (fail)
        go_cut [] from 55 to 69 (fun wx => ∃ st' vb vn vc, Bd Q2 wx g gh mb st' tm (.slice fa E.length fc) (.slice (some ⟨vb, 0, none⟩) vn vc) vn (B (([] ++ uleb d.units.length ++ uleb (place all d.name)) ++ uleb (place (added all d.name) d.file))) p q m (added (added all d.name) d.file) h2 E ∧ Keep Q2 V4 wx)
        case first =>
          go_region_law (first
            | (go_simp; (go_at_call 27; go_must (refine (lookup g _ _ mb stB tm false (added all d.name) d.file _ HBB.out.drew.tab (by decide) (by decide) (by omega) hfl (.inl rfl)).mono ?_); rintro e w2 ⟨st', rfl, t2, k2, l2⟩; obtain ⟨b2, q2⟩ := HBB.out.drew.look t2 k2 l2; have z5 : w2.cell? ⟨g, 5, none⟩ = some (.slice (some ⟨bB, 0, none⟩) nB cB) := b2.cell 1; have hz2 := b2.tab.blk.lt))
            | (go_simp; (go_at_call 30; go_must (refine (ulebP bB nB cB (([] ++ uleb d.units.length ++ uleb (place all d.name))) (place (added all d.name) d.file) _ hxF b2.row (by simp; omega)).mono ?_); rintro e w4 ⟨vb, vn, vc, rfl, r4, k4, l4⟩; obtain ⟨t4, t5, q5⟩ := b2.laid k4 rfl r4 l4; have d5 : w4.cell? ⟨g, 5, none⟩ = some (.slice (some ⟨bB, 0, none⟩) nB cB) := (by rw [t4.cell]; rfl); have y5 := t4.free 5)))
          all_goals
            go_wp2_with fail
            go_meet
            case rel => exact ⟨st', vb, vn, vc, t5, HKB.out.trans' (q2.undrew.trans' q5)⟩
        case rest =>
          obtain ⟨stC, bC, nC, cC, bdC, kkC⟩ := hcut
          have HBC := Lib.hid bdC
          have HKC := Lib.hid kkC
          clear bdC kkC c5C hzC
          have y2 : wc.cell? ⟨w.heap.size, 2, none⟩ = some (.slice ua d.units.length uc) := by rw [(HF1.out.keep (HQ4.out.trans' (HKC.out.mono (fun i _ e => HQ21.out i e))) HQ2.out).cell]; rfl
          clear z1 HKB HBB z2
          obtain ⟨pre3, hpre3⟩ : ∃ pre3, pre3 = [] ++ uleb d.units.length ++ uleb (place all d.name) ++ uleb (place (added all d.name) d.file) := ⟨_, rfl⟩
          rw [← hpre3] at HBC
          have hp3l : pre3.length ≤ 30 := by rw [hpre3]; simp; omega
          have hp3m : 3 ≤ pre3.length := by
            have a1 := List.length_pos_iff.2 (uleb_ne d.units.length)
            have a2 := List.length_pos_iff.2 (uleb_ne (place all d.name))
            have a3 := List.length_pos_iff.2 (uleb_ne (place (added all d.name) d.file))
            rw [hpre3]; simp; omega
          obtain ⟨all2, hall2⟩ : ∃ a2, a2 = added (added all d.name) d.file := ⟨_, rfl⟩
          rw [← hall2] at HBC ha2
          have HPRE := Lib.hid hpre3
          have HALL2 := Lib.hid hall2
          clear hpre3 hall2 hwU hwN hwF hlU hlN hlF hxN hxF hxU
          go_wp2_with fail
          go_loopw [73] (fun i wr => ∃ (k vb vn vc : Nat), k ≤ d.units.length ∧ i = .int .i64 k ∧ Bd Q2 wr g gh mb stC tm (.slice fa E.length fc) (.slice (some ⟨vb, 0, none⟩) vn vc) vn (B (pre3 ++ (d.units.take k).flatMap Ut.ulebs)) p q m all2 h2 E ∧ Keep Q2 V4 wr) (fun i _ => d.units.length - (intOf i).toNat)
          case atStart => exact ⟨0, _, _, _, by omega, rfl, by simpa using HBC.out, HKC.out⟩
          case round =>
            obtain ⟨k, vb0, vn0, vc0, hk, rfl, hbR, hkR⟩ := hrel
            have hflk : ((d.units.take k).flatMap Ut.ulebs).length ≤ 50 * k := ulebs_len d.units HFIT.out k
            by_cases hlt : k < d.units.length
            · have hkW : Keep Q W1 wr := HQ4.out.trans' (hkR.mono (fun i _ e => HQ21.out i e))
              have hu' := HU1.out.reads.keep hkW HQ3.out
              obtain ⟨ba, off, ca', hva, hca⟩ := hu'.at (by omega) (by omega)
              cases hva
              obtain ⟨q0, q1, q2, q3, q4, q5⟩ := six_at hca hlt
              obtain ⟨e0, e1, e2, e3, e4⟩ := HFIT.out _ (List.getElem_mem hlt)
              have HSN := Lib.hid (units_snoc (f := Ut.ulebs) hlt)
              have HG := Lib.hid (d.units[k].ulebs_five)
              have HSZ := Lib.hid (show ∀ i, wr.heap.size ≤ i → Q2 i from hbR.fresh)
              have hBK := Blk.new wr d.units[k].cells6 61
              simp only [Ut.cells6] at hBK
              have hb6 := (hbR.far ((Keep.refl Non wr).alloc (.cells #[.int .u32 d.units[k].sl, .int .u32 d.units[k].sc, .int .u32 d.units[k].el, .int .u32 d.units[k].ec, .int .u32 d.units[k].ns, .int .u32 0] 61))).narrow (Q' := fun i => Q2 i ∧ i ≠ wr.heap.size) (fun i hi => ⟨hbR.ok i hi, by have := hbR.lt hi; omega⟩) (fun i hi => ⟨hbR.fresh i (by simp at hi; omega), by simp at hi; omega⟩)
              obtain ⟨Q3, hQ3e⟩ : ∃ Q3 : Nat → Prop, Q3 = fun i => Q2 i ∧ i ≠ wr.heap.size := ⟨_, rfl⟩
              rw [← hQ3e] at hb6
              have HQ31 : Hid (∀ i, Q3 i → Q2 i) := Lib.hid (fun i hi => by rw [hQ3e] at hi; exact hi.1)
              have HQ32 : Hid (¬ Q3 wr.heap.size) := Lib.hid (fun hi => by rw [hQ3e] at hi; exact hi.2 rfl)
              have HB6 := Lib.hid hb6
              have HBK := Lib.hid hBK
              have HKR := Lib.hid (hkR.alloc (.cells #[.int .u32 d.units[k].sl, .int .u32 d.units[k].sc, .int .u32 d.units[k].el, .int .u32 d.units[k].ec, .int .u32 d.units[k].ns, .int .u32 0] 61))
              have HZR : Hid (wr.heap.size ≤ (wr.alloc (.cells #[.int .u32 d.units[k].sl, .int .u32 d.units[k].sc, .int .u32 d.units[k].el, .int .u32 d.units[k].ec, .int .u32 d.units[k].ns, .int .u32 0] 61)).heap.size) := Lib.hid (by simp)
              obtain ⟨preK, hpK⟩ : ∃ z, z = pre3 ++ (d.units.take k).flatMap Ut.ulebs := ⟨_, rfl⟩
              rw [← hpK] at HB6
              have hpKl : preK.length ≤ 60000 := by rw [hpK, List.length_append]; omega
              have HPK := Lib.hid hpK
              clear hkW hu' hca hBK hb6 hQ3e hbR hkR hflk hpK
              generalize d.units[k] = u at *
              go_upto_region 10 with (fail)
              generalize wr.alloc (.cells #[.int .u32 u.sl, .int .u32 u.sc, .int .u32 u.el, .int .u32 u.ec, .int .u32 u.ns, .int .u32 0] 61) = V5 at *
              generalize wr.heap.size = gu at *
              have HK6 := Lib.hid (Keep.refl Q3 V5)
              have hx0 : u.sl < M64 := by unfold M64; omega
              have hw0 : IntKind.u64.wrap (u.sl : Int) = (u.sl : Int) := Plain.wrap_u64 _ (by omega) (by unfold M64; omega)
              have hl0 := uleb_len64 hx0
              have v0 : V5.cell? ⟨gu, 0, none⟩ = some (.int .u32 u.sl) := by rw [(HBK.out.keep HK6.out HQ32.out).cell]; rfl
              have c5U0 : V5.cell? ⟨g, 5, none⟩ = some (.slice (some ⟨vb0, 0, none⟩) vn0 vc0) := HB6.out.cell 1
              have hzU0 := HB6.out.tab.blk.lt
              go_cut [] from 77 to 87 (fun wx => ∃ vb vn vc, Bd Q3 wx g gh mb stC tm (.slice fa E.length fc) (.slice (some ⟨vb, 0, none⟩) vn vc) vn (B (preK ++ uleb u.sl)) p q m all2 h2 E ∧ Keep Q3 V5 wx)
              case first =>
                go_region_law (go_simp; go_at_call 30; go_must (refine (ulebP vb0 vn0 vc0 (preK) u.sl _ hx0 HB6.out.row.drew (by omega)).mono ?_); rintro e w2 ⟨vb, vn, vc, rfl, r2, k2, l2⟩; obtain ⟨t2, t3, q3⟩ := HB6.out.drew.laid k2 rfl r2 l2; have d5 : w2.cell? ⟨g, 5, none⟩ = some (.slice (some ⟨vb0, 0, none⟩) vn0 vc0) := (by rw [t2.cell]; rfl); have y5 := t2.free 5)
                all_goals
                  go_wp2_with fail
                  go_meet
                  case rel => exact ⟨vb, vn, vc, t3, HK6.out.trans' q3.undrew⟩
              case rest =>
                obtain ⟨bU0, nU0, cU0, bdU0, kkU0⟩ := hcut
                have HBU0 := Lib.hid bdU0
                have HKU0 := Lib.hid kkU0
                clear bdU0 kkU0 c5U0 hzU0
                clear v0 hw0
                have hx1 : u.sc < M64 := by unfold M64; omega
                have hw1 : IntKind.u64.wrap (u.sc : Int) = (u.sc : Int) := Plain.wrap_u64 _ (by omega) (by unfold M64; omega)
                have hl1 := uleb_len64 hx1
                have v1 : wc.cell? ⟨gu, 1, none⟩ = some (.int .u32 u.sc) := by rw [(HBK.out.keep HKU0.out HQ32.out).cell]; rfl
                have c5U1 : wc.cell? ⟨g, 5, none⟩ = some (.slice (some ⟨bU0, 0, none⟩) nU0 cU0) := HBU0.out.cell 1
                have hzU1 := HBU0.out.tab.blk.lt
                go_upto_region 11 with (fail)
                go_cut [] from 88 to 98 (fun wx => ∃ vb vn vc, Bd Q3 wx g gh mb stC tm (.slice fa E.length fc) (.slice (some ⟨vb, 0, none⟩) vn vc) vn (B ((preK ++ uleb u.sl) ++ uleb u.sc)) p q m all2 h2 E ∧ Keep Q3 V5 wx)
                case first =>
                  go_region_law (go_simp; go_at_call 30; go_must (refine (ulebP bU0 nU0 cU0 ((preK ++ uleb u.sl)) u.sc _ hx1 HBU0.out.row.drew (by simp; omega)).mono ?_); rintro e w2 ⟨vb, vn, vc, rfl, r2, k2, l2⟩; obtain ⟨t2, t3, q3⟩ := HBU0.out.drew.laid k2 rfl r2 l2; have d5 : w2.cell? ⟨g, 5, none⟩ = some (.slice (some ⟨bU0, 0, none⟩) nU0 cU0) := (by rw [t2.cell]; rfl); have y5 := t2.free 5)
                  all_goals
                    go_wp2_with fail
                    go_meet
                    case rel => exact ⟨vb, vn, vc, t3, HKU0.out.trans' q3.undrew⟩
                case rest =>
                  obtain ⟨bU1, nU1, cU1, bdU1, kkU1⟩ := hcut
                  have HBU1 := Lib.hid bdU1
                  have HKU1 := Lib.hid kkU1
                  clear bdU1 kkU1 c5U1 hzU1
                  clear v1 hw1
                  have hx2 : u.el < M64 := by unfold M64; omega
                  have hw2 : IntKind.u64.wrap (u.el : Int) = (u.el : Int) := Plain.wrap_u64 _ (by omega) (by unfold M64; omega)
                  have hl2 := uleb_len64 hx2
                  have v2 : wc.cell? ⟨gu, 2, none⟩ = some (.int .u32 u.el) := by rw [(HBK.out.keep HKU1.out HQ32.out).cell]; rfl
                  have c5U2 : wc.cell? ⟨g, 5, none⟩ = some (.slice (some ⟨bU1, 0, none⟩) nU1 cU1) := HBU1.out.cell 1
                  have hzU2 := HBU1.out.tab.blk.lt
                  go_upto_region 12 with (fail)
                  go_cut [] from 99 to 109 (fun wx => ∃ vb vn vc, Bd Q3 wx g gh mb stC tm (.slice fa E.length fc) (.slice (some ⟨vb, 0, none⟩) vn vc) vn (B (((preK ++ uleb u.sl) ++ uleb u.sc) ++ uleb u.el)) p q m all2 h2 E ∧ Keep Q3 V5 wx)
                  case first =>
                    go_region_law (go_simp; go_at_call 30; go_must (refine (ulebP bU1 nU1 cU1 (((preK ++ uleb u.sl) ++ uleb u.sc)) u.el _ hx2 HBU1.out.row.drew (by simp; omega)).mono ?_); rintro e w2 ⟨vb, vn, vc, rfl, r2, k2, l2⟩; obtain ⟨t2, t3, q3⟩ := HBU1.out.drew.laid k2 rfl r2 l2; have d5 : w2.cell? ⟨g, 5, none⟩ = some (.slice (some ⟨bU1, 0, none⟩) nU1 cU1) := (by rw [t2.cell]; rfl); have y5 := t2.free 5)
                    all_goals
                      go_wp2_with fail
                      go_meet
                      case rel => exact ⟨vb, vn, vc, t3, HKU1.out.trans' q3.undrew⟩
                  case rest =>
                    obtain ⟨bU2, nU2, cU2, bdU2, kkU2⟩ := hcut
                    have HBU2 := Lib.hid bdU2
                    have HKU2 := Lib.hid kkU2
                    clear bdU2 kkU2 c5U2 hzU2
                    clear v2 hw2
                    have hx3 : u.ec < M64 := by unfold M64; omega
                    have hw3 : IntKind.u64.wrap (u.ec : Int) = (u.ec : Int) := Plain.wrap_u64 _ (by omega) (by unfold M64; omega)
                    have hl3 := uleb_len64 hx3
                    have v3 : wc.cell? ⟨gu, 3, none⟩ = some (.int .u32 u.ec) := by rw [(HBK.out.keep HKU2.out HQ32.out).cell]; rfl
                    have c5U3 : wc.cell? ⟨g, 5, none⟩ = some (.slice (some ⟨bU2, 0, none⟩) nU2 cU2) := HBU2.out.cell 1
                    have hzU3 := HBU2.out.tab.blk.lt
                    go_upto_region 13 with (fail)
                    go_cut [] from 110 to 120 (fun wx => ∃ vb vn vc, Bd Q3 wx g gh mb stC tm (.slice fa E.length fc) (.slice (some ⟨vb, 0, none⟩) vn vc) vn (B ((((preK ++ uleb u.sl) ++ uleb u.sc) ++ uleb u.el) ++ uleb u.ec)) p q m all2 h2 E ∧ Keep Q3 V5 wx)
                    case first =>
                      go_region_law (go_simp; go_at_call 30; go_must (refine (ulebP bU2 nU2 cU2 ((((preK ++ uleb u.sl) ++ uleb u.sc) ++ uleb u.el)) u.ec _ hx3 HBU2.out.row.drew (by simp; omega)).mono ?_); rintro e w2 ⟨vb, vn, vc, rfl, r2, k2, l2⟩; obtain ⟨t2, t3, q3⟩ := HBU2.out.drew.laid k2 rfl r2 l2; have d5 : w2.cell? ⟨g, 5, none⟩ = some (.slice (some ⟨bU2, 0, none⟩) nU2 cU2) := (by rw [t2.cell]; rfl); have y5 := t2.free 5)
                      all_goals
                        go_wp2_with fail
                        go_meet
                        case rel => exact ⟨vb, vn, vc, t3, HKU2.out.trans' q3.undrew⟩
                    case rest =>
                      obtain ⟨bU3, nU3, cU3, bdU3, kkU3⟩ := hcut
                      have HBU3 := Lib.hid bdU3
                      have HKU3 := Lib.hid kkU3
                      clear bdU3 kkU3 c5U3 hzU3
                      clear v3 hw3
                      have hx4 : u.ns < M64 := by unfold M64; omega
                      have hw4 : IntKind.u64.wrap (u.ns : Int) = (u.ns : Int) := Plain.wrap_u64 _ (by omega) (by unfold M64; omega)
                      have hl4 := uleb_len64 hx4
                      have v4 : wc.cell? ⟨gu, 4, none⟩ = some (.int .u32 u.ns) := by rw [(HBK.out.keep HKU3.out HQ32.out).cell]; rfl
                      have c5U4 : wc.cell? ⟨g, 5, none⟩ = some (.slice (some ⟨bU3, 0, none⟩) nU3 cU3) := HBU3.out.cell 1
                      have hzU4 := HBU3.out.tab.blk.lt
                      go_upto_region 14 with (fail)
                      go_region_law (go_simp; go_at_call 30; go_must (refine (ulebP bU3 nU3 cU3 (((((preK ++ uleb u.sl) ++ uleb u.sc) ++ uleb u.el) ++ uleb u.ec)) u.ns _ hx4 HBU3.out.row.drew (by simp; omega)).mono ?_); rintro e w2 ⟨vb, vn, vc, rfl, r2, k2, l2⟩; obtain ⟨t2, t3, q3'⟩ := HBU3.out.drew.laid k2 rfl r2 l2; have d5 : w2.cell? ⟨g, 5, none⟩ = some (.slice (some ⟨bU3, 0, none⟩) nU3 cU3) := (by rw [t2.cell]; rfl); have y5 := t2.free 5)
                      all_goals
                        go_wp2_with fail
                        go_roundw
                        case measure => simp [intOf]; omega
                        case rel =>
                          have hfin := t3
                          have hkk := HKU3.out.trans' q3'.undrew
                          have hzz := hkk.size
                          refine ⟨k + 1, vb, vn, vc, by omega, by go_num, ?_, (HKR.out).trans' (hkk.mono (fun i _ e => HQ31.out i e))⟩
                          have e : preK ++ uleb u.sl ++ uleb u.sc ++ uleb u.el ++ uleb u.ec ++ uleb u.ns = pre3 ++ (d.units.take (k + 1)).flatMap Ut.ulebs := by rw [HSN.out, HPK.out, HG.out]; simp [List.append_assoc]
                          rw [e] at hfin
                          exact hfin.narrow (fun i hi => HQ31.out i (hfin.ok i hi)) (fun i hi => HSZ.out i (by have := HZR.out; omega))
            · obtain rfl : k = d.units.length := by omega
              rw [List.take_of_length_le (Nat.le_refl _)] at hbR hflk
              have z3 : wr.cell? ⟨w.heap.size, 3, none⟩ = some (.bool d.lit) := by rw [(HF1.out.keep (HQ4.out.trans' (hkR.mono (fun i _ e => HQ21.out i e))) HQ2.out).cell]; rfl
              have x5 : wr.cell? ⟨g, 5, none⟩ = some (.slice (some ⟨vb0, 0, none⟩) vn0 vc0) := hbR.cell 1
              obtain ⟨pre4, hpre4⟩ : ∃ z, z = pre3 ++ d.units.flatMap Ut.ulebs := ⟨_, rfl⟩
              rw [← hpre4] at hbR
              have hp4l : pre4.length ≤ 60000 := by rw [hpre4, List.length_append]; omega
              have hp4m : 3 ≤ pre4.length := by rw [hpre4, List.length_append]; omega
              have HENC : Hid (encF all d = pre4 ++ uleb (litN d.lit)) := Lib.hid (by rw [hpre4, HPRE.out, encF]; simp)
              have HBR := Lib.hid hbR
              have HKR := Lib.hid hkR
              have hwE : IntKind.u64.wrap (E.length : Int) = (E.length : Int) := Plain.wrap_u64 _ (by omega) (by unfold M64; omega)
              have hxL : litN d.lit < M64 := by have := litN_lt d.lit; unfold M64; omega
              have hlL := uleb_len64 hxL
              have hmL := List.length_pos_iff.2 (uleb_ne (litN d.lit))
              have hel : (pre4 ++ uleb (litN d.lit)).length ≤ 100000 := by rw [List.length_append]; omega
              have hem : 4 ≤ (pre4 ++ uleb (litN d.lit)).length := by rw [List.length_append]; omega
              clear hbR hkR hflk hpre4 hlL hmL y2
              generalize hlit : d.lit = lb at *
              cases lb with
              | false =>
                go_wp2_with fail
                refine (ulebP vb0 vn0 vc0 pre4 (litN false) _ hxL HBR.out.row (by omega)).mono ?_
                rintro e w2 ⟨vb, vn, vc, rfl, r2, k2, l2⟩
                obtain ⟨t2, t3, q3⟩ := HBR.out.laid k2 rfl r2 l2
                have d5 : w2.cell? ⟨g, 5, none⟩ = some (.slice (some ⟨vb0, 0, none⟩) vn0 vc0) := by rw [t2.cell]; rfl
                have y5 := t2.free 5
                obtain ⟨enc, henc⟩ : ∃ z, z = pre4 ++ uleb (litN false) := ⟨_, rfl⟩
                rw [← henc] at t3 hel hem
                rw [← henc] at HENC
                have hvl := t3.row.len
                have hvc := t3.row.le
                rw [B_length, Nat.mul_one] at hvl
                have HVL := Lib.hid hvl
                have hvc4 : 4 ≤ vc := by omega
                clear hvl hvc
                have HT3 := Lib.hid t3
                have HQ3x := Lib.hid (HKR.out.trans' q3)
                have hz5 := t2.lt
                clear t2 t3 q3 r2 k2 l2 henc
                go_wp2_with fail
                refine (bytesClone (.slice (some ⟨vb, 0, none⟩) vn vc) enc _ (by rw [HVL.out]; exact HT3.out.row.reads) (by omega) (by omega)).mono ?_
                rintro e w5 ⟨ev, rfl, re5, k5, l5⟩
                obtain ⟨ea, ec, rfl⟩ := re5.reads.slice
                have HRE5 := Lib.hid re5
                have hBn := HT3.out.far k5
                have HQ5 := Lib.hid (HQ3x.out.trans' (k5.mono (S' := Q2) (fun _ _ h => h.elim)))
                have hgd5 := HHD.out.keep (HQ5.out) HQ22.out
                have hgdl : gd < w5.heap.size := hgd5.lt
                have hfd0 := hgd5.free 0
                have xd0 : w5.cell? ⟨gd, 0, none⟩ = some (.slice none 0 0) := by rw [hgd5.cell]; rfl
                have hngd : g ≠ gd := fun e => HQ22.out (by rw [← e]; exact hBn.ok g (.inl (.inl rfl)))
                have b6 := hBn.keep (Keep.one w5 gd 0 (.slice ea enc.length ec)) (fun i hi e => HQ22.out (by rw [← show i = gd from e]; exact hBn.ok i hi))
                have re6 : Row (w5.setCell ⟨gd, 0, none⟩ (.slice ea enc.length ec)) 5 1 (.slice ea enc.length ec) enc.length (B enc) := re5.keep (Keep.one w5 gd 0 _) (fun b hb e => kd_false (re5.kd hb) (kd_at e hgd5.kd) (by decide))
                have hd6 := hgd5.set 0 (.slice ea enc.length ec)
                have HB6 := Lib.hid b6
                have HRE6 := Lib.hid re6
                have HD6 := Lib.hid hd6
                have HL5 := Lib.hid l5
                have y4 : w5.cell? ⟨g, 4, none⟩ = some (.slice fa E.length fc) := hBn.cell 0
                have hg5z := hBn.tab.blk.lt
                clear hBn hgd5 b6 re6 hd6 re5 k5 l5
                go_wp2_with fail
                have HKF : Hid (Keep Q0 w (w5.setCell ⟨gd, 0, none⟩ (.slice ea enc.length ec))) := Lib.hid ((((HK1.out.mono (fun _ _ h => h.elim)).trans' (HQ4.out.mono (fun i _ e => HQ1.out i e))).trans' (HQ5.out.mono (fun i _ e => HQ1.out i (HQ21.out i e)))).setNew (by have := HGD.out; have := HZ1.out; omega) 0 _)
                have HNEV : Hid (∀ b, (Value.slice ea enc.length ec).ownBlock = some b → ((Value.slice (some ⟨vb, 0, none⟩) vn vc).ownBlock ≠ some b ∧ tm.ownBlock ≠ some b) ∧ Q2 b) := Lib.hid (fun b hb => by
                  have hbz := HL5.out b hb
                  refine ⟨⟨fun e => ?_, fun e => ?_⟩, HT3.out.fresh b hbz⟩
                  · have := HT3.out.lt (i := b) (.inr (.inr (.inr (.inl e))))
                    omega
                  · have := HT3.out.lt (i := b) (.inl (.inr (.inr (.inr e))))
                    omega)
                generalize w5.setCell ⟨gd, 0, none⟩ (.slice ea enc.length ec) = W6 at *
                have u4 : W6.cell? ⟨g, 4, none⟩ = some (.slice fa E.length fc) := HB6.out.cell 0
                have ud : W6.cell? ⟨gd, 0, none⟩ = some (.slice ea enc.length ec) := by rw [HD6.out.cell]; rfl
                have hgz6 := HB6.out.tab.blk.lt
                have hgd6 := HD6.out.lt
                have hm1 : E.length + 1 ≤ maxLen := by unfold maxLen; omega
                have hm2 : (E.length + 1) * 24 ≤ 140737488355328 := by omega
                clear y4 hg5z hfd0 xd0 hgdl d5 y5 x5 z3 hz5
                go_region_law (first
                  | (refine step_app (n := E.length) (xs := Evs E) (m := 1) sliceFD rfl _ _ rfl rfl (Row.alloc HB6.out.drew.fns _) rfl (Reads.oneAt (by simp)) (by decide) (slc_one _ _ _) hm1 hm2 ?_; intro v7 w7 r7 g7; obtain ⟨b7, k7, t7⟩ := (HB6.out.drew.far ((Keep.refl Non _).alloc (.cells #[.slice ea enc.length ec] 93))).more g7.keep r7 (fun b hb => (g7.lies hb).elim .inl (fun e => .inr (Nat.le_of_eq (Eq.symm e)))) (HRE6.out.drew.alloc _) (fun b hb => (HNEV.out b hb).1) (fun b hb => (HNEV.out b hb).2); have z1 : w7.cell? ⟨g, 4, none⟩ = some (.slice fa E.length fc) := (by rw [t7.cell]; rfl); have z2 := t7.free 4; obtain ⟨va, vd, rfl⟩ := r7.reads.slice))
                all_goals
                  go_wp2
                  go_ret
                  have hkf := HKF.out
                  refine ⟨rfl, hkf.trans' ((((Keep.refl Q0 W6).drew.alloc _).trans' (k7.mono (fun i _ e => HQ1.out i (HQ21.out i e))))), stC, .slice va (E.length + 1) vd, vb, vn, vc, B enc, .slice ea enc.length ec, ?_, hvc4⟩
                  rw [HENC.out, ← HALL2.out, ← HH2.out]
                  exact b7.narrow (fun i hi => HQ1.out i (HQ21.out i (b7.ok i hi))) (fun i hi => HH0.out.fresh i (by have a1 := hkf.size; have a2 := g7.keep.size; simp at hi a2; omega))
              | true =>
                go_wp2_with fail
                refine (ulebP vb0 vn0 vc0 pre4 (litN true) _ hxL HBR.out.row (by omega)).mono ?_
                rintro e w2 ⟨vb, vn, vc, rfl, r2, k2, l2⟩
                obtain ⟨t2, t3, q3⟩ := HBR.out.laid k2 rfl r2 l2
                have d5 : w2.cell? ⟨g, 5, none⟩ = some (.slice (some ⟨vb0, 0, none⟩) vn0 vc0) := by rw [t2.cell]; rfl
                have y5 := t2.free 5
                obtain ⟨enc, henc⟩ : ∃ z, z = pre4 ++ uleb (litN true) := ⟨_, rfl⟩
                rw [← henc] at t3 hel hem
                rw [← henc] at HENC
                have hvl := t3.row.len
                have hvc := t3.row.le
                rw [B_length, Nat.mul_one] at hvl
                have HVL := Lib.hid hvl
                have hvc4 : 4 ≤ vc := by omega
                clear hvl hvc
                have HT3 := Lib.hid t3
                have HQ3x := Lib.hid (HKR.out.trans' q3)
                have hz5 := t2.lt
                clear t2 t3 q3 r2 k2 l2 henc
                go_wp2_with fail
                refine (bytesClone (.slice (some ⟨vb, 0, none⟩) vn vc) enc _ (by rw [HVL.out]; exact HT3.out.row.reads) (by omega) (by omega)).mono ?_
                rintro e w5 ⟨ev, rfl, re5, k5, l5⟩
                obtain ⟨ea, ec, rfl⟩ := re5.reads.slice
                have HRE5 := Lib.hid re5
                have hBn := HT3.out.far k5
                have HQ5 := Lib.hid (HQ3x.out.trans' (k5.mono (S' := Q2) (fun _ _ h => h.elim)))
                have hgd5 := HHD.out.keep (HQ5.out) HQ22.out
                have hgdl : gd < w5.heap.size := hgd5.lt
                have hfd0 := hgd5.free 0
                have xd0 : w5.cell? ⟨gd, 0, none⟩ = some (.slice none 0 0) := by rw [hgd5.cell]; rfl
                have hngd : g ≠ gd := fun e => HQ22.out (by rw [← e]; exact hBn.ok g (.inl (.inl rfl)))
                have b6 := hBn.keep (Keep.one w5 gd 0 (.slice ea enc.length ec)) (fun i hi e => HQ22.out (by rw [← show i = gd from e]; exact hBn.ok i hi))
                have re6 : Row (w5.setCell ⟨gd, 0, none⟩ (.slice ea enc.length ec)) 5 1 (.slice ea enc.length ec) enc.length (B enc) := re5.keep (Keep.one w5 gd 0 _) (fun b hb e => kd_false (re5.kd hb) (kd_at e hgd5.kd) (by decide))
                have hd6 := hgd5.set 0 (.slice ea enc.length ec)
                have HB6 := Lib.hid b6
                have HRE6 := Lib.hid re6
                have HD6 := Lib.hid hd6
                have HL5 := Lib.hid l5
                have y4 : w5.cell? ⟨g, 4, none⟩ = some (.slice fa E.length fc) := hBn.cell 0
                have hg5z := hBn.tab.blk.lt
                clear hBn hgd5 b6 re6 hd6 re5 k5 l5
                go_wp2_with fail
                have HKF : Hid (Keep Q0 w (w5.setCell ⟨gd, 0, none⟩ (.slice ea enc.length ec))) := Lib.hid ((((HK1.out.mono (fun _ _ h => h.elim)).trans' (HQ4.out.mono (fun i _ e => HQ1.out i e))).trans' (HQ5.out.mono (fun i _ e => HQ1.out i (HQ21.out i e)))).setNew (by have := HGD.out; have := HZ1.out; omega) 0 _)
                have HNEV : Hid (∀ b, (Value.slice ea enc.length ec).ownBlock = some b → ((Value.slice (some ⟨vb, 0, none⟩) vn vc).ownBlock ≠ some b ∧ tm.ownBlock ≠ some b) ∧ Q2 b) := Lib.hid (fun b hb => by
                  have hbz := HL5.out b hb
                  refine ⟨⟨fun e => ?_, fun e => ?_⟩, HT3.out.fresh b hbz⟩
                  · have := HT3.out.lt (i := b) (.inr (.inr (.inr (.inl e))))
                    omega
                  · have := HT3.out.lt (i := b) (.inl (.inr (.inr (.inr e))))
                    omega)
                generalize w5.setCell ⟨gd, 0, none⟩ (.slice ea enc.length ec) = W6 at *
                have u4 : W6.cell? ⟨g, 4, none⟩ = some (.slice fa E.length fc) := HB6.out.cell 0
                have ud : W6.cell? ⟨gd, 0, none⟩ = some (.slice ea enc.length ec) := by rw [HD6.out.cell]; rfl
                have hgz6 := HB6.out.tab.blk.lt
                have hgd6 := HD6.out.lt
                have hm1 : E.length + 1 ≤ maxLen := by unfold maxLen; omega
                have hm2 : (E.length + 1) * 24 ≤ 140737488355328 := by omega
                clear y4 hg5z hfd0 xd0 hgdl d5 y5 x5 z3 hz5
                go_region_law (first
                  | (refine step_app (n := E.length) (xs := Evs E) (m := 1) sliceFD rfl _ _ rfl rfl (Row.alloc HB6.out.drew.fns _) rfl (Reads.oneAt (by simp)) (by decide) (slc_one _ _ _) hm1 hm2 ?_; intro v7 w7 r7 g7; obtain ⟨b7, k7, t7⟩ := (HB6.out.drew.far ((Keep.refl Non _).alloc (.cells #[.slice ea enc.length ec] 93))).more g7.keep r7 (fun b hb => (g7.lies hb).elim .inl (fun e => .inr (Nat.le_of_eq (Eq.symm e)))) (HRE6.out.drew.alloc _) (fun b hb => (HNEV.out b hb).1) (fun b hb => (HNEV.out b hb).2); have z1 : w7.cell? ⟨g, 4, none⟩ = some (.slice fa E.length fc) := (by rw [t7.cell]; rfl); have z2 := t7.free 4; obtain ⟨va, vd, rfl⟩ := r7.reads.slice))
                all_goals
                  go_wp2
                  go_ret
                  have hkf := HKF.out
                  refine ⟨rfl, hkf.trans' ((((Keep.refl Q0 W6).drew.alloc _).trans' (k7.mono (fun i _ e => HQ1.out i (HQ21.out i e))))), stC, .slice va (E.length + 1) vd, vb, vn, vc, B enc, .slice ea enc.length ec, ?_, hvc4⟩
                  rw [HENC.out, ← HALL2.out, ← HH2.out]
                  exact b7.narrow (fun i hi => HQ1.out i (HQ21.out i (b7.ok i hi))) (fun i hi => HH0.out.fresh i (by have a1 := hkf.size; have a2 := g7.keep.size; simp at hi a2; omega))
end Go.Proofs.YtbmidlaakbpnlaaDoor
