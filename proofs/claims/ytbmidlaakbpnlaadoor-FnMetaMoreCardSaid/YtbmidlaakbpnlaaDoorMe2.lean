/-
  CONTRACTS of the hash of descriptions, second part.
-/
import Derived.Test.YtbmidlaakbpnlaaDoorMe1
import Derived.Test.YtbmidlaakbpnlaaDoorTab4
import Derived.Test.YtbmidlaakbpnlaaDoorOpen2
import Derived.Deep.DeepAppendRoom
namespace Go.Proofs.YtbmidlaakbpnlaaDoor
open Go.RowKit
open Go.ChangeShapes Go.WideShapes Go.ChangeAt Go.Deep
open Plain (M64)

/-- A piece of source. -/
structure Ut where
  sl : Nat
  sc : Nat
  el : Nat
  ec : Nat
  ns : Nat
def Ut.fit (u : Ut) : Prop := u.sl < 4294967296 ∧ u.sc < 4294967296 ∧ u.el < 4294967296 ∧ u.ec < 4294967296 ∧ u.ns < 4294967296
def Ut.cells (u : Ut) : List Value := [.int .u32 u.sl, .int .u32 u.sc, .int .u32 u.el, .int .u32 u.ec, .int .u32 u.ns]
def Ut.cells6 (u : Ut) : List Value := [.int .u32 u.sl, .int .u32 u.sc, .int .u32 u.el, .int .u32 u.ec, .int .u32 u.ns, .int .u32 0]
def Ut.hash (u : Ut) : List UInt8 := leB 4 u.sl ++ leB 4 u.sc ++ leB 4 u.el ++ leB 4 u.ec ++ leB 4 u.ns
def Ut.ulebs (u : Ut) : List UInt8 := uleb u.sl ++ uleb u.sc ++ uleb u.el ++ uleb u.ec ++ uleb u.ns
theorem Ut.hash_five (u : Ut) : u.hash = leB 4 u.sl ++ leB 4 u.sc ++ leB 4 u.el ++ leB 4 u.ec ++ leB 4 u.ns := rfl
theorem Ut.cells6_len (u : Ut) : u.cells6.length = 6 := rfl
theorem Ut.cells_len (u : Ut) : u.cells.length = 5 := rfl
/-- A description of a function. -/
structure Dsc where
  name : ByteArray
  file : ByteArray
  units : List Ut
  lit : Bool
def litN (b : Bool) : Nat := if b = true then 1 else 0
def Dsc.hash (d : Dsc) : List UInt8 := d.name.data.toList ++ d.file.data.toList ++ d.units.flatMap Ut.hash ++ leB 4 (litN d.lit)

theorem fnv1_lt (a b c : Nat) : (fnv1 a b c).1 < 18446744073709551616 ∧ (fnv1 a b c).2 < 18446744073709551616 := ⟨Nat.mod_lt _ (by decide), Nat.mod_lt _ (by decide)⟩
theorem fnvs_lt : ∀ (l : List UInt8) (h : Nat × Nat), h.1 < 18446744073709551616 → h.2 < 18446744073709551616 → (fnvs h l).1 < 18446744073709551616 ∧ (fnvs h l).2 < 18446744073709551616
  | [], _, h1, h2 => ⟨h1, h2⟩
  | c :: l, h, _, _ => by
    have h3 := fnv1_lt h.1 h.2 c.toNat
    exact fnvs_lt l (fnv1 h.1 h.2 c.toNat) h3.1 h3.2
theorem fnvs_append (h : Nat × Nat) (a b : List UInt8) : fnvs h (a ++ b) = fnvs (fnvs h a) b := by simp [fnvs]
/-- The hash's block, and the scratch. -/
structure HS (w : World) (gh g n c : Nat) (h : Nat × Nat) : Prop where
  blk : Blk w gh [.int .u64 h.1, .int .u64 h.2] 124
  l1 : h.1 < 18446744073709551616
  l2 : h.2 < 18446744073709551616
  row : ∃ xs, Row w 5 1 (.slice (some ⟨g, 0, none⟩) n c) n xs
  four : 4 ≤ c
theorem HS.ne {w : World} {gh g n c : Nat} {h : Nat × Nat} (H : HS w gh g n c h) : g ≠ gh := by
  obtain ⟨xs, r⟩ := H.row
  intro e
  exact r.neBlk H.blk (by decide) (by rw [← e]; rfl)
theorem HS.keep {S : Nat → Prop} {w w' : World} {gh g n c : Nat} {h : Nat × Nat} (H : HS w gh g n c h) (k : Keep S w w') (h1 : ¬ S gh) (h2 : ¬ S g) : HS w' gh g n c h where
  blk := H.blk.keep k h1
  l1 := H.l1
  l2 := H.l2
  row := by
    obtain ⟨xs, r⟩ := H.row
    exact ⟨xs, r.keep k (fun b hb e => by simp [Value.ownBlock] at hb; subst hb; exact h2 e)⟩
  four := H.four
theorem HS.far {w w' : World} {gh g n c : Nat} {h : Nat × Nat} (H : HS w gh g n c h) (k : Keep Non w w') : HS w' gh g n c h := H.keep k (fun e => e) (fun e => e)
theorem HS.wrote {w w' : World} {gh g n c : Nat} {h : Nat × Nat} {l : List UInt8} (H : HS w gh g n c h) (k : Keep (At gh) w w') (hb : Blk w' gh [.int .u64 (fnvs h l).1, .int .u64 (fnvs h l).2] 124) : HS w' gh g n c (fnvs h l) where
  blk := hb
  l1 := (fnvs_lt l h H.l1 H.l2).1
  l2 := (fnvs_lt l h H.l1 H.l2).2
  row := by
    obtain ⟨xs, r⟩ := H.row
    exact ⟨xs, r.keep k (fun b hb e => by simp [Value.ownBlock] at hb; subst hb; exact H.ne e)⟩
  four := H.four
theorem Row.again {w : World} {e : TypeId} {g n m c : Nat} {ys : List Value} (h : Row w e 1 (.slice (some ⟨g, 0, none⟩) m c) m ys) (hn : n ≤ c) : ∃ xs, Row w e 1 (.slice (some ⟨g, 0, none⟩) n c) n xs := by
  obtain ⟨cur, hb, hl, _, _, hm⟩ := h.whole
  exact ⟨_, Row.ofWhole hb hl hn hm⟩
theorem Row.le {w : World} {e : TypeId} {g n c : Nat} {ys : List Value} (h : Row w e 1 (.slice (some ⟨g, 0, none⟩) n c) n ys) : n ≤ c := by
  obtain ⟨cur, hb, hl, _, h, hm⟩ := h.whole
  exact h
/-- Four bytes onto emptied scratch that has the room. -/
theorem wpList_four {w : World} {ops : Array Oper} {rest : List Oper} {o : Oper} {a : Act} {Q : Exit → Act → World → Prop} (hgd : o.guard = none) (s x : Operand)
    (ho : o.op = .call { callee := .builtin .append, args := #[s, x], argTypes := #[31, 31] }) {g c gn : Nat} (hs : a.eval s = .slice (some ⟨g, 0, none⟩) 0 c) (hx : a.eval x = .slice (some ⟨gn, 0, none⟩) 4 4)
    (r : Row w 5 1 (.slice (some ⟨g, 0, none⟩) 0 c) 0 []) (h4 : 4 ≤ c) (hb : Blk w gn [.int .u8 0, .int .u8 0, .int .u8 0, .int .u8 0] 5)
    (h : ∀ w', Row w' 5 1 (.slice (some ⟨g, 0, none⟩) 4 c) 4 [.int .u8 0, .int .u8 0, .int .u8 0, .int .u8 0] → Keep (At g) w w' → wpList Tryd.prog ops Q rest (a.put o.dst (.slice (some ⟨g, 0, none⟩) 4 c)) w') : wpList Tryd.prog ops Q (o :: rest) a w := by
  obtain ⟨i, hi, hz, hsz, hbb⟩ := info_parts sliceBytes.row
  refine wpList_append_own_spare w hgd s x 31 ho 0 5 i 1 sliceBytes.und hi hsz g 0 c [] hs r ⟨gn, 0, none⟩ 4 4 [.int .u8 0, .int .u8 0, .int .u8 0, .int .u8 0] hx rfl ?_ ?_ (by omega) ?_
  · intro j u hj
    rw [addr_add, Nat.zero_add, hb.cell]; exact hj
  · intro u hu
    simp at hu
    subst hu; rfl
  · intro w' r' g'
    exact h w' (by rw [Nat.zero_add] at r'; exact r') ((Keep.of_grown g').mono (fun i _ e => by simp at e; exact e.symm))
set_option maxRecDepth 100000 in
set_option maxHeartbeats 1000000 in
theorem h32 (gh g n c x : Nat) (h : Nat × Nat) (w : World) (H : HS w gh g n c h) (hx : x < 4294967296) :
    Calls Tryd.prog 49 #[.int .u32 x, .pointer (some ⟨gh, 0, none⟩), .slice (some ⟨g, 0, none⟩) n c] w fun e w' => e = .returned (.tuple #[]) ∧ HS w' gh g n c (fnvs h (leB 4 x)) ∧ Keep (fun i => i = gh ∨ i = g) w w' := by
  obtain ⟨xs, hr⟩ := H.row
  have hnc := hr.le
  have hr0 := hr.zero
  have hglt := hr.lt rfl
  have hc4 := H.four
  have hne := H.ne
  have HH := Lib.hid H
  have HR := Lib.hid hr0
  have HN := Lib.hid hnc
  clear H hr hr0
  go_enter Tryd.func49, Tryd.ntmps49
  go_wp2_with (first
    | (go_at_call 52; go_must (refine (lePut g c x _ _ r1 hx).mono ?_); rintro e w2 ⟨rfl, r2, k2⟩)
    | (go_at_call 28; go_must (refine (fnvWrite gh h.1 h.2 _ (leB 4 x) _ ((HH.out.blk.alloc _).keep (k1.trans' k2) (fun e => hne (Eq.symm e))) HH.out.l1 HH.out.l2 (by rw [leB_length]; exact r2.reads) (by rw [leB_length]; omega) (fun _ e => hne (by simpa [Value.ownBlock] using e))).mono ?_); rintro e w3 ⟨rfl, b3, k3⟩)
    | (at_builtin; go_must (refine wpList_four rfl _ _ rfl rfl rfl (HR.out.alloc _) hc4 (Blk.new w [.int .u8 0, .int .u8 0, .int .u8 0, .int .u8 0] _) ?_); intro w1 r1 k1))
  go_end0
  have kk : Keep (At g) w w2 := ((Keep.refl _ _).alloc _).trans' (k1.trans' k2)
  have r3 := r2.keep k3 (fun b hb e => by simp [Value.ownBlock] at hb; subst hb; exact hne e)
  refine ⟨rfl, ⟨b3, (fnvs_lt _ h HH.out.l1 HH.out.l2).1, (fnvs_lt _ h HH.out.l1 HH.out.l2).2, r3.again HN.out, hc4⟩, ?_⟩
  exact (kk.mono (fun i _ e => .inr e)).trans k3 (fun i _ e => .inl e)
set_option maxRecDepth 100000 in
theorem bytesClone (sv : Value) (l : List UInt8) (w : World) (hs : Reads w 1 sv l.length (B l)) (h0 : 0 < l.length) (hl : l.length ≤ 1000000) :
    Calls Tryd.prog 31 #[sv] w (Fresh w 5 1 l.length (B l)) := by
  obtain ⟨b, off, c, rfl, _⟩ := hs.at h0 (by omega)
  have qT : ∀ (w : World), (binOp .eql 31 (.slice (some ⟨b, off, none⟩) l.length c) (.slice none 0 0)).run Tryd.prog w = .ok (.bool false) w := fun w => by
    simp only [binOp]
    simp [Op.equal, Op.maxDepth, Lib.run_equalIn_slice_nil w 9999 31 _ (some ⟨b, off, none⟩) l.length c 0 0 Tryd.underlying31]
  go_enter Tryd.func31, Tryd.ntmps31
  go_wp2_with (at_builtin; go_must (refine wpList_app (n := 0) (xs := []) (m := l.length) sliceBytes rfl _ _ rfl rfl (Row.lit w 5 1 [] 0 (by decide) rfl) rfl (hs.alloc _) (B_one _) (by unfold maxLen; omega) (by omega) ?_); intro v1 w1 r1 g1 n1)
  go_ret
  obtain ⟨k1, l1⟩ := g1.copied rfl
  exact ⟨v1, rfl, by simpa using r1, k1, l1⟩

/-- The hash's bytes. -/
def dgAt (h : Nat × Nat) (i : Nat) : UInt8 := UInt8.ofNat ((if i < 8 then h.1 else h.2) / 2 ^ (56 - 8 * (i % 8)) % 256)
def digest (h : Nat × Nat) : List UInt8 := (List.range 16).map (dgAt h)
theorem digest_length (h : Nat × Nat) : (digest h).length = 16 := by simp [digest]
theorem digest_take (h : Nat × Nat) {i : Nat} (hi : i < 16) : (digest h).take (i + 1) = (digest h).take i ++ [dgAt h i] := by
  rw [List.take_succ_eq_append_getElem (by rw [digest_length]; exact hi)]
  simp [digest]
set_option maxRecDepth 100000 in
set_option maxHeartbeats 2000000 in
theorem fnvSum (gh : Nat) (h : Nat × Nat) (w : World) (hb : Blk w gh [.int .u64 h.1, .int .u64 h.2] 124) :
    Calls Tryd.prog 32 #[.pointer (some ⟨gh, 0, none⟩), .slice none 0 0] w (Fresh w 5 1 16 (B (digest h))) := by
  go_enter Tryd.func32, Tryd.ntmps32
  go_wp2
  go_loopw [1, 9] (fun v i wr => ∃ k : Nat, k ≤ 2 ∧ i = .int .i64 k ∧ Row wr 5 1 v (8 * k) (B ((digest h).take (8 * k))) ∧ Keep Non w wr ∧ (∀ b, v.ownBlock = some b → w.heap.size ≤ b)) (fun _ i _ => 2 - (intOf i).toNat)
  case atStart => exact ⟨0, by omega, rfl, Row.nil _ _ _, Keep.refl _ _, fun b hb => by simp [Value.ownBlock] at hb⟩
  case round =>
    obtain ⟨k, hk, rfl, hR, hkp, hl⟩ := hrel
    by_cases hlt : k < 2
    · have hB := hb.keep hkp (fun h => h)
      obtain ⟨y, hy⟩ : ∃ y, y = (if k < 1 then h.1 else h.2) := ⟨_, rfl⟩
      have x0 : wr.cell? ⟨gh, k, none⟩ = some (.int .u64 y) := by
        rw [hB.cell]
        match k, hlt with
        | 0, _ => simp [hy]
        | 1, _ => simp [hy]
      have HY := Lib.hid hy
      have HR := Lib.hid hR
      have HK := Lib.hid hkp
      have HL := Lib.hid hl
      have hki : decide ((k : Int) < 2) = true := by simp; omega
      clear hy hR hkp hl hB
      go_wp2_with fail
      go_loopw [1, 7] (fun v i wr => ∃ j : Nat, j ≤ 8 ∧ i = .int .i64 j ∧ Row wr 5 1 v (8 * k + j) (B ((digest h).take (8 * k + j))) ∧ Keep Non w wr ∧ (∀ b, v.ownBlock = some b → w.heap.size ≤ b)) (fun _ i _ => 8 - (intOf i).toNat)
      case atStart => exact ⟨0, by omega, rfl, HR.out, HK.out, HL.out⟩
      case round =>
        obtain ⟨j, hj, rfl, hR2, hkp2, hl2⟩ := hrel
        have HK2 := Lib.hid hkp2
        have HL2 := Lib.hid hl2
        clear hkp2 hl2
        by_cases hjl : j < 8
        · have HT : Hid ((digest h).take (8 * k + j + 1) = (digest h).take (8 * k + j) ++ [dgAt h (8 * k + j)]) := Lib.hid (digest_take h (by omega))
          go_wp2_with (at_builtin; go_must (refine wpList_app (n := 8 * k + j) (xs := B ((digest h).take (8 * k + j))) (m := 1) sliceBytes rfl _ _ rfl rfl (hR2.alloc _) rfl (Reads.oneAt (by simp)) (int_one _ _) (by unfold maxLen; omega) (by omega) ?_); intro v' w1 hr1 hg1 hn1)
          go_roundw
          case measure => simp [intOf]; omega
          case rel =>
            refine ⟨j + 1, by omega, by go_num, ?_, (HK2.out.alloc _).trans hg1.keep (fun i hi h => by have := HL2.out i h; omega), fun b hb => ?_⟩
            · rw [← Nat.add_assoc, HT.out, B_append]
              have e : [Value.int .u8 ((y : Int) / 2 ^ (56 - 8 * j) % 256)] = B [dgAt h (8 * k + j)] := by
                have hc : (if 8 * k + j < 8 then h.1 else h.2) = y := by
                  rw [HY.out]
                  by_cases h1 : k < 1
                  · rw [if_pos h1, if_pos (by omega)]
                  · rw [if_neg h1, if_neg (by omega)]
                rw [dgAt, show (8 * k + j) % 8 = j by omega, hc]
                simp [B]
              rw [e] at hr1
              exact hr1
            · rcases hg1.lies hb with h | h
              · exact HL2.out b h
              · have := HK2.out.size; simp at h; omega
        · obtain rfl : j = 8 := by omega
          have HR2 := Lib.hid hR2
          clear hR2
          go_wp2_with fail
          go_roundw
          case measure => simp [intOf]; omega
          case rel => exact ⟨k + 1, by omega, by go_num, HR2.out, HK2.out, HL2.out⟩
    · obtain rfl : k = 2 := by omega
      have HR := Lib.hid hR
      have HK := Lib.hid hkp
      have HL := Lib.hid hl
      clear hR hkp hl
      go_wp2
      go_ret
      have h := HR.out
      rw [List.take_of_length_le (by simp [digest_length])] at h
      exact ⟨_, rfl, h, HK.out, HL.out⟩
theorem six_at {w : World} {b off : Nat} {l : List Ut} (h : ∀ j u, (l.flatMap Ut.cells6)[j]? = some u → w.cell? ⟨b, off + j, none⟩ = some u) {k : Nat} (hk : k < l.length) :
    w.cell? ⟨b, off + k * 6, none⟩ = some (.int .u32 l[k].sl) ∧ w.cell? ⟨b, off + k * 6 + 1, none⟩ = some (.int .u32 l[k].sc) ∧ w.cell? ⟨b, off + k * 6 + 2, none⟩ = some (.int .u32 l[k].el) ∧ w.cell? ⟨b, off + k * 6 + 3, none⟩ = some (.int .u32 l[k].ec) ∧ w.cell? ⟨b, off + k * 6 + 4, none⟩ = some (.int .u32 l[k].ns) ∧ w.cell? ⟨b, off + k * 6 + 5, none⟩ = some (.int .u32 0) :=
  ⟨h (k * 6) _ (flat_get Ut.cells6_len l k 0 hk (by decide)), by have := h (k * 6 + 1) _ (flat_get Ut.cells6_len l k 1 hk (by decide)); rwa [← Nat.add_assoc] at this, by have := h (k * 6 + 2) _ (flat_get Ut.cells6_len l k 2 hk (by decide)); rwa [← Nat.add_assoc] at this, by have := h (k * 6 + 3) _ (flat_get Ut.cells6_len l k 3 hk (by decide)); rwa [← Nat.add_assoc] at this, by have := h (k * 6 + 4) _ (flat_get Ut.cells6_len l k 4 hk (by decide)); rwa [← Nat.add_assoc] at this, by have := h (k * 6 + 5) _ (flat_get Ut.cells6_len l k 5 hk (by decide)); rwa [← Nat.add_assoc] at this⟩
/-- The hash of a description. -/
theorem hash_one (h : Nat × Nat) (d : Dsc) : fnvs h d.hash = fnvs (fnvs (fnvs (fnvs h d.name.data.toList) d.file.data.toList) (d.units.flatMap Ut.hash)) (leB 4 (litN d.lit)) := by
  simp only [Dsc.hash, fnvs_append]
def dcells (d : Dsc) (uv : Value) : List Value := [.string d.name, .string d.file, uv, .bool d.lit]
theorem units_snoc {f : Ut → List UInt8} {l : List Ut} {k : Nat} (h : k < l.length) : (l.take (k + 1)).flatMap f = (l.take k).flatMap f ++ f l[k] := by
  rw [List.take_succ_eq_append_getElem h, List.flatMap_append]; simp
theorem litN_lt (b : Bool) : litN b < 2 := by cases b <;> simp [litN]
set_option maxRecDepth 100000 in
set_option maxHeartbeats 4000000 in
theorem hashDesc (gh g n c gf : Nat) (h : Nat × Nat) (d : Dsc) (uv : Value) (w : World) (H : HS w gh g n c h) (hf : Blk w gf (dcells d uv) 59) (hu : Reads w 6 uv d.units.length (d.units.flatMap Ut.cells6)) (hfit : ∀ u ∈ d.units, u.fit) (hfar : ∀ b, uv.ownBlock = some b → b ≠ gh ∧ b ≠ g)
    (hn : d.name.size ≤ 1000) (hfl : d.file.size ≤ 1000) (hul : d.units.length ≤ 1000) :
    Calls Tryd.prog 29 #[.pointer (some ⟨gh, 0, none⟩), .pointer (some ⟨gf, 0, none⟩), .slice (some ⟨g, 0, none⟩) n c] w fun e w' => e = .returned (.tuple #[]) ∧ HS w' gh g n c (fnvs h d.hash) ∧ Keep (fun i => i = gh ∨ i = g) w w' := by
  have f0 : w.cell? ⟨gf, 0, none⟩ = some (.string d.name) := by rw [hf.cell]; rfl
  have f1 : w.cell? ⟨gf, 1, none⟩ = some (.string d.file) := by rw [hf.cell]; rfl
  have hgf1 : gf ≠ gh := fun e => hf.ne H.blk (by decide) e
  have hgf2 : gf ≠ g := fun e => by
    obtain ⟨xs, r⟩ := H.row
    exact r.neBlk hf (by decide) (by rw [e]; rfl)
  have hnl : d.name.data.toList.length = d.name.size := Array.length_toList
  have hfll : d.file.data.toList.length = d.file.size := Array.length_toList
  have HH := Lib.hid H
  have HF := Lib.hid hf
  have HU := Lib.hid hu
  have HFIT := Lib.hid hfit
  have HFAR := Lib.hid hfar
  clear H hf hu hfit hfar
  obtain ⟨W1, c1, hc1, kc1, rc1, zc1⟩ := conv w d.name
  have H1 := Lib.hid (HH.out.far kc1)
  obtain ⟨ua, uc, rfl⟩ := HU.out.slice
  have f2 : w.cell? ⟨gf, 2, none⟩ = some (.slice ua d.units.length uc) := by rw [HF.out.cell]; rfl
  have f3 : w.cell? ⟨gf, 3, none⟩ = some (.bool d.lit) := by rw [HF.out.cell]; rfl
  go_enter Tryd.func29, Tryd.ntmps29
  go_wp2_with fail
  refine (fnvWrite gh h.1 h.2 _ d.name.data.toList _ H1.out.blk H1.out.l1 H1.out.l2 (by rw [hnl]; exact rc1) (by omega) (fun _ e => by have := HH.out.blk.lt; simp [Value.ownBlock] at e; omega)).mono ?_
  rintro e w2 ⟨rfl, b2, k2⟩
  have H2 := H1.out.wrote k2 b2
  have x1 : w2.cell? ⟨gf, 1, none⟩ = some (.string d.file) := k2.cell (kc1.cell f1 (fun e => e)) (fun e => hgf1 e)
  obtain ⟨W3, c3, hc3, kc3, rc3, zc3⟩ := conv w2 d.file
  have H3 := Lib.hid (H2.far kc3)
  have hgh := H2.blk.lt
  have K3 : Hid (Keep (At gh) w W3) := Lib.hid (((kc1.mono (fun _ _ h => h.elim)).trans' k2).trans' (kc3.mono (fun _ _ h => h.elim)))
  clear b2 k2 H2 kc3 rc1 zc1 hc1 kc1 H1
  go_wp2_with fail
  refine (fnvWrite gh _ _ _ d.file.data.toList _ H3.out.blk H3.out.l1 H3.out.l2 (by rw [hfll]; exact rc3) (by omega) (fun _ e => by simp [Value.ownBlock] at e; omega)).mono ?_
  rintro e w4 ⟨rfl, b4, k4⟩
  have H4 := Lib.hid (H3.out.wrote k4 b4)
  have y2 : w4.cell? ⟨gf, 2, none⟩ = some (.slice ua d.units.length uc) := (K3.out.trans' k4).cell f2 (fun e => hgf1 e)
  have K4 : Hid (Keep (fun i => i = gh ∨ i = g) w w4) := Lib.hid ((K3.out.trans' k4).mono (fun i _ e => .inl e))
  clear b4 k4 H3 K3 rc3 zc3 hc3 hgh x1 W3
  obtain ⟨h4, hh4⟩ : ∃ h4, h4 = fnvs (fnvs h d.name.data.toList) d.file.data.toList := ⟨_, rfl⟩
  rw [← hh4] at H4
  have HH4 := Lib.hid hh4
  clear hh4
  go_wp2_with fail
  go_loopw [28] (fun i wr => ∃ (k : Nat), k ≤ d.units.length ∧ i = .int .i64 k ∧ HS wr gh g n c (fnvs h4 ((d.units.take k).flatMap Ut.hash)) ∧ Keep (fun i => i = gh ∨ i = g) w wr) (fun i _ => d.units.length - (intOf i).toNat)
  case atStart => exact ⟨0, by omega, rfl, H4.out, K4.out⟩
  case round =>
    obtain ⟨k, hk, rfl, hS, hkp⟩ := hrel
    by_cases hlt : k < d.units.length
    · have hu' := HU.out.keep hkp (fun b hb e => by
        obtain ⟨e1, e2⟩ := HFAR.out b hb
        rcases e with e | e
        · exact e1 e
        · exact e2 e)
      obtain ⟨ba, offa, ca', hva, hca⟩ := hu'.at (by omega) (by omega)
      cases hva
      obtain ⟨q0, q1, q2, q3, q4, q5⟩ := six_at hca hlt
      obtain ⟨e0, e1, e2, e3, e4⟩ := HFIT.out _ (List.getElem_mem hlt)
      have HSN := Lib.hid (units_snoc (f := Ut.hash) hlt)
      have HG := Lib.hid (d.units[k].hash_five)
      have hgz := hS.blk.lt
      obtain ⟨_, rr⟩ := hS.row
      have hgz2 : g < wr.heap.size := rr.lt rfl
      clear rr
      obtain ⟨h5, hh5⟩ : ∃ h5, h5 = fnvs h4 ((d.units.take k).flatMap Ut.hash) := ⟨_, rfl⟩
      rw [← hh5] at hS
      have HH5 := Lib.hid hh5
      have HKP := Lib.hid hkp
      have HSS := Lib.hid (hS.far ((Keep.refl Non wr).alloc (.cells d.units[k].cells6.toArray 61)))
      have HBK := Lib.hid (Blk.new wr d.units[k].cells6 61)
      simp only [Ut.cells6] at HSS HBK
      clear hh5 hu' hca hS hkp
      generalize d.units[k] = u at *
      go_wp2_with fail
      refine (h32 gh g n c u.sl _ _ HSS.out e0).mono ?_
      rintro e v0 ⟨rfl, s0, kk0⟩
      have KL0 : Hid (Keep (fun i => i = gh ∨ i = g) (wr.alloc (.cells #[.int .u32 u.sl, .int .u32 u.sc, .int .u32 u.el, .int .u32 u.ec, .int .u32 u.ns, .int .u32 0] 61)) v0) := Lib.hid kk0
      have l1 : v0.cell? ⟨wr.heap.size, 1, none⟩ = some (.int .u32 u.sc) := by
        rw [(HBK.out.keep KL0.out (fun e => by omega)).cell]; rfl
      have HS0 := Lib.hid s0
      clear s0 kk0
      go_wp2_with fail
      refine (h32 gh g n c u.sc _ _ HS0.out e1).mono ?_
      rintro e v1 ⟨rfl, s1, kk1⟩
      have KL1 := Lib.hid (KL0.out.trans' kk1)
      have l2 : v1.cell? ⟨wr.heap.size, 2, none⟩ = some (.int .u32 u.el) := by
        rw [(HBK.out.keep KL1.out (fun e => by omega)).cell]; rfl
      have HS1 := Lib.hid s1
      clear s1 kk1
      go_wp2_with fail
      refine (h32 gh g n c u.el _ _ HS1.out e2).mono ?_
      rintro e v2 ⟨rfl, s2, kk2⟩
      have KL2 := Lib.hid (KL1.out.trans' kk2)
      have l3 : v2.cell? ⟨wr.heap.size, 3, none⟩ = some (.int .u32 u.ec) := by
        rw [(HBK.out.keep KL2.out (fun e => by omega)).cell]; rfl
      have HS2 := Lib.hid s2
      clear s2 kk2
      go_wp2_with fail
      refine (h32 gh g n c u.ec _ _ HS2.out e3).mono ?_
      rintro e v3 ⟨rfl, s3, kk3⟩
      have KL3 := Lib.hid (KL2.out.trans' kk3)
      have l4 : v3.cell? ⟨wr.heap.size, 4, none⟩ = some (.int .u32 u.ns) := by
        rw [(HBK.out.keep KL3.out (fun e => by omega)).cell]; rfl
      have HS3 := Lib.hid s3
      clear s3 kk3
      go_wp2_with fail
      refine (h32 gh g n c u.ns _ _ HS3.out e4).mono ?_
      rintro e v4 ⟨rfl, s4, kk4⟩
      have KL4 := Lib.hid (KL3.out.trans' kk4)
      go_wp2_with fail
      go_roundw
      case measure => simp [intOf]; omega
      case rel =>
        refine ⟨k + 1, by omega, by go_num, ?_, (HKP.out.alloc _).trans' KL4.out⟩
        rw [HSN.out, fnvs_append, ← HH5.out, HG.out]
        simpa only [fnvs_append] using s4
    · obtain rfl : k = d.units.length := by omega
      rw [List.take_of_length_le (Nat.le_refl _)] at hS
      have hx1 : litN d.lit < 4294967296 := by have := litN_lt d.lit; omega
      obtain ⟨h5, hh5⟩ : ∃ h5, h5 = fnvs h4 (d.units.flatMap Ut.hash) := ⟨_, rfl⟩
      rw [← hh5] at hS
      have HH5 := Lib.hid hh5
      have HSS := Lib.hid hS
      have HKP := Lib.hid hkp
      have x3 : wr.cell? ⟨gf, 3, none⟩ = some (.bool d.lit) := hkp.cell f3 (fun e => by
        rcases e with e | e
        · exact hgf1 e
        · exact hgf2 e)
      have HGL : Hid (fnvs h d.hash = fnvs h5 (leB 4 (litN d.lit))) := Lib.hid (by rw [hash_one, ← HH4.out, hh5])
      clear hh5 hS hkp
      generalize hld : d.lit = b at *
      cases b with
      | false =>
        go_wp2_with fail
        refine (h32 gh g n c (litN false) _ _ HSS.out hx1).mono ?_
        rintro e v1 ⟨rfl, s1, kk1⟩
        go_wp2
        go_end0
        exact ⟨rfl, by rw [HGL.out]; exact s1, HKP.out.trans' kk1⟩
      | true =>
        go_wp2_with fail
        refine (h32 gh g n c (litN true) _ _ HSS.out hx1).mono ?_
        rintro e v1 ⟨rfl, s1, kk1⟩
        go_wp2
        go_end0
        exact ⟨rfl, by rw [HGL.out]; exact s1, HKP.out.trans' kk1⟩
end Go.Proofs.YtbmidlaakbpnlaaDoor
