/-
  CONTRACTS of the writer of a table of texts: beginning, how many, how long.
-/
import Derived.Test.YtbmidlaakbpnlaaDoorTab
import Derived.Deep.CutRange
import Derived.Deep.CutBlock
namespace Go.Proofs.YtbmidlaakbpnlaaDoor
open Go.RowKit
open Go.ChangeShapes Go.WideShapes Go.ChangeAt Go.Deep
open Plain (M64)

/-- The bytes of a text in a table, and of a table. -/
def tone (s : ByteArray) : List UInt8 := uleb s.size ++ s.data.toList
def tbytes (all : List ByteArray) : List UInt8 := uleb all.length ++ all.flatMap tone
theorem tone_len {s : ByteArray} (h : s.size ≤ 1000) : (tone s).length ≤ 1010 := by
  have := uleb_len64 (v := s.size) (by unfold M64; omega)
  have e : s.data.toList.length = s.size := Array.length_toList
  simp [tone] at *
  omega
theorem tones_len : ∀ (l : List ByteArray), (∀ s ∈ l, s.size ≤ 1000) → (l.flatMap tone).length ≤ 1010 * l.length
  | [], _ => by simp
  | s :: l, h => by
    have h1 := tone_len (h s List.mem_cons_self)
    have h2 := tones_len l (fun x hx => h x (List.mem_cons_of_mem _ hx))
    rw [List.flatMap_cons, List.length_append, List.length_cons]
    omega
theorem tones_snoc {l : List ByteArray} {k : Nat} (h : k < l.length) : (l.take (k + 1)).flatMap tone = (l.take k).flatMap tone ++ tone l[k] := by
  rw [List.take_succ_eq_append_getElem h, List.flatMap_append]; simp
theorem Keep.undrew {S : Nat → Prop} {w w' : World} (k : Keep S w.drew w') : Keep S w w' := ⟨k.os, k.tape, k.output, k.size, k.block⟩
theorem Tab.c0 {w : World} {g : Nat} {T : TypeId} {rest : List Value} {mb : Nat} {st tm : Value} {fz : Bool} {all : List ByteArray} (h : Tab w g T rest mb st tm fz all) : w.cell? ⟨g, 0, none⟩ = some (.map (some mb)) := by rw [h.blk.cell]; rfl
theorem Tab.c1 {w : World} {g : Nat} {T : TypeId} {rest : List Value} {mb : Nat} {st tm : Value} {fz : Bool} {all : List ByteArray} (h : Tab w g T rest mb st tm fz all) : w.cell? ⟨g, 1, none⟩ = some st := by rw [h.blk.cell]; rfl
theorem Tab.c2 {w : World} {g : Nat} {T : TypeId} {rest : List Value} {mb : Nat} {st tm : Value} {fz : Bool} {all : List ByteArray} (h : Tab w g T rest mb st tm fz all) : w.cell? ⟨g, 2, none⟩ = some tm := by rw [h.blk.cell]; rfl
theorem Tab.c3 {w : World} {g : Nat} {T : TypeId} {rest : List Value} {mb : Nat} {st tm : Value} {fz : Bool} {all : List ByteArray} (h : Tab w g T rest mb st tm fz all) : w.cell? ⟨g, 3, none⟩ = some (.bool fz) := by rw [h.blk.cell]; rfl
/-- Its scratch is another one: what was done was done to the old one. -/
theorem Tab.retmp {w w' : World} {g : Nat} {T : TypeId} {rest : List Value} {mb : Nat} {st tm tm' : Value} {fz : Bool} {all : List ByteArray} (h : Tab w g T rest mb st tm fz all) (hT : 9 ≠ T) (hT2 : 5 ≠ T) (k : Keep (Own tm) w w') {n : Nat} {bs : List UInt8}
    (r : Row w' 5 1 tm' n (B bs)) (hn : n ≤ 1000) (hs : ∃ b n c, tm' = .slice (some ⟨b, 0, none⟩) n c) : Tab (w'.setCell ⟨g, 2, none⟩ tm') g T rest mb st tm' fz all := by
  obtain ⟨n0, bs0, r0, _⟩ := h.tmp
  have b1 := h.blk.keep k (fun e => r0.neBlk h.blk hT2 e)
  have m1 := h.map.keep k (fun e => h.map.neRow r0 e)
  have s1 := h.strs.keep k (fun b hb e => h.strs.ne r0 (by decide) hb e)
  refine ⟨?_, m1.keep (Keep.one w' g 2 tm') (fun e => m1.neBlk b1 e), ?_, ⟨n, bs, ?_, hn⟩, hs, h.short⟩
  · have := b1.set 2 tm'
    simpa [tcells] using this
  · exact s1.keep (Keep.one w' g 2 tm') (fun b hb e => s1.neBlk b1 hT (by rw [hb]; exact congrArg _ (show b = g from e)))
  · exact r.keep (Keep.one w' g 2 tm') (fun b hb e => r.neBlk b1 hT2 (by rw [hb]; exact congrArg _ (show b = g from e)))
set_option maxRecDepth 100000 in
set_option maxHeartbeats 2000000 in
theorem initWriter (g : Nat) (T : TypeId) (rest : List Value) (w : World) (hb : Blk w g ([.map none, .slice none 0 0, .slice none 0 0, .bool false] ++ rest) T) :
    Calls Tryd.prog 26 #[.pointer (some ⟨g, 0, none⟩)] w fun e w' => e = .returned (.tuple #[]) ∧ ∃ mb tm, Tab w' g T rest mb (.slice none 0 0) tm false [] ∧ Keep (At g) w w' ∧ w.heap.size ≤ mb ∧ (∀ b, tm.ownBlock = some b → w.heap.size ≤ b) := by
  have c0 : w.cell? ⟨g, 0, none⟩ = some (.map none) := by rw [hb.cell]; rfl
  have c2 : w.cell? ⟨g, 2, none⟩ = some (.slice none 0 0) := by rw [hb.cell]; rfl
  have f0 := hb.free 0
  have f2 := hb.free 2
  have hz := hb.lt
  have hmm := @run_makeMap Tryd.prog
  have hmk : ∀ W, (Instr.makeSlice 31 (.int .i64 64) (.int .i64 64)).run Tryd.prog W = _ := fun W => run_make_row' (P := Tryd.prog) 31 5 (.int .u8 0) 1 Tryd.underlying31 (by kernel_rfl) rfl .i64 .i64 64 (by omega) (by omega) W
  have HB := Lib.hid hb
  clear hb
  go_enter Tryd.func26, Tryd.ntmps26
  go_wp2
  go_end0
  have hm : madeCells #[.int .u8 0] 64 = (B (List.replicate 64 0)).toArray := by
    apply Array.ext'
    rw [toList_madeCells_one]
    simp [B]
  rw [hm]
  obtain ⟨W1, hW1⟩ : ∃ W1, W1 = (w.setCell ⟨g, 0, none⟩ (.map (some w.heap.size))).setCell ⟨g, 2, none⟩ (.slice (some ⟨w.heap.size + 1, 0, none⟩) 64 64) := ⟨_, rfl⟩
  have ez : W1.heap.size = w.heap.size := by rw [hW1]; simp
  have bk : Blk W1 g (tcells w.heap.size (.slice none 0 0) (.slice (some ⟨w.heap.size + 1, 0, none⟩) 64 64) false rest) T := by
    rw [hW1]
    have := (HB.out.set 0 (.map (some w.heap.size))).set 2 (.slice (some ⟨w.heap.size + 1, 0, none⟩) 64 64)
    simpa [tcells] using this
  have kk : Keep (At g) w W1 := by rw [hW1]; exact ((Keep.refl _ _).setAt _ _ _ (atSelf _)).setAt _ _ _ (atSelf _)
  have ow : (W1.alloc (.map #[] 0)).ownsMap Tryd.prog 9 (plainElem (H := Unit) Tryd.prog 47) W1.heap.size 0 (.map []) := World.ownsMap_made _ _ _ _
  have e1 : (W1.alloc (.map #[] 0)).heap.size = w.heap.size + 1 := by simp [ez]
  have rw1 := Row.lit (W1.alloc (.map #[] 0)) 5 1 (B (List.replicate 64 0)) 64 (by decide) (by simp [B])
  rw [e1] at rw1
  rw [ez] at ow
  rw [← hW1]
  refine ⟨rfl, w.heap.size, .slice (some ⟨w.heap.size + 1, 0, none⟩) 64 64, ⟨(bk.alloc _).alloc _, ?_, Row.nil _ _ _, ⟨64, List.replicate 64 0, rw1, by omega⟩, ⟨_, _, _, rfl⟩, by simp⟩, (kk.alloc _).alloc _, Nat.le_refl _, ?_⟩
  · exact OwnsTab.keep (S := Non) ⟨_, ow, tabD_empty⟩ ((Keep.refl Non _).alloc _) (fun h => h)
  · intro b hb
    simp [Value.ownBlock] at hb
    omega
set_option maxRecDepth 100000 in
theorem nentries (g : Nat) (T : TypeId) (rest : List Value) (mb : Nat) (st tm : Value) (fz : Bool) (all : List ByteArray) (w : World) (h : Tab w g T rest mb st tm fz all) (hl : all.length ≤ 1000000) :
    Calls Tryd.prog 33 #[.pointer (some ⟨g, 0, none⟩)] w fun e w' => e = .returned (.int .u32 all.length) ∧ w' = w := by
  have c1 := h.c1
  obtain ⟨a, c, rfl⟩ := h.strs.reads.slice
  clear h
  go_enter Tryd.func33, Tryd.ntmps33
  go_wp2
  go_ret
  exact ⟨rfl, rfl⟩
/-- AppendUleb128 onto emptied scratch. -/
def Uleb0 (b x : Nat) (w : World) (e : Ending) (w' : World) : Prop :=
  ∃ vb vc, e = .returned (.slice (some ⟨vb, 0, none⟩) (uleb x).length vc) ∧ Row w' 5 1 (.slice (some ⟨vb, 0, none⟩) (uleb x).length vc) (uleb x).length (B (uleb x)) ∧ Keep (At b) w w' ∧ (vb = b ∨ w.heap.size ≤ vb)
theorem uleb0 (b c x : Nat) (w : World) (hx : x < M64) (hown : Row w 5 1 (.slice (some ⟨b, 0, none⟩) 0 c) 0 (B [])) : Calls Tryd.prog 30 #[.slice (some ⟨b, 0, none⟩) 0 c, .int .u64 x] w (Uleb0 b x w) := by
  refine (appendUleb _ 0 [] x w hx hown (Nat.zero_le _)).mono ?_
  rintro e w' ⟨v', rfl, r, k, l⟩
  rw [Nat.zero_add, List.nil_append] at r
  obtain ⟨vb, vc, rfl⟩ := r.at (List.length_pos_iff.2 (uleb_ne x))
  refine ⟨vb, vc, rfl, r, k.mono (fun i _ e => ?_), ?_⟩
  · have : b = i := by simpa [Own, Value.ownBlock] using e
    exact this.symm
  · rcases l vb rfl with h | h
    · exact .inl (by simpa [Value.ownBlock] using h.symm)
    · exact .inr h
/-- Its scratch after a number was laid there: like 'retmp', in the words of 'Uleb0'. -/
theorem Tab.laid {w w' : World} {g : Nat} {T : TypeId} {rest : List Value} {mb : Nat} {st : Value} {fz : Bool} {all : List ByteArray} {b n c vb vc x : Nat} (h : Tab w g T rest mb st (.slice (some ⟨b, 0, none⟩) n c) fz all) (hT : 9 ≠ T) (hT2 : 5 ≠ T) (hx : x < M64) (k : Keep (At b) w w')
    (r : Row w' 5 1 (.slice (some ⟨vb, 0, none⟩) (uleb x).length vc) (uleb x).length (B (uleb x))) :
    Blk w' g (tcells mb st (.slice (some ⟨b, 0, none⟩) n c) fz rest) T ∧ Tab (w'.setCell ⟨g, 2, none⟩ (.slice (some ⟨vb, 0, none⟩) (uleb x).length vc)) g T rest mb st (.slice (some ⟨vb, 0, none⟩) (uleb x).length vc) fz all ∧
    Row (w'.setCell ⟨g, 2, none⟩ (.slice (some ⟨vb, 0, none⟩) (uleb x).length vc)) 5 1 (.slice (some ⟨vb, 0, none⟩) (uleb x).length vc) (uleb x).length (B (uleb x)) := by
  obtain ⟨n0, bs0, r0, _⟩ := h.tmp
  have hbg : b ≠ g := fun e => r0.neBlk h.blk hT2 (by rw [← e]; rfl)
  have b1 := h.blk.keep k (fun e => hbg (Eq.symm e))
  have hlu := uleb_len64 hx
  refine ⟨b1, h.retmp hT hT2 (k.mono fun i _ e => ?_) r (by omega) ⟨_, _, _, rfl⟩, r.keep (Keep.one w' g 2 _) (fun i hb e => r.neBlk b1 hT2 (by rw [hb]; exact congrArg _ (show i = g from e)))⟩
  have e' : i = b := e
  subst e'; rfl
/-- Behind Size. -/
def SizePost (g : Nat) (T : TypeId) (rest : List Value) (mb : Nat) (st tm : Value) (fz : Bool) (all : List ByteArray) (w : World) (e : Ending) (w' : World) : Prop :=
  ∃ tm', e = .returned (.int .u32 (tbytes all).length) ∧ Tab w' g T rest mb st tm' fz all ∧ Keep (fun i => i = g ∨ tm.ownBlock = some i) w w' ∧ (∀ b, tm'.ownBlock = some b → tm.ownBlock = some b ∨ w.heap.size ≤ b)
/-- Scratch is emptied, and a number is laid there. -/
theorem Tab.scratch {w : World} {g : Nat} {T : TypeId} {rest : List Value} {mb : Nat} {st : Value} {fz : Bool} {all : List ByteArray} {b n c : Nat} (h : Tab w g T rest mb st (.slice (some ⟨b, 0, none⟩) n c) fz all) (hT : 9 ≠ T) (hT2 : 5 ≠ T) :
    Tab (w.setCell ⟨g, 2, none⟩ (.slice (some ⟨b, 0, none⟩) 0 c)) g T rest mb st (.slice (some ⟨b, 0, none⟩) 0 c) fz all ∧ Row (w.setCell ⟨g, 2, none⟩ (.slice (some ⟨b, 0, none⟩) 0 c)) 5 1 (.slice (some ⟨b, 0, none⟩) 0 c) 0 (B []) := by
  obtain ⟨n0, bs0, r0, _⟩ := h.tmp
  have hn : n0 = n := by
    rcases r0.shape with ⟨h, _⟩ | ⟨_, _, h, _⟩
    · cases h
    · cases h; rfl
  subst hn
  have rz : Row w 5 1 (.slice (some ⟨b, 0, none⟩) 0 c) 0 (B []) := r0.zero
  refine ⟨h.retmp hT hT2 (Keep.refl _ _) rz (by omega) ⟨_, _, _, rfl⟩, rz.keep (Keep.one w g 2 _) (fun b' hb e => ?_)⟩
  exact r0.neBlk h.blk hT2 (by have e' : b' = g := e; rw [← e']; exact hb)
set_option maxRecDepth 100000 in
set_option maxHeartbeats 4000000 in
theorem size (g : Nat) (T : TypeId) (rest : List Value) (mb : Nat) (st tm : Value) (fz : Bool) (all : List ByteArray) (w : World) (h : Tab w g T rest mb st tm fz all) (hT : 9 ≠ T) (hT2 : 5 ≠ T) (hl : all.length ≤ 1000) :
    Calls Tryd.prog 38 #[.pointer (some ⟨g, 0, none⟩)] w (SizePost g T rest mb st tm fz all w) := by
  obtain ⟨tb, tn, tc, rfl⟩ := h.shape
  obtain ⟨sa, sc, rfl⟩ := h.strs.reads.slice
  obtain ⟨h1, r1⟩ := h.scratch hT hT2
  have c1 := h.c1
  have c2 := h.c2
  have f2 := h.blk.free 2
  have hgz := h.blk.lt
  have H := Lib.hid h
  have H1 := Lib.hid h1
  have R1 := Lib.hid r1
  clear h h1 r1
  have hx : all.length < M64 := by unfold M64; omega
  go_enter Tryd.func38, Tryd.ntmps38
  go_upto_region 3 with (fail)
  go_cut [2] from 15 to 28 (fun v wx => v = .int .u32 0 ∧ ∃ tm', Tab wx g T rest mb (.slice sa all.length sc) tm' fz all ∧ Row wx 5 1 tm' (uleb all.length).length (B (uleb all.length)) ∧ Keep (fun i => i = g ∨ (Value.slice (some ⟨tb, 0, none⟩) tn tc).ownBlock = some i) w wx ∧ (∀ b, tm'.ownBlock = some b → (Value.slice (some ⟨tb, 0, none⟩) tn tc).ownBlock = some b ∨ w.heap.size ≤ b))
  case first =>
    have hwr : IntKind.u64.wrap (all.length : Int) = (all.length : Int) := Plain.wrap_u64 _ (by omega) (by unfold M64; omega)
    go_region_law (go_simp; go_at_call 30; go_must (refine (uleb0 tb tc all.length _ hx R1.out.drew).mono ?_); rintro e w2 ⟨vb, vc, rfl, r2, k2, l2⟩; obtain ⟨t2, t3, r3⟩ := H1.out.laid hT hT2 hx k2.undrew r2; have d2 : w2.cell? ⟨g, 2, none⟩ = some (.slice (some ⟨tb, 0, none⟩) 0 tc) := (by rw [t2.cell]; rfl); have e2 := t2.free 2)
    all_goals
      go_wp2_with fail
      go_meet
      case rel =>
        refine ⟨rfl, _, t3, r3, ?_, fun b hb => ?_⟩
        · refine Keep.setAt ?_ _ _ _ (.inl rfl)
          refine Keep.trans (S' := At tb) ?_ k2.undrew (fun i _ e => .inr (congrArg some (Eq.symm e)))
          exact (Keep.refl _ _).setAt _ _ _ (.inl rfl)
        · simp only [Value.ownBlock, Option.some.injEq] at hb
          subst hb
          rcases l2 with e | e
          · exact .inl (congrArg some e.symm)
          · right; simpa using e
  case rest =>
    obtain ⟨rfl, tm', hT', hr', hk', hl'⟩ := hcut
    have hlu := uleb_len64 hx
    obtain ⟨va, vc, hve⟩ := hr'.reads.slice
    subst hve
    have d1 := hT'.c1
    have d2 := hT'.c2
    have hszs := tones_len all hT'.short
    have HTW := Lib.hid hT'
    have HR := Lib.hid hr'
    have HK := Lib.hid hk'
    have HL := Lib.hid hl'
    clear hT' hr' hk' hl'
    go_wp2
    go_loopw [3, 42] (fun rv i wr => ∃ (k : Nat) (tm' : Value) (q : Nat), k ≤ all.length ∧ i = .int .i64 k ∧ rv = .int .u32 (q : Int) ∧ q = (uleb all.length).length + ((all.take k).flatMap tone).length ∧ Tab wr g T rest mb (.slice sa all.length sc) tm' fz all ∧ Keep (fun i => i = g ∨ (Value.slice (some ⟨tb, 0, none⟩) tn tc).ownBlock = some i) w wr ∧ (∀ b, tm'.ownBlock = some b → (Value.slice (some ⟨tb, 0, none⟩) tn tc).ownBlock = some b ∨ w.heap.size ≤ b)) (fun _ i _ => all.length - (intOf i).toNat)
    case atStart => exact ⟨0, _, _, by omega, rfl, rfl, by simp, HTW.out, HK.out, HL.out⟩
    case round =>
      obtain ⟨k, tm', q, hk, rfl, rfl, hq, hT', hk', hl'⟩ := hrel
      by_cases hlt : k < all.length
      · obtain ⟨ub, un, uc, rfl⟩ := hT'.shape
        obtain ⟨sb, sc', hse⟩ := hT'.strs.at (by omega)
        cases hse
        have e0 := hT'.strs.cell k (by omega)
        rw [Ts_at hlt] at e0
        have e2 := hT'.c2
        have ef2 := hT'.blk.free 2
        obtain ⟨h1, r1⟩ := hT'.scratch hT hT2
        have hsk := hT'.short _ (List.getElem_mem hlt)
        have hsn := tones_snoc hlt
        have hle : ((all.take k).flatMap tone).length ≤ 1010 * k := by
          have := tones_len (all.take k) (fun s hs => hT'.short s (List.mem_of_mem_take hs))
          have h2 := List.length_take_le k all
          have : 1010 * (all.take k).length ≤ 1010 * k := Nat.mul_le_mul_left _ h2
          omega
        have hqb : q ≤ 1010010 := by omega
        have HQ := Lib.hid hq
        have HS := Lib.hid hsn
        have H2 := Lib.hid h1
        have R2 := Lib.hid r1
        have HK' := Lib.hid hk'
        have HL' := Lib.hid hl'
        have hgz' := hT'.blk.lt
        clear hsn h1 r1 hT' hk' hl' hq hle
        have hxs : all[k].size < M64 := by unfold M64; omega
        generalize all[k] = s at *
        have hlu2 := uleb_len64 hxs
        go_wp2_with (go_at_call 30; go_must (refine (uleb0 ub uc s.size _ hxs R2.out).mono ?_); rintro e w2 ⟨vb', vc', rfl, r2, k2, l2⟩; obtain ⟨t2, t3, r3⟩ := H2.out.laid hT hT2 hxs k2 r2; have x2 : w2.cell? ⟨g, 2, none⟩ = some (.slice (some ⟨ub, 0, none⟩) 0 uc) := (by rw [t2.cell]; rfl); have y2 := t2.free 2)
        go_roundw
        case measure => simp [intOf]; omega
        case rel =>
          refine ⟨k + 1, _, q + ((uleb s.size).length + s.size), by omega, by go_num, by go_num, ?_, t3, ?_, fun b hb => ?_⟩
          · rw [HS.out, HQ.out, List.length_append, tone, List.length_append, show s.data.toList.length = s.size from Array.length_toList]
            omega
          · refine Keep.setAt ?_ _ _ _ (.inl rfl)
            refine Keep.trans (S' := At ub) ?_ k2 (fun i hi e => ?_)
            · exact HK'.out.setAt _ _ _ (.inl rfl)
            · rcases HL'.out i (congrArg some (Eq.symm e)) with h | h
              · exact .inr h
              · omega
          · have := HK'.out.size
            simp only [Value.ownBlock, Option.some.injEq] at hb
            subst hb
            rcases l2 with e | e
            · exact HL'.out _ (congrArg some e.symm)
            · right; simp at e; omega
      · have hkl : k = all.length := by omega
        subst hkl
        rw [List.take_of_length_le (Nat.le_refl _)] at hq
        have HQ := Lib.hid hq
        clear hq
        have HT2 := Lib.hid hT'
        have HK' := Lib.hid hk'
        have HL' := Lib.hid hl'
        clear hT' hk' hl'
        go_wp2
        go_ret
        exact ⟨_, by rw [tbytes, List.length_append, ← HQ.out]; rfl, HT2.out, HK'.out, HL'.out⟩
end Go.Proofs.YtbmidlaakbpnlaaDoor
