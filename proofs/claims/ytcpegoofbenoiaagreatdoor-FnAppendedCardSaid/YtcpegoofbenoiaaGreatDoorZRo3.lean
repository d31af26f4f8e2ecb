/-
  CONTRACT of impl.ReadCounters.
-/
import Derived.Test.YtcpegoofbenoiaaGreatDoorZGRo1
import Derived.Test.YtcpegoofbenoiaaGreatDoorZJc
namespace Go.Proofs.YtcpegoofbenoiaaGreatDoor
open Go.RowKit
open Go.ChangeShapes Go.WideShapes Go.ChangeAt Go.Deep
open Plain (M64)

/-- Behind impl.ReadCounters. -/
def ReadC (C : List Ch) (w : World) (e : Ending) (w' : World) : Prop :=
  ∃ n0 ov L, e = .returned (.tuple #[ov, .int .u32 C.length, .bool true]) ∧ OutR w' n0 ov L ∧ L.map SgV.sg = C.map (·.1) ∧ Keep Non w w' ∧ w.heap.size ≤ n0
/-- The reader's blocks are new. -/
structure High (n gd g bu b8 : Nat) : Prop where
  d : n ≤ gd
  g : n ≤ g
  u : n ≤ bu
  e : n ≤ b8
theorem map_len {C : List Ch} {L : List SgV} {k : Nat} (h : L.map SgV.sg = (C.take k).map (·.1)) (hk : k ≤ C.length) : L.length = k := by
  have := congrArg List.length h
  simp at this
  omega
/-- None of them has functions. -/
def Bare (L : List SgV) : Prop := ∀ x ∈ L, x.funs = [] ∧ x.fv = .slice none 0 0
section
variable {w w' : World} {n0 : Nat} {ov : Value} {L : List SgV} {S : Nat → Prop} {gs gp a b m : Nat} {X : SgV} {v : Value} {xs : List Value}
theorem OutR.keepB (h : OutR w n0 ov L) (hb : Bare L) (k : Keep S w w') (h1 : ∀ b, ov.ownBlock = some b → ¬ S b) (h2 : ∀ x ∈ L, ∀ b, x.av.ownBlock = some b → ¬ S b) : OutR w' n0 ov L :=
  ⟨h.row.keep k h1, h.own, fun x hx => by
    obtain ⟨e1, e2⟩ := hb x hx
    exact (h.each x hx).keep k (h2 x hx) (fun b hb => by rw [e2] at hb; simp [Value.ownBlock] at hb) (fun y hy => by rw [e1] at hy; cases hy)⟩
theorem OutR.read (h : OutR w n0 ov L) (hb : Bare L) (hp : Pay w gp n0 a b v m xs) (k : Keep S w w') (hS : ∀ i, S i → i < n0 ∨ i = gp ∨ v.ownBlock = some i) : OutR w' n0 ov L := by
  have key : ∀ {e : TypeId} {size n : Nat} {u : Value} {us : List Value}, Row w e size u n us → e ≠ 79 → e ≠ 36 → (∀ b, u.ownBlock = some b → n0 ≤ b) → ∀ b, u.ownBlock = some b → ¬ S b := fun hr h1 h2 ho b hb e => by
    rcases hS b e with e | e | e
    · have := ho b hb; omega
    · exact hr.neBlk hp.blk h1 (by rw [hb, e])
    · exact hr.ne hp.row h2 hb e
  exact h.keepB hb k (key h.row (by decide) (by decide) h.own) (fun x hx => key (h.each x hx).args (by decide) (by decide) (h.each x hx).oa)
theorem OutR.aside (h : OutR w n0 ov L) (hb : Bare L) (hX : InR w n0 gs gp X a b v m xs) (hgs : ov.ownBlock ≠ some gs) (k : Keep S w w') (hS : ∀ i, i < w.heap.size → S i → X.fv.ownBlock = some i ∨ i = gs) : OutR w' n0 ov L :=
  h.keepB hb k (fun b hb e => by
    rcases hS b (h.row.lt hb) e with e | e
    · exact h.row.ne hX.got.funs (by decide) hb e
    · exact hgs (by rw [hb, e])) (fun x hx b hb e => by
    rcases hS b ((h.each x hx).args.lt hb) e with e | e
    · exact (h.each x hx).args.ne hX.got.funs (by decide) hb e
    · exact (h.each x hx).args.neBlk hX.box (by decide) (by rw [hb, e]))
theorem MidAt.aside {packed : Bool} {C : List Ch} {gd g bb c bu b8 : Nat} {bs : List UInt8} {k j : Nat} {x : Ch} (h : MidAt w packed C gd g bb c bu b8 bs k j x) (hlo : Low n0 gd g bb bu b8) (hX : InR w n0 gs gp X a b v m xs) (kk : Keep S w w') (hS : ∀ i, S i → X.fv.ownBlock = some i ∨ i = gs) : MidAt w' packed C gd g bb c bu b8 bs k j x :=
  h.high kk hlo (fun i e => by
    rcases hS i e with e | e
    · exact hX.got.of i e
    · rw [e]; exact hX.le) (fun hr b hb e => by
    rcases hS b e with e | e
    · exact hr.ne hX.got.funs (by decide) hb e
    · exact hr.neBlk hX.box (by decide) (by rw [hb, e]))
theorem HeadAt.aside {packed : Bool} {C : List Ch} {gd g bb c bu b8 : Nat} {bs : List UInt8} {k : Nat} (h : HeadAt w packed C gd g bb c bu b8 bs k) (hlo : Low n0 gd g bb bu b8) (ho : OutR w n0 ov L) (kk : Keep (Own ov) w w') : HeadAt w' packed C gd g bb c bu b8 bs k :=
  h.high kk hlo (fun i e => ho.own i e) (fun hr b hb e => hr.ne ho.row (by decide) hb e)
end
theorem ts_one (l : List ByteArray) : ∀ u ∈ Ts l, u.oneCell' = true := by
  intro u hu
  simp [Ts] at hu
  obtain ⟨b, _, rfl⟩ := hu
  rfl
set_option maxRecDepth 100000 in
set_option maxHeartbeats 4000000 in
theorem readCountersT (packed : Bool) (hash : List UInt8) (C : List Ch) (bs : List UInt8) (dv : Value) (w : World) (hf : Fil packed hash C bs) (hne : C ≠ []) (hs : Reads w 1 dv bs.length (B bs)) (hM : Mag w) :
    Calls Tryz.prog 11 #[dv] w (ReadC C w) := by
  obtain ⟨da, dc, rfl⟩ := hs.slice
  have hl := hf.hl
  obtain ⟨x0, C0, hC0⟩ : ∃ x0 C0, C = x0 :: C0 := by
    cases C with
    | nil => exact absurd rfl hne
    | cons x l => exact ⟨x, l, rfl⟩
  have hx0 : C[0]? = some x0 := by rw [hC0]; rfl
  have h1 : 32 ≤ bs.length := by
    have := hf.file.len hf.hh
    rw [posOf] at this; omega
  have hcl := hf.n
  have HS := Lib.hid hs
  have HF := Lib.hid hf
  have HM := Lib.hid hM
  have HX0 := Lib.hid hx0
  have HC0 := Lib.hid hC0
  have R0 : Row (w.alloc (.cells #[] 5)) 5 1 (.slice (some ⟨w.heap.size, 0, none⟩) 0 0) 0 (B []) := Row.lit w 5 1 [] 0 (by decide) rfl
  have HR0 := Lib.hid R0
  clear hs hf hM hx0 hC0 R0 hne
  go_enter Tryz.func11, Tryz.ntmps11
  go_upto_region 1 with (fail)
  go_wp2_with (at_builtin; go_must (refine wpList_app (n := 0) (xs := B []) (m := bs.length) sliceBytes rfl _ _ rfl rfl HR0.out rfl (HS.out.alloc _) (B_one _) (by unfold maxLen; omega) (by omega) ?_); intro v1 w1 r1 g1 n1; rw [Nat.zero_add] at r1; obtain ⟨b1, c1, rfl⟩ : ∃ b1 c1, v1 = .slice (some ⟨b1, 0, none⟩) bs.length c1 := (by rcases r1.shape2 with ⟨_, h0⟩ | ⟨b1, c1, h, _⟩; omega; exact ⟨b1, c1, h⟩))
  have hcap : bs.length ≤ c1 := by
    obtain ⟨cur, hcb, hcl, hct, hnc, hcm⟩ := r1.whole
    exact hnc
  have HK1 : Hid (Keep Non w w1) := Lib.hid (((Keep.refl Non w).alloc _).trans g1.keep (fun i hi e => by simp [Own, Value.ownBlock, Act.eval] at e; omega))
  have hr1 : Reads w1 1 (.slice (some ⟨b1, 0, none⟩) bs.length c1) bs.length (B bs) := by
    have := r1.reads
    rwa [show B [] ++ B bs = B bs from rfl] at this
  have hb1 : w.heap.size ≤ b1 := by
    rcases g1.lies (g := b1) rfl with e | e
    · simp [Value.ownBlock, Act.eval] at e; omega
    · simp at e; omega
  have hb1l : b1 < w1.heap.size := hr1.blk (by omega) (by decide) b1 rfl
  have HR1 := Lib.hid hr1
  clear r1 g1 n1 HR0 HS hr1
  refine (newReader (some ⟨b1, 0, none⟩) bs.length c1 w1).mono ?_
  rintro e w2 ⟨rfl, b2, k2⟩
  obtain ⟨g, hg⟩ : ∃ g, g = w1.heap.size := ⟨_, rfl⟩
  rw [← hg] at b2 ⊢
  have hR2 : RR w2 g b1 c1 0 bs := ⟨b2, HR1.out.keep k2 (fun _ _ h => h), hcap, by omega⟩
  have HR2 := Lib.hid hR2
  have HK2 := Lib.hid (HK1.out.trans' k2)
  have HM2 := Lib.hid (HM.out.far HK2.out)
  have hgl : w.heap.size ≤ g := by have := HK1.out.size; omega
  have HGG := Lib.hid hg
  clear b2 k2 hR2 HR1 HK1 hg
  go_wp2_with (go_at_call 22; go_must (refine (newDr packed hash C0 x0 g b1 c1 bs _ w2 HR2.out HM2.out (by rw [← HC0.out]; exact HF.out.file) HF.out.hh hl (HF.out.ok x0 (List.mem_of_getElem? HX0.out)) (by have := HC0.out; have : C.length = C0.length + 1 := (by rw [HC0.out]; rfl); omega)).mono ?_); rintro e w3 ⟨gd, bu, b8, cs3, rfl, hC3, hT3, k3, l1, l2, l3⟩)
  have hhi : High w.heap.size gd g bu b8 := ⟨by have := HK2.out.size; omega, hgl, by have := HK2.out.size; omega, by have := HK2.out.size; omega⟩
  have hk3 : Keep Non w w3 := HK2.out.trans k3 (fun i hi e => by have e : i = g := e; omega)
  obtain ⟨us, _, hu⟩ := hC3.mu
  obtain ⟨vs, _, h8⟩ := hC3.m8
  have hlo : Low w3.heap.size gd g b1 bu b8 := ⟨hC3.d.blk.lt, hC3.d.rd.blk.lt, by have := hC3.d.rd.blk.lt; have := HGG.out; omega, hu.lt, h8.lt⟩
  have hH3 : HeadAt w3 packed C gd g b1 c1 bu b8 bs 0 := by
    refine .inl ⟨rfl, x0, HX0.out, cs3, ?_, hT3⟩
    have e : C.length = C0.length + 1 := by rw [HC0.out]; rfl
    rw [e]
    exact hC3
  obtain ⟨n0, hn0⟩ : ∃ n, n = w3.heap.size := ⟨_, rfl⟩
  rw [← hn0] at hlo
  have hO3 : OutR (w3.alloc (.cells #[] 27)) n0 (.slice (some ⟨w3.heap.size, 0, none⟩) 0 0) [] := by
    refine ⟨Row.lit w3 27 4 [] 0 (by decide) rfl, fun b hb => ?_, by simp⟩
    simp only [Value.ownBlock, Option.some.injEq] at hb
    omega
  have HLO := Lib.hid hlo
  have HO3 := Lib.hid hO3
  have HH3 := Lib.hid (hH3.high ((Keep.refl Non w3).alloc (.cells #[] 27)) hlo (fun _ h => h.elim) (fun _ _ _ h => h))
  have HK3 := Lib.hid (hk3.alloc (.cells #[] 27))
  have HN0 : Hid (w.heap.size ≤ n0) := Lib.hid (by have := hk3.size; omega)
  have HNS : n0 ≤ w3.heap.size + 1 := by omega
  have HHI := Lib.hid hhi
  clear hC3 hT3 k3 l1 l2 l3 hhi hk3 hu h8 hlo hH3 hO3 HR2 HM2 HK2 HM hgl hb1 hb1l hcap h1 HX0 HC0 HGG
  go_wp2_with fail
  rw [← hn0]
  rw [← hn0] at HO3
  clear hn0
  go_loopw [7, 8] (fun ov i wr => ∃ (k : Nat) (L : List SgV), k ≤ C.length ∧ i = .int .u32 k ∧ OutR wr n0 ov L ∧ L.map SgV.sg = (C.take k).map (·.1) ∧ (k < C.length → Bare L) ∧ HeadAt wr packed C gd g b1 c1 bu b8 bs k ∧ Keep Non w wr ∧ n0 ≤ wr.heap.size) (fun _ i _ => C.length - (intOf i).toNat)
  case atStart => exact ⟨0, [], by omega, rfl, HO3.out, rfl, (fun _ x hx => by cases hx), HH3.out, HK3.out, by simpa using HNS⟩
  case round =>
    obtain ⟨k, L, hk, rfl, hO, hmp, hB, hH, hK, hsz⟩ := hrel
    have hc43 := hH.c43
    have HO := Lib.hid hO
    have HMP := Lib.hid hmp
    have HB := Lib.hid hB
    have HH := Lib.hid hH
    have HK := Lib.hid hK
    have HSZ := Lib.hid hsz
    clear hO hmp hB hH hK hsz
    by_cases hlt : k < C.length
    · obtain ⟨x, hx⟩ : ∃ x, C[k]? = some x := ⟨C[k], List.getElem?_eq_getElem hlt⟩
      have hok := HF.out.ok x (List.mem_of_getElem? hx)
      have hfn : x.1.funs.length ≤ 8 := hok.nfun
      have hll := map_len HMP.out hk
      have HLL := Lib.hid hll
      have HX := Lib.hid hx
      have HOK := Lib.hid hok
      have HBARE := Lib.hid (HB.out hlt)
      have hns : (k : Int) < (C.length : Int) := by omega
      clear hx hok hll HB
      go_upto_if 35 with (first
        | (go_at_call 24; go_must (refine (numSegT gd C.length _ hc43).mono ?_); rintro e w4 ⟨rfl, rfl⟩))
      go_cut [] from 34 to 46 (fun wx => MidAt wx packed C gd g b1 c1 bu b8 bs k 0 x ∧ OutR wx n0 u7 L ∧ Keep Non w wx ∧ n0 ≤ wx.heap.size)
      case first =>
        by_cases hk0 : k = 0
        · subst hk0
          go_wp2_with fail
          go_meet
          case rel =>
            rcases HH.out with ⟨_, y, hy, hM⟩ | ⟨j, y, hj, _⟩
            · obtain rfl : y = x := Option.some.inj (hy.symm.trans HX.out)
              exact ⟨hM, HO.out, HK.out, HSZ.out⟩
            · omega
        · have hkpos : (0 : Int) < (k : Int) := by omega
          obtain ⟨j, y, hj, hy, hM⟩ : ∃ j y, k = j + 1 ∧ C[j]? = some y ∧ MidAt w4 packed C gd g b1 c1 bu b8 bs j y.1.funs.length y := by
            rcases HH.out with ⟨h0, _⟩ | h
            · exact absurd h0 hk0
            · exact h
          have HJ := Lib.hid hj
          have HY := Lib.hid hy
          have HM := Lib.hid hM
          clear hj hy hM hk0
          go_wp2_with (first
            | (go_at_call 25; go_must (refine (beginM (hash := hash) (k := j) (t := y) (x := x) _ HF.out HY.out (by rw [← HJ.out]; exact HX.out) HM.out).mono ?_); rintro e w5 ⟨rfl, m4, k4⟩))
          go_meet
          case rel =>
            rw [← HJ.out] at m4
            have hS : ∀ i, i = g ∨ i = gd → i < n0 := fun i e => by
              have h1 := HLO.out.g
              have h2 := HLO.out.d
              rcases e with e | e <;> omega
            exact ⟨m4, HO.out.low k4 hS, HK.out.trans k4 (fun i hi e => by have h1 := HHI.out.g; have h2 := HHI.out.d; rcases e with e | e <;> omega), by have := k4.size; have := HSZ.out; omega⟩
      case rest =>
        obtain ⟨hM, hO, hK, hz⟩ := hcut
        obtain ⟨⟨av, ha2, har⟩, hq3, hq4, h48, h53⟩ := hM.tells
        have hal : x.1.args.length ≤ 6 := HOK.out.nargs
        have HM := Lib.hid hM
        have HO5 := Lib.hid hO
        have HK5 := Lib.hid hK
        have HSZ5 := Lib.hid hz
        have HAR := Lib.hid har
        have R1 : Hid (Row (wc.alloc (.cells #[] 9)) 9 1 (.slice (some ⟨wc.heap.size, 0, none⟩) 0 0) 0 (Ts [])) := Lib.hid (Row.lit wc 9 1 [] 0 (by decide) rfl)
        have q2 := ((Keep.refl Non wc).alloc (.cells #[] 9)).cell ha2 (fun h => h)
        have Q3 := Lib.hid hq3
        have Q4 := Lib.hid hq4
        have Q48 := Lib.hid h48
        clear hM hO hK hz har HO HH HK HSZ ha2 hq3 hq4 h48 h53 hc43
        obtain ⟨aa, ac, rfl⟩ := HAR.out.reads.slice
        go_upto_region 13 with (first
          | (go_at_call 26; go_must (refine (osArgsT gd _ _ q2).mono ?_); rintro e w5 ⟨rfl, rfl⟩)
          | (at_builtin; go_must (refine wpList_app (n := 0) (xs := Ts []) (m := x.1.args.length) sliceStr rfl _ _ rfl rfl R1.out rfl (HAR.out.reads.alloc _) (ts_one _) (by unfold maxLen; omega) (by omega) ?_); intro v1 w1 r1 g1 n1; rw [Nat.zero_add] at r1; obtain ⟨kc, kn⟩ := g1.copied rfl; have KC := Lib.hid kc; have KN := Lib.hid kn; have RV := Lib.hid r1; have q3 := kc.cell Q3.out (fun h => h); have q4 := kc.cell Q4.out (fun h => h); obtain ⟨a1, c1', rfl⟩ := r1.reads.slice; clear kc kn r1 g1 n1 q2)
          | (go_at_call 27; go_must (refine (goosT gd _ _ q4).mono ?_); rintro e w6 ⟨rfl, rfl⟩)
          | (go_at_call 28; go_must (refine (goarchT gd _ _ q3).mono ?_); rintro e w7 ⟨rfl, rfl⟩))
        have hvl : ∀ b, (Value.slice a1 x.1.args.length c1').ownBlock = some b → n0 ≤ b := fun b hb => by have := KN.out b hb; have := HSZ5.out; omega
        obtain ⟨v1, hv1⟩ : ∃ v, v = Value.slice a1 x.1.args.length c1' := ⟨_, rfl⟩
        rw [← hv1] at RV hvl ⊢
        clear hv1
        obtain ⟨W2, hW2⟩ : ∃ W, W = w7.alloc (.cells #[v1, .string x.1.os, .string x.1.arch, .slice none 0 0] 27) := ⟨_, rfl⟩
        have k2 : Keep Non w7 W2 := by rw [hW2]; exact (Keep.refl _ _).alloc _
        have b2 : Blk W2 w7.heap.size [v1, .string x.1.os, .string x.1.arch, .slice none 0 0] 27 := by rw [hW2]; exact Blk.new w7 [v1, .string x.1.os, .string x.1.arch, .slice none 0 0] _
        have hz2 : W2.heap.size = w7.heap.size + 1 := by rw [hW2]; simp
        obtain ⟨W3, hW3⟩ : ∃ W, W = W2.alloc (.cells #[.int .u32 0, .int .u32 0, .slice none 0 0] 79) := ⟨_, rfl⟩
        have k3 : Keep Non W2 W3 := by rw [hW3]; exact (Keep.refl _ _).alloc _
        have b3 : Blk W3 W2.heap.size [.int .u32 (0 : Nat), .int .u32 (0 : Nat), .slice none 0 0] 79 := by rw [hW3]; exact Blk.new W2 [.int .u32 0, .int .u32 0, .slice none 0 0] _
        have q48 := (KC.out.trans' k2).cell Q48.out (fun h => h)
        have hsz1 := KC.out.size
        have hn0 := HSZ5.out
        have hIn : InR W3 n0 w7.heap.size W2.heap.size ⟨x.1.args, x.1.os, x.1.arch, [], v1, .slice none 0 0⟩ 0 0 (.slice none 0 0) 0 [] :=
          ⟨⟨RV.out.keep (k2.trans' k3) (fun _ _ h => h), Row.nil _ _ _, by simp, hvl, fun b hb => by simp [Value.ownBlock] at hb, by simp⟩, b2.keep k3 (fun h => h), ⟨b3, Row.nil _ _ _, fun b hb => by simp [Value.ownBlock] at hb, by omega⟩, by simp, by omega⟩
        have kk3 := (KC.out.trans' k2).trans' k3
        have hgs : u7.ownBlock ≠ some w7.heap.size := fun e => by have := HO5.out.row.lt e; omega
        have HIN := Lib.hid hIn
        have HM3 := Lib.hid (HM.out.far kk3)
        have HO3' := Lib.hid (HO5.out.low kk3 (fun _ h => h.elim))
        have HK3' := Lib.hid (HK5.out.trans' kk3)
        have HSZ3 : Hid (n0 ≤ W3.heap.size) := Lib.hid (by have := kk3.size; omega)
        have HGS := Lib.hid hgs
        rw [← hW2]
        clear hW2 k2 b2 k3 b3 kk3 hIn hgs HM HO5 HK5 RV KC KN hvl q3 q4 Q3 Q4 Q48 hz2 hsz1
        go_wp2_with (first
          | (go_at_call 29; go_must (refine (numFunT gd x.1.funs.length _ q48 (by omega)).mono ?_); rintro e w6 ⟨rfl, rfl⟩))
        rw [← hW3]
        clear hW3 q48 hn0
        obtain ⟨gs, hgs⟩ : ∃ g, g = w7.heap.size := ⟨_, rfl⟩
        obtain ⟨gp, hgp⟩ : ∃ g, g = w6.heap.size := ⟨_, rfl⟩
        rw [← hgs] at HIN HGS ⊢
        rw [← hgp] at HIN ⊢
        clear hgs hgp
        go_loopw [] (fun wr => ∃ (j : Nat) (F : List (Fc × Value)) (fv : Value) (a b m : Nat) (v : Value) (xs : List Value), j ≤ x.1.funs.length ∧ F.map (·.1) = x.1.funs.take j ∧ (j = 0 → fv = .slice none 0 0) ∧ MidAt wr packed C gd g b1 c1 bu b8 bs k j x ∧ InR wr n0 gs gp ⟨x.1.args, x.1.os, x.1.arch, F, v1, fv⟩ a b v m xs ∧ OutR wr n0 u7 L ∧ Keep Non w wr ∧ n0 ≤ wr.heap.size) (fun wr => x.1.funs.length - (intOf ((wr.cell? ⟨gd, 53, none⟩).getD .nilIface)).toNat)
        case atStart => exact ⟨0, [], _, 0, 0, 0, _, _, Nat.zero_le _, rfl, fun _ => rfl, HM3.out, HIN.out, HO3'.out, HK3'.out, HSZ3.out⟩
        case round =>
          obtain ⟨j, F, fv, a, b, m, v, xs, hj, hF, hfv0, hM, hI, hO, hK, hz⟩ := hrel
          obtain ⟨wo, hwo⟩ : ∃ wo : World, wo = wr := ⟨_, rfl⟩
          rw [← hwo] at hM hI hO hK hz ⊢
          have HWO := Lib.hid hwo
          have HM4 := Lib.hid hM
          have HI4 := Lib.hid hI
          have HO4 := Lib.hid hO
          have HK4 := Lib.hid hK
          have HZ4 := Lib.hid hz
          have HF4 := Lib.hid hF
          have HFV := Lib.hid hfv0
          have hc53 := hM.tells.2.2.2.2
          have HC53 := Lib.hid hc53
          have hFl : F.length = j := by
            have := congrArg List.length hF
            simp at this; omega
          have HFL := Lib.hid hFl
          clear hM hI hO hK hz hF hfv0 hc53 hFl HM3 HIN HO3' HK3' HSZ3 hwo
          by_cases hjl : j < x.1.funs.length
          · go_upto_region 19 with (first
              | (go_at_call 30; go_must (refine (nextM _ HF.out HX.out hjl HM4.out HI4.out HLO.out).mono ?_); rintro e w5 ⟨v', rfl, m5, i5, o5, k5⟩))
            have hf1 := HOK.out.fun1 _ (List.getElem_mem hjl)
            have HTK : Hid (x.1.funs.take (j + 1) = x.1.funs.take j ++ [x.1.funs[j]]) := Lib.hid (List.take_succ_eq_append_getElem hjl)
            have hlow : ∀ i, S6 gd g bu b8 gp v i → i < n0 ∨ i = gp ∨ v.ownBlock = some i := fun i e => by
              rcases e with e | e | e | e | e | e
              · exact .inl (by rw [e]; exact HLO.out.g)
              · exact .inl (by rw [e]; exact HLO.out.d)
              · exact .inl (by rw [e]; exact HLO.out.e)
              · exact .inl (by rw [e]; exact HLO.out.u)
              · exact .inr (.inl e)
              · exact .inr (.inr e)
            have hkn : ∀ i, i < w.heap.size → ¬ S6 gd g bu b8 gp v i := fun i hi e => by
              have h0 := HN0.out
              rcases e with e | e | e | e | e | e
              · have := HHI.out.g; omega
              · have := HHI.out.d; omega
              · have := HHI.out.e; omega
              · have := HHI.out.u; omega
              · have := HI4.out.pay.le; omega
              · have := HI4.out.pay.own i e; omega
            have HM5 := Lib.hid m5
            have HI5 := Lib.hid i5
            have HO5 := Lib.hid (HO4.out.read HBARE.out HI4.out.pay k5 hlow)
            have HK5 := Lib.hid (HK4.out.trans k5 (fun i hi e => hkn i hi e))
            have HZ5 : Hid (n0 ≤ w5.heap.size) := Lib.hid (by have := k5.size; have := HZ4.out; omega)
            clear m5 i5 o5 k5 hlow hkn HM4 HI4 HO4 HK4
            generalize x.1.funs[j] = f at *
            obtain ⟨va, vc, rfl⟩ := HI5.out.pay.row.reads.slice
            obtain ⟨fa, fc, rfl⟩ : ∃ fa fc, fv = .slice fa F.length fc := HI5.out.got.funs.reads.slice
            have z0 : w5.cell? ⟨gp, 0, none⟩ = some (.int .u32 f.pkg) := HI5.out.pay.x0
            have z1 : w5.cell? ⟨gp, 1, none⟩ = some (.int .u32 f.fn) := HI5.out.pay.x1
            have z2 : w5.cell? ⟨gp, 2, none⟩ = some (.slice va f.cs.length vc) := HI5.out.pay.x2
            have x3 : w5.cell? ⟨gs, 3, none⟩ = some (.slice fa F.length fc) := by rw [HI5.out.box.cell]; rfl
            have hpos : 0 < f.cs.length := by omega
            have h63 : 0 + f.cs.length ≤ maxLen := by unfold maxLen; omega
            have h64 : (0 + f.cs.length) * 4 ≤ 140737488355328 := by omega
            have h65 : F.length + 1 ≤ maxLen := by have := HFL.out; unfold maxLen; omega
            have h66 : (F.length + 1) * 32 ≤ 140737488355328 := by have := HFL.out; omega
            have hgne : ¬ gp = gs := fun e => HI5.out.pay.blk.ne HI5.out.box (by decide) e
            have hfne : ¬ (Value.slice fa F.length fc).ownBlock = some gp := fun e => HI5.out.got.funs.neBlk HI5.out.pay.blk (by decide) e
            have hend : ∀ (v6 v8 : Value) (w6 w8 : World), Keep Non w5 w6 → Row w6 36 1 v6 f.cs.length (U32 f.cs) → (∀ b, v6.ownBlock = some b → w5.heap.size ≤ b) → Keep (fun i => (Value.slice fa F.length fc).ownBlock = some i) w6 w8 → Row w8 82 3 v8 (F.length + 1) (F.flatMap fl3 ++ fl3 (f, v6)) → (∀ b, v8.ownBlock = some b → (Value.slice fa F.length fc).ownBlock = some b ∨ w5.heap.size ≤ b) →
                MidAt (w8.setCell ⟨gs, 3, none⟩ v8) packed C gd g b1 c1 bu b8 bs k (j + 1) x ∧ InR (w8.setCell ⟨gs, 3, none⟩ v8) n0 gs gp ⟨x.1.args, x.1.os, x.1.arch, F ++ [(f, v6)], v1, v8⟩ f.pkg f.fn (.slice va f.cs.length vc) f.cs.length (U32 f.cs) ∧ OutR (w8.setCell ⟨gs, 3, none⟩ v8) n0 u7 L ∧ Keep Non w (w8.setCell ⟨gs, 3, none⟩ v8) ∧ n0 ≤ (w8.setCell ⟨gs, 3, none⟩ v8).heap.size := by
              intro v6 v8 w6 w8 kk r6 n6 k8 r8 n8
              have hI6 := HI5.out.low kk (fun _ h => h.elim)
              have hKS : Keep (fun i => (Value.slice fa F.length fc).ownBlock = some i ∨ i = gs) w6 (w8.setCell ⟨gs, 3, none⟩ v8) := (k8.mono (fun i _ e => .inl e)).setAt gs 3 _ (.inr rfl)
              refine ⟨(HM5.out.far kk).aside HLO.out hI6 hKS (fun i e => e), HI5.out.put HZ5.out kk r6 n6 k8 r8 n8, (HO5.out.low kk (fun _ h => h.elim)).aside HBARE.out hI6 HGS.out hKS (fun i _ e => e), (HK5.out.trans' kk).trans hKS (fun i hi e => ?_), by have := hKS.size; have := kk.size; have := HZ5.out; omega⟩
              have h0 := HN0.out
              rcases e with e | e
              · have := HI5.out.got.of i e; omega
              · have := HI5.out.le; omega
            have HEND := Lib.hid hend
            clear hend
            --BEGIN GEN
            refine wp_region_noPanic ?_
            refine wp_region_held_drew (S := fun w' => w'.cell? ⟨gp, 0, none⟩ = some (.int .u32 f.pkg) ∧ w'.cell? ⟨gp, 1, none⟩ = some (.int .u32 f.fn) ∧ w'.cell? ⟨gp, 2, none⟩ = some (.slice va f.cs.length vc)) (by kernel_rfl) ⟨z0, z1, z2⟩ (fun hHeld => ?_)
            refine wpAnyH_take (i := 0) (oi := _) (v := ?zv1) (by simp only [List.getElem?_toArray, List.getElem?_cons_zero]; rfl) (by kernel_rfl) (by kernel_rfl) (by kernel_rfl) (fun _ _ _ h => h) (Or.inl ⟨by rfl, ?zy1⟩) (by assumption) ?zr1
            case zy1 => (intro wz hSw; (try dsimp only at hSw); go_simp <;> with_reducible rfl)
            try simp only [Act.put, List.setIfInBounds_toArray, List.set_cons_zero, List.set_cons_succ]
            refine wpAnyH_take (i := 2) (oi := _) (v := ?zv2) (by simp only [List.getElem?_toArray, List.getElem?_cons_succ, List.getElem?_cons_zero]; rfl) (by kernel_rfl) (by kernel_rfl) (by kernel_rfl) (fun _ _ _ h => h) (Or.inl ⟨by rfl, ?zy2⟩) (by assumption) ?zr2
            case zy2 => (intro wz hSw; (try dsimp only at hSw); go_simp <;> with_reducible rfl)
            try simp only [Act.put, List.setIfInBounds_toArray, List.set_cons_zero, List.set_cons_succ]
            refine wpAnyH_take (i := 3) (oi := _) (v := ?zv3) (by simp only [List.getElem?_toArray, List.getElem?_cons_succ, List.getElem?_cons_zero]; rfl) (by kernel_rfl) (by kernel_rfl) (by kernel_rfl) (fun _ _ _ h => h) (Or.inl ⟨by rfl, ?zy3⟩) (by assumption) ?zr3
            case zy3 => (intro wz hSw; (try dsimp only at hSw); go_simp <;> with_reducible rfl)
            try simp only [Act.put, List.setIfInBounds_toArray, List.set_cons_zero, List.set_cons_succ]
            refine wpAnyH_take (i := 4) (oi := _) (v := ?zv4) (by simp only [List.getElem?_toArray, List.getElem?_cons_succ, List.getElem?_cons_zero]; rfl) (by kernel_rfl) (by kernel_rfl) (by kernel_rfl) (fun _ _ _ h => h) (Or.inl ⟨by rfl, ?zy4⟩) (by assumption) ?zr4
            case zy4 => (intro wz hSw; (try dsimp only at hSw); go_simp <;> with_reducible rfl)
            try simp only [Act.put, List.setIfInBounds_toArray, List.set_cons_zero, List.set_cons_succ]
            refine wpAnyH_take (i := 5) (oi := _) (v := ?zv5) (by simp only [List.getElem?_toArray, List.getElem?_cons_succ, List.getElem?_cons_zero]; rfl) (by kernel_rfl) (by kernel_rfl) (by kernel_rfl) (fun _ _ _ h => h) (Or.inl ⟨by rfl, ?zy5⟩) (by assumption) ?zr5
            case zy5 => (intro wz hSw; (try dsimp only at hSw); go_simp <;> with_reducible rfl)
            try simp only [Act.put, List.setIfInBounds_toArray, List.set_cons_zero, List.set_cons_succ]
            refine wpAnyH_take (i := 7) (oi := _) (v := ?zv6) (by simp only [List.getElem?_toArray, List.getElem?_cons_succ, List.getElem?_cons_zero]; rfl) (by kernel_rfl) (by kernel_rfl) (by kernel_rfl) (fun _ _ _ h => h) (Or.inl ⟨by rfl, ?zy6⟩) (by assumption) ?zr6
            case zy6 => (intro wz hSw; (try dsimp only at hSw); go_simp <;> with_reducible rfl)
            try simp only [Act.put, List.setIfInBounds_toArray, List.set_cons_zero, List.set_cons_succ]
            refine wpAnyH_take (i := 8) (oi := _) (v := ?zv7) (by simp only [List.getElem?_toArray, List.getElem?_cons_succ, List.getElem?_cons_zero]; rfl) (by kernel_rfl) (by kernel_rfl) (by kernel_rfl) (fun _ _ _ h => h) (Or.inl ⟨by rfl, ?zy7⟩) (by assumption) ?zr7
            case zy7 => (intro wz hSw; (try dsimp only at hSw); go_simp <;> with_reducible rfl)
            try simp only [Act.put, List.setIfInBounds_toArray, List.set_cons_zero, List.set_cons_succ]
            refine wpAnyH_ready (rs := [1, 6]) (by kernel_rfl) (by simp) ?_
            refine AllReadyH.cons (o := _) (by simp only [List.getElem?_toArray, List.getElem?_cons_succ, List.getElem?_cons_zero]; rfl) (fun K hK => ?_) ?_
            · go_simp
              refine hK.out _ _ ⟨z0, z1, z2⟩ (fun hHeld => ?_)
              clear hK K
              try simp only [Act.put, List.setIfInBounds_toArray, List.set_cons_zero, List.set_cons_succ]
              refine wpAnyH_ready (rs := [6]) (by kernel_rfl) (by simp) ?_
              refine AllReadyH.cons (o := _) (by simp only [List.getElem?_toArray, List.getElem?_cons_succ, List.getElem?_cons_zero]; rfl) (fun K hK => ?_) ?_
              · go_simp
                refine hK.out _ _ ⟨((Keep.refl Non w5).drew.alloc _).cell z0 (fun h => h), ((Keep.refl Non w5).drew.alloc _).cell z1 (fun h => h), ((Keep.refl Non w5).drew.alloc _).cell z2 (fun h => h)⟩ (fun hHeld => ?_)
                clear hK K
                try simp only [Act.put, List.setIfInBounds_toArray, List.set_cons_zero, List.set_cons_succ]
                refine wpAnyH_ready (rs := [9]) (by kernel_rfl) (by simp) ?_
                refine AllReadyH.cons (o := _) (by simp only [List.getElem?_toArray, List.getElem?_cons_succ, List.getElem?_cons_zero]; rfl) (fun K hK => ?_) ?_
                · refine step_app (n := 0) (xs := []) (m := f.cs.length) (news := U32 f.cs) sliceU32 rfl _ _ rfl rfl (Row.lit w5.drew 36 1 [] 0 (by decide) rfl) rfl (HI5.out.pay.row.reads.drew.alloc _) hpos (U32_one _) h63 h64 ?_
                  intro v6 w6 r6 g6
                  rw [Nat.zero_add, List.nil_append] at r6
                  have kk := Lib.hid (Keep.trans (S := Non) ((Keep.refl Non w5).drew.alloc (.cells #[] 36)) g6.keep (fun i hi e => by simp [Own, Value.ownBlock, Act.eval] at e; omega))
                  have n6 : Hid (∀ b, v6.ownBlock = some b → w5.heap.size ≤ b) := Lib.hid (fun b hb => by rcases g6.lies hb with e | e <;> (simp [Value.ownBlock, Act.eval] at e; omega))
                  have R6 := Lib.hid r6
                  obtain ⟨a6, c6, rfl⟩ := r6.reads.slice
                  have x3f := kk.out.cell x3 (fun h => h)
                  clear r6 g6
                  refine hK.out _ _ ⟨(kk.out).cell z0 (fun h => h), (kk.out).cell z1 (fun h => h), (kk.out).cell z2 (fun h => h)⟩ (fun hHeld => ?_)
                  clear hK K
                  try simp only [Act.put, List.setIfInBounds_toArray, List.set_cons_zero, List.set_cons_succ]
                  refine wpAnyH_take (i := 10) (oi := _) (v := ?zv8) (by simp only [List.getElem?_toArray, List.getElem?_cons_succ, List.getElem?_cons_zero]; rfl) (by kernel_rfl) (by kernel_rfl) (by kernel_rfl) (fun _ _ _ h => h) (Or.inl ⟨by rfl, ?zy8⟩) (by assumption) ?zr8
                  case zy8 => (intro wz hSw; (try dsimp only at hSw); go_simp <;> with_reducible rfl)
                  try simp only [Act.put, List.setIfInBounds_toArray, List.set_cons_zero, List.set_cons_succ]
                  refine wpAnyH_ready (rs := [11]) (by kernel_rfl) (by simp) ?_
                  refine AllReadyH.cons (o := _) (by simp only [List.getElem?_toArray, List.getElem?_cons_succ, List.getElem?_cons_zero]; rfl) (fun K hK => ?_) ?_
                  · go_simp
                    refine hK.out _ _ ⟨(kk.out.alloc _).cell z0 (fun h => h), (kk.out.alloc _).cell z1 (fun h => h), (kk.out.alloc _).cell z2 (fun h => h)⟩ (fun hHeld => ?_)
                    clear hK K
                    try simp only [Act.put, List.setIfInBounds_toArray, List.set_cons_zero, List.set_cons_succ]
                    refine wpAnyH_ready (rs := [12]) (by kernel_rfl) (by simp) ?_
                    refine AllReadyH.cons (o := _) (by simp only [List.getElem?_toArray, List.getElem?_cons_succ, List.getElem?_cons_zero]; rfl) (fun K hK => ?_) ?_
                    · refine step_app (n := F.length) (xs := F.flatMap fl3) (m := 1) (news := fl3 (f, .slice a6 f.cs.length c6)) sliceIF rfl _ _ rfl rfl ((HI5.out.got.funs.keep kk.out (fun _ _ h => h)).alloc _) rfl (Reads.thr (by simp)) (by decide) (fl3_one f a6 f.cs.length c6) h65 h66 ?_
                      intro v8 w8 r8 g8
                      have R8 := Lib.hid r8
                      have k8 : Hid (Keep (fun i => (Value.slice fa F.length fc).ownBlock = some i) w6 w8) := Lib.hid (((Keep.refl _ _).alloc _).trans' g8.keep)
                      have n8 : Hid (∀ b, v8.ownBlock = some b → (Value.slice fa F.length fc).ownBlock = some b ∨ w5.heap.size ≤ b) := Lib.hid (fun b hb => by have hks := kk.out.size; rcases g8.lies hb with e | e; exact .inl e; exact .inr (by simp at e; omega))
                      obtain ⟨a8, c8, rfl⟩ := r8.reads.slice
                      have B8 := (HI5.out.box.keep kk.out (fun h => h)).keep k8.out (fun e => HI5.out.got.funs.neBlk HI5.out.box (by decide) e)
                      have f3 := B8.free 3
                      have hl3 := B8.lt
                      have q3 : w8.cell? ⟨gs, 3, none⟩ = some (.slice fa F.length fc) := by rw [B8.cell]; rfl
                      clear r8 g8 B8
                      refine hK.out _ _ ⟨k8.out.cell (kk.out.cell z0 (fun h => h)) hfne, k8.out.cell (kk.out.cell z1 (fun h => h)) hfne, k8.out.cell (kk.out.cell z2 (fun h => h)) hfne⟩ (fun hHeld => ?_)
                      clear hK K
                      try simp only [Act.put, List.setIfInBounds_toArray, List.set_cons_zero, List.set_cons_succ]
                      refine wpAnyH_take (i := 13) (oi := _) (v := ?zv9) (by simp only [List.getElem?_toArray, List.getElem?_cons_succ, List.getElem?_cons_zero]; rfl) (by kernel_rfl) (by kernel_rfl) (by kernel_rfl) (fun _ _ _ h => h) (Or.inl ⟨by rfl, ?zy9⟩) (by assumption) ?zr9
                      case zy9 => (intro wz hSw; (try dsimp only at hSw); go_simp <;> with_reducible rfl)
                      try simp only [Act.put, List.setIfInBounds_toArray, List.set_cons_zero, List.set_cons_succ]
                      refine wpAnyH_ready (rs := [14]) (by kernel_rfl) (by simp) ?_
                      refine AllReadyH.cons (o := _) (by simp only [List.getElem?_toArray, List.getElem?_cons_succ, List.getElem?_cons_zero]; rfl) (fun K hK => ?_) ?_
                      · go_simp
                        refine hK.out _ _ ⟨(Keep.one w8 gs 3 _).cell (k8.out.cell (kk.out.cell z0 (fun h => h)) hfne) hgne, (Keep.one w8 gs 3 _).cell (k8.out.cell (kk.out.cell z1 (fun h => h)) hfne) hgne, (Keep.one w8 gs 3 _).cell (k8.out.cell (kk.out.cell z2 (fun h => h)) hfne) hgne⟩ (fun hHeld => ?_)
                        clear hK K
                        try simp only [Act.put, List.setIfInBounds_toArray, List.set_cons_zero, List.set_cons_succ]
                        refine wpAnyH_done (by kernel_rfl) ?_ _
                        refine NoPanic.normal ?_
                        obtain ⟨e1, e2, e3, e4, e5⟩ := HEND.out _ _ w6 w8 kk.out R6.out n6.out k8.out R8.out n8.out
                        have E53 := Lib.hid e1.tells.2.2.2.2
                        have E1 := Lib.hid e1
                        have E2 := Lib.hid e2
                        have E3 := Lib.hid e3
                        have E4 := Lib.hid e4
                        have E5 := Lib.hid e5
                        clear e1 e2 e3 e4 e5
                        go_wp2_with fail
                        go_roundw
                        case measure => rw [E53.out, HC53.out]; simp [intOf]; omega
                        case rel => exact ⟨j + 1, F ++ [(f, _)], _, f.pkg, f.fn, _, _, _, by omega, by rw [List.map_append, HF4.out, HTK.out]; rfl, fun h => by omega, E1.out, E2.out, E3.out, E4.out, E5.out⟩
                      · exact AllReadyH.nil
                    · exact AllReadyH.nil
                  · exact AllReadyH.nil
                · exact AllReadyH.nil
              · exact AllReadyH.nil
            · refine AllReadyH.cons (o := _) (by simp only [List.getElem?_toArray, List.getElem?_cons_succ, List.getElem?_cons_zero]; rfl) (fun K hK => ?_) ?_
              · go_simp
                refine hK.out _ _ ⟨((Keep.refl Non w5).drew.alloc _).cell z0 (fun h => h), ((Keep.refl Non w5).drew.alloc _).cell z1 (fun h => h), ((Keep.refl Non w5).drew.alloc _).cell z2 (fun h => h)⟩ (fun hHeld => ?_)
                clear hK K
                try simp only [Act.put, List.setIfInBounds_toArray, List.set_cons_zero, List.set_cons_succ]
                have x3e : (w5.alloc (.cells #[] 36)).cell? ⟨gs, 3, none⟩ = some (.slice fa F.length fc) := ((Keep.refl Non w5).alloc _).cell x3 (fun h => h)
                refine wpAnyH_ready (rs := [1, 9]) (by kernel_rfl) (by simp) ?_
                refine AllReadyH.cons (o := _) (by simp only [List.getElem?_toArray, List.getElem?_cons_succ, List.getElem?_cons_zero]; rfl) (fun K hK => ?_) ?_
                · go_simp
                  refine hK.out _ _ ⟨((Keep.refl Non w5).drew.alloc _).cell z0 (fun h => h), ((Keep.refl Non w5).drew.alloc _).cell z1 (fun h => h), ((Keep.refl Non w5).drew.alloc _).cell z2 (fun h => h)⟩ (fun hHeld => ?_)
                  clear hK K
                  try simp only [Act.put, List.setIfInBounds_toArray, List.set_cons_zero, List.set_cons_succ]
                  refine wpAnyH_ready (rs := [9]) (by kernel_rfl) (by simp) ?_
                  refine AllReadyH.cons (o := _) (by simp only [List.getElem?_toArray, List.getElem?_cons_succ, List.getElem?_cons_zero]; rfl) (fun K hK => ?_) ?_
                  · refine step_app (n := 0) (xs := []) (m := f.cs.length) (news := U32 f.cs) sliceU32 rfl _ _ rfl rfl (Row.lit w5.drew 36 1 [] 0 (by decide) rfl) rfl (HI5.out.pay.row.reads.drew.alloc _) hpos (U32_one _) h63 h64 ?_
                    intro v6 w6 r6 g6
                    rw [Nat.zero_add, List.nil_append] at r6
                    have kk := Lib.hid (Keep.trans (S := Non) ((Keep.refl Non w5).drew.alloc (.cells #[] 36)) g6.keep (fun i hi e => by simp [Own, Value.ownBlock, Act.eval] at e; omega))
                    have n6 : Hid (∀ b, v6.ownBlock = some b → w5.heap.size ≤ b) := Lib.hid (fun b hb => by rcases g6.lies hb with e | e <;> (simp [Value.ownBlock, Act.eval] at e; omega))
                    have R6 := Lib.hid r6
                    obtain ⟨a6, c6, rfl⟩ := r6.reads.slice
                    have x3f := kk.out.cell x3 (fun h => h)
                    clear r6 g6
                    refine hK.out _ _ ⟨(kk.out).cell z0 (fun h => h), (kk.out).cell z1 (fun h => h), (kk.out).cell z2 (fun h => h)⟩ (fun hHeld => ?_)
                    clear hK K
                    try simp only [Act.put, List.setIfInBounds_toArray, List.set_cons_zero, List.set_cons_succ]
                    refine wpAnyH_take (i := 10) (oi := _) (v := ?zv10) (by simp only [List.getElem?_toArray, List.getElem?_cons_succ, List.getElem?_cons_zero]; rfl) (by kernel_rfl) (by kernel_rfl) (by kernel_rfl) (fun _ _ _ h => h) (Or.inl ⟨by rfl, ?zy10⟩) (by assumption) ?zr10
                    case zy10 => (intro wz hSw; (try dsimp only at hSw); go_simp <;> with_reducible rfl)
                    try simp only [Act.put, List.setIfInBounds_toArray, List.set_cons_zero, List.set_cons_succ]
                    refine wpAnyH_ready (rs := [11]) (by kernel_rfl) (by simp) ?_
                    refine AllReadyH.cons (o := _) (by simp only [List.getElem?_toArray, List.getElem?_cons_succ, List.getElem?_cons_zero]; rfl) (fun K hK => ?_) ?_
                    · go_simp
                      refine hK.out _ _ ⟨(kk.out.alloc _).cell z0 (fun h => h), (kk.out.alloc _).cell z1 (fun h => h), (kk.out.alloc _).cell z2 (fun h => h)⟩ (fun hHeld => ?_)
                      clear hK K
                      try simp only [Act.put, List.setIfInBounds_toArray, List.set_cons_zero, List.set_cons_succ]
                      refine wpAnyH_ready (rs := [12]) (by kernel_rfl) (by simp) ?_
                      refine AllReadyH.cons (o := _) (by simp only [List.getElem?_toArray, List.getElem?_cons_succ, List.getElem?_cons_zero]; rfl) (fun K hK => ?_) ?_
                      · refine step_app (n := F.length) (xs := F.flatMap fl3) (m := 1) (news := fl3 (f, .slice a6 f.cs.length c6)) sliceIF rfl _ _ rfl rfl ((HI5.out.got.funs.keep kk.out (fun _ _ h => h)).alloc _) rfl (Reads.thr (by simp)) (by decide) (fl3_one f a6 f.cs.length c6) h65 h66 ?_
                        intro v8 w8 r8 g8
                        have R8 := Lib.hid r8
                        have k8 : Hid (Keep (fun i => (Value.slice fa F.length fc).ownBlock = some i) w6 w8) := Lib.hid (((Keep.refl _ _).alloc _).trans' g8.keep)
                        have n8 : Hid (∀ b, v8.ownBlock = some b → (Value.slice fa F.length fc).ownBlock = some b ∨ w5.heap.size ≤ b) := Lib.hid (fun b hb => by have hks := kk.out.size; rcases g8.lies hb with e | e; exact .inl e; exact .inr (by simp at e; omega))
                        obtain ⟨a8, c8, rfl⟩ := r8.reads.slice
                        have B8 := (HI5.out.box.keep kk.out (fun h => h)).keep k8.out (fun e => HI5.out.got.funs.neBlk HI5.out.box (by decide) e)
                        have f3 := B8.free 3
                        have hl3 := B8.lt
                        have q3 : w8.cell? ⟨gs, 3, none⟩ = some (.slice fa F.length fc) := by rw [B8.cell]; rfl
                        clear r8 g8 B8
                        refine hK.out _ _ ⟨k8.out.cell (kk.out.cell z0 (fun h => h)) hfne, k8.out.cell (kk.out.cell z1 (fun h => h)) hfne, k8.out.cell (kk.out.cell z2 (fun h => h)) hfne⟩ (fun hHeld => ?_)
                        clear hK K
                        try simp only [Act.put, List.setIfInBounds_toArray, List.set_cons_zero, List.set_cons_succ]
                        refine wpAnyH_take (i := 13) (oi := _) (v := ?zv11) (by simp only [List.getElem?_toArray, List.getElem?_cons_succ, List.getElem?_cons_zero]; rfl) (by kernel_rfl) (by kernel_rfl) (by kernel_rfl) (fun _ _ _ h => h) (Or.inl ⟨by rfl, ?zy11⟩) (by assumption) ?zr11
                        case zy11 => (intro wz hSw; (try dsimp only at hSw); go_simp <;> with_reducible rfl)
                        try simp only [Act.put, List.setIfInBounds_toArray, List.set_cons_zero, List.set_cons_succ]
                        refine wpAnyH_ready (rs := [14]) (by kernel_rfl) (by simp) ?_
                        refine AllReadyH.cons (o := _) (by simp only [List.getElem?_toArray, List.getElem?_cons_succ, List.getElem?_cons_zero]; rfl) (fun K hK => ?_) ?_
                        · go_simp
                          refine hK.out _ _ ⟨(Keep.one w8 gs 3 _).cell (k8.out.cell (kk.out.cell z0 (fun h => h)) hfne) hgne, (Keep.one w8 gs 3 _).cell (k8.out.cell (kk.out.cell z1 (fun h => h)) hfne) hgne, (Keep.one w8 gs 3 _).cell (k8.out.cell (kk.out.cell z2 (fun h => h)) hfne) hgne⟩ (fun hHeld => ?_)
                          clear hK K
                          try simp only [Act.put, List.setIfInBounds_toArray, List.set_cons_zero, List.set_cons_succ]
                          refine wpAnyH_done (by kernel_rfl) ?_ _
                          refine NoPanic.normal ?_
                          obtain ⟨e1, e2, e3, e4, e5⟩ := HEND.out _ _ w6 w8 kk.out R6.out n6.out k8.out R8.out n8.out
                          have E53 := Lib.hid e1.tells.2.2.2.2
                          have E1 := Lib.hid e1
                          have E2 := Lib.hid e2
                          have E3 := Lib.hid e3
                          have E4 := Lib.hid e4
                          have E5 := Lib.hid e5
                          clear e1 e2 e3 e4 e5
                          go_wp2_with fail
                          go_roundw
                          case measure => rw [E53.out, HC53.out]; simp [intOf]; omega
                          case rel => exact ⟨j + 1, F ++ [(f, _)], _, f.pkg, f.fn, _, _, _, by omega, by rw [List.map_append, HF4.out, HTK.out]; rfl, fun h => by omega, E1.out, E2.out, E3.out, E4.out, E5.out⟩
                        · exact AllReadyH.nil
                      · exact AllReadyH.nil
                    · exact AllReadyH.nil
                  · exact AllReadyH.nil
                · refine AllReadyH.cons (o := _) (by simp only [List.getElem?_toArray, List.getElem?_cons_succ, List.getElem?_cons_zero]; rfl) (fun K hK => ?_) ?_
                  · refine step_app (n := 0) (xs := []) (m := f.cs.length) (news := U32 f.cs) sliceU32 rfl _ _ rfl rfl (Row.lit w5.drew 36 1 [] 0 (by decide) rfl) rfl (HI5.out.pay.row.reads.drew.alloc _) hpos (U32_one _) h63 h64 ?_
                    intro v6 w6 r6 g6
                    rw [Nat.zero_add, List.nil_append] at r6
                    have kk := Lib.hid (Keep.trans (S := Non) ((Keep.refl Non w5).drew.alloc (.cells #[] 36)) g6.keep (fun i hi e => by simp [Own, Value.ownBlock, Act.eval] at e; omega))
                    have n6 : Hid (∀ b, v6.ownBlock = some b → w5.heap.size ≤ b) := Lib.hid (fun b hb => by rcases g6.lies hb with e | e <;> (simp [Value.ownBlock, Act.eval] at e; omega))
                    have R6 := Lib.hid r6
                    obtain ⟨a6, c6, rfl⟩ := r6.reads.slice
                    have x3f := kk.out.cell x3 (fun h => h)
                    clear r6 g6
                    refine hK.out _ _ ⟨(kk.out).cell z0 (fun h => h), (kk.out).cell z1 (fun h => h), (kk.out).cell z2 (fun h => h)⟩ (fun hHeld => ?_)
                    clear hK K
                    try simp only [Act.put, List.setIfInBounds_toArray, List.set_cons_zero, List.set_cons_succ]
                    refine wpAnyH_take (i := 10) (oi := _) (v := ?zv12) (by simp only [List.getElem?_toArray, List.getElem?_cons_succ, List.getElem?_cons_zero]; rfl) (by kernel_rfl) (by kernel_rfl) (by kernel_rfl) (fun _ _ _ h => h) (Or.inl ⟨by rfl, ?zy12⟩) (by assumption) ?zr12
                    case zy12 => (intro wz hSw; (try dsimp only at hSw); go_simp <;> with_reducible rfl)
                    try simp only [Act.put, List.setIfInBounds_toArray, List.set_cons_zero, List.set_cons_succ]
                    refine wpAnyH_ready (rs := [1, 11]) (by kernel_rfl) (by simp) ?_
                    refine AllReadyH.cons (o := _) (by simp only [List.getElem?_toArray, List.getElem?_cons_succ, List.getElem?_cons_zero]; rfl) (fun K hK => ?_) ?_
                    · go_simp
                      refine hK.out _ _ ⟨(kk.out).cell z0 (fun h => h), (kk.out).cell z1 (fun h => h), (kk.out).cell z2 (fun h => h)⟩ (fun hHeld => ?_)
                      clear hK K
                      try simp only [Act.put, List.setIfInBounds_toArray, List.set_cons_zero, List.set_cons_succ]
                      refine wpAnyH_ready (rs := [11]) (by kernel_rfl) (by simp) ?_
                      refine AllReadyH.cons (o := _) (by simp only [List.getElem?_toArray, List.getElem?_cons_succ, List.getElem?_cons_zero]; rfl) (fun K hK => ?_) ?_
                      · go_simp
                        refine hK.out _ _ ⟨(kk.out.alloc _).cell z0 (fun h => h), (kk.out.alloc _).cell z1 (fun h => h), (kk.out.alloc _).cell z2 (fun h => h)⟩ (fun hHeld => ?_)
                        clear hK K
                        try simp only [Act.put, List.setIfInBounds_toArray, List.set_cons_zero, List.set_cons_succ]
                        refine wpAnyH_ready (rs := [12]) (by kernel_rfl) (by simp) ?_
                        refine AllReadyH.cons (o := _) (by simp only [List.getElem?_toArray, List.getElem?_cons_succ, List.getElem?_cons_zero]; rfl) (fun K hK => ?_) ?_
                        · refine step_app (n := F.length) (xs := F.flatMap fl3) (m := 1) (news := fl3 (f, .slice a6 f.cs.length c6)) sliceIF rfl _ _ rfl rfl ((HI5.out.got.funs.keep kk.out (fun _ _ h => h)).alloc _) rfl (Reads.thr (by simp)) (by decide) (fl3_one f a6 f.cs.length c6) h65 h66 ?_
                          intro v8 w8 r8 g8
                          have R8 := Lib.hid r8
                          have k8 : Hid (Keep (fun i => (Value.slice fa F.length fc).ownBlock = some i) w6 w8) := Lib.hid (((Keep.refl _ _).alloc _).trans' g8.keep)
                          have n8 : Hid (∀ b, v8.ownBlock = some b → (Value.slice fa F.length fc).ownBlock = some b ∨ w5.heap.size ≤ b) := Lib.hid (fun b hb => by have hks := kk.out.size; rcases g8.lies hb with e | e; exact .inl e; exact .inr (by simp at e; omega))
                          obtain ⟨a8, c8, rfl⟩ := r8.reads.slice
                          have B8 := (HI5.out.box.keep kk.out (fun h => h)).keep k8.out (fun e => HI5.out.got.funs.neBlk HI5.out.box (by decide) e)
                          have f3 := B8.free 3
                          have hl3 := B8.lt
                          have q3 : w8.cell? ⟨gs, 3, none⟩ = some (.slice fa F.length fc) := by rw [B8.cell]; rfl
                          clear r8 g8 B8
                          refine hK.out _ _ ⟨k8.out.cell (kk.out.cell z0 (fun h => h)) hfne, k8.out.cell (kk.out.cell z1 (fun h => h)) hfne, k8.out.cell (kk.out.cell z2 (fun h => h)) hfne⟩ (fun hHeld => ?_)
                          clear hK K
                          try simp only [Act.put, List.setIfInBounds_toArray, List.set_cons_zero, List.set_cons_succ]
                          refine wpAnyH_take (i := 13) (oi := _) (v := ?zv13) (by simp only [List.getElem?_toArray, List.getElem?_cons_succ, List.getElem?_cons_zero]; rfl) (by kernel_rfl) (by kernel_rfl) (by kernel_rfl) (fun _ _ _ h => h) (Or.inl ⟨by rfl, ?zy13⟩) (by assumption) ?zr13
                          case zy13 => (intro wz hSw; (try dsimp only at hSw); go_simp <;> with_reducible rfl)
                          try simp only [Act.put, List.setIfInBounds_toArray, List.set_cons_zero, List.set_cons_succ]
                          refine wpAnyH_ready (rs := [14]) (by kernel_rfl) (by simp) ?_
                          refine AllReadyH.cons (o := _) (by simp only [List.getElem?_toArray, List.getElem?_cons_succ, List.getElem?_cons_zero]; rfl) (fun K hK => ?_) ?_
                          · go_simp
                            refine hK.out _ _ ⟨(Keep.one w8 gs 3 _).cell (k8.out.cell (kk.out.cell z0 (fun h => h)) hfne) hgne, (Keep.one w8 gs 3 _).cell (k8.out.cell (kk.out.cell z1 (fun h => h)) hfne) hgne, (Keep.one w8 gs 3 _).cell (k8.out.cell (kk.out.cell z2 (fun h => h)) hfne) hgne⟩ (fun hHeld => ?_)
                            clear hK K
                            try simp only [Act.put, List.setIfInBounds_toArray, List.set_cons_zero, List.set_cons_succ]
                            refine wpAnyH_done (by kernel_rfl) ?_ _
                            refine NoPanic.normal ?_
                            obtain ⟨e1, e2, e3, e4, e5⟩ := HEND.out _ _ w6 w8 kk.out R6.out n6.out k8.out R8.out n8.out
                            have E53 := Lib.hid e1.tells.2.2.2.2
                            have E1 := Lib.hid e1
                            have E2 := Lib.hid e2
                            have E3 := Lib.hid e3
                            have E4 := Lib.hid e4
                            have E5 := Lib.hid e5
                            clear e1 e2 e3 e4 e5
                            go_wp2_with fail
                            go_roundw
                            case measure => rw [E53.out, HC53.out]; simp [intOf]; omega
                            case rel => exact ⟨j + 1, F ++ [(f, _)], _, f.pkg, f.fn, _, _, _, by omega, by rw [List.map_append, HF4.out, HTK.out]; rfl, fun h => by omega, E1.out, E2.out, E3.out, E4.out, E5.out⟩
                          · exact AllReadyH.nil
                        · exact AllReadyH.nil
                      · exact AllReadyH.nil
                    · refine AllReadyH.cons (o := _) (by simp only [List.getElem?_toArray, List.getElem?_cons_succ, List.getElem?_cons_zero]; rfl) (fun K hK => ?_) ?_
                      · go_simp
                        refine hK.out _ _ ⟨(kk.out.alloc _).cell z0 (fun h => h), (kk.out.alloc _).cell z1 (fun h => h), (kk.out.alloc _).cell z2 (fun h => h)⟩ (fun hHeld => ?_)
                        clear hK K
                        try simp only [Act.put, List.setIfInBounds_toArray, List.set_cons_zero, List.set_cons_succ]
                        have x3g : (w6.alloc (.cells #[.int .u32 f.pkg, .int .u32 f.fn, .slice a6 f.cs.length c6] 82)).cell? ⟨gs, 3, none⟩ = some (.slice fa F.length fc) := (kk.out.alloc _).cell x3 (fun h => h)
                        refine wpAnyH_ready (rs := [1]) (by kernel_rfl) (by simp) ?_
                        refine AllReadyH.cons (o := _) (by simp only [List.getElem?_toArray, List.getElem?_cons_succ, List.getElem?_cons_zero]; rfl) (fun K hK => ?_) ?_
                        · go_simp
                          refine hK.out _ _ ⟨(kk.out.alloc _).cell z0 (fun h => h), (kk.out.alloc _).cell z1 (fun h => h), (kk.out.alloc _).cell z2 (fun h => h)⟩ (fun hHeld => ?_)
                          clear hK K
                          try simp only [Act.put, List.setIfInBounds_toArray, List.set_cons_zero, List.set_cons_succ]
                          refine wpAnyH_ready (rs := [12]) (by kernel_rfl) (by simp) ?_
                          refine AllReadyH.cons (o := _) (by simp only [List.getElem?_toArray, List.getElem?_cons_succ, List.getElem?_cons_zero]; rfl) (fun K hK => ?_) ?_
                          · refine step_app (n := F.length) (xs := F.flatMap fl3) (m := 1) (news := fl3 (f, .slice a6 f.cs.length c6)) sliceIF rfl _ _ rfl rfl ((HI5.out.got.funs.keep kk.out (fun _ _ h => h)).alloc _) rfl (Reads.thr (by simp)) (by decide) (fl3_one f a6 f.cs.length c6) h65 h66 ?_
                            intro v8 w8 r8 g8
                            have R8 := Lib.hid r8
                            have k8 : Hid (Keep (fun i => (Value.slice fa F.length fc).ownBlock = some i) w6 w8) := Lib.hid (((Keep.refl _ _).alloc _).trans' g8.keep)
                            have n8 : Hid (∀ b, v8.ownBlock = some b → (Value.slice fa F.length fc).ownBlock = some b ∨ w5.heap.size ≤ b) := Lib.hid (fun b hb => by have hks := kk.out.size; rcases g8.lies hb with e | e; exact .inl e; exact .inr (by simp at e; omega))
                            obtain ⟨a8, c8, rfl⟩ := r8.reads.slice
                            have B8 := (HI5.out.box.keep kk.out (fun h => h)).keep k8.out (fun e => HI5.out.got.funs.neBlk HI5.out.box (by decide) e)
                            have f3 := B8.free 3
                            have hl3 := B8.lt
                            have q3 : w8.cell? ⟨gs, 3, none⟩ = some (.slice fa F.length fc) := by rw [B8.cell]; rfl
                            clear r8 g8 B8
                            refine hK.out _ _ ⟨k8.out.cell (kk.out.cell z0 (fun h => h)) hfne, k8.out.cell (kk.out.cell z1 (fun h => h)) hfne, k8.out.cell (kk.out.cell z2 (fun h => h)) hfne⟩ (fun hHeld => ?_)
                            clear hK K
                            try simp only [Act.put, List.setIfInBounds_toArray, List.set_cons_zero, List.set_cons_succ]
                            refine wpAnyH_take (i := 13) (oi := _) (v := ?zv14) (by simp only [List.getElem?_toArray, List.getElem?_cons_succ, List.getElem?_cons_zero]; rfl) (by kernel_rfl) (by kernel_rfl) (by kernel_rfl) (fun _ _ _ h => h) (Or.inl ⟨by rfl, ?zy14⟩) (by assumption) ?zr14
                            case zy14 => (intro wz hSw; (try dsimp only at hSw); go_simp <;> with_reducible rfl)
                            try simp only [Act.put, List.setIfInBounds_toArray, List.set_cons_zero, List.set_cons_succ]
                            refine wpAnyH_ready (rs := [14]) (by kernel_rfl) (by simp) ?_
                            refine AllReadyH.cons (o := _) (by simp only [List.getElem?_toArray, List.getElem?_cons_succ, List.getElem?_cons_zero]; rfl) (fun K hK => ?_) ?_
                            · go_simp
                              refine hK.out _ _ ⟨(Keep.one w8 gs 3 _).cell (k8.out.cell (kk.out.cell z0 (fun h => h)) hfne) hgne, (Keep.one w8 gs 3 _).cell (k8.out.cell (kk.out.cell z1 (fun h => h)) hfne) hgne, (Keep.one w8 gs 3 _).cell (k8.out.cell (kk.out.cell z2 (fun h => h)) hfne) hgne⟩ (fun hHeld => ?_)
                              clear hK K
                              try simp only [Act.put, List.setIfInBounds_toArray, List.set_cons_zero, List.set_cons_succ]
                              refine wpAnyH_done (by kernel_rfl) ?_ _
                              refine NoPanic.normal ?_
                              obtain ⟨e1, e2, e3, e4, e5⟩ := HEND.out _ _ w6 w8 kk.out R6.out n6.out k8.out R8.out n8.out
                              have E53 := Lib.hid e1.tells.2.2.2.2
                              have E1 := Lib.hid e1
                              have E2 := Lib.hid e2
                              have E3 := Lib.hid e3
                              have E4 := Lib.hid e4
                              have E5 := Lib.hid e5
                              clear e1 e2 e3 e4 e5
                              go_wp2_with fail
                              go_roundw
                              case measure => rw [E53.out, HC53.out]; simp [intOf]; omega
                              case rel => exact ⟨j + 1, F ++ [(f, _)], _, f.pkg, f.fn, _, _, _, by omega, by rw [List.map_append, HF4.out, HTK.out]; rfl, fun h => by omega, E1.out, E2.out, E3.out, E4.out, E5.out⟩
                            · exact AllReadyH.nil
                          · exact AllReadyH.nil
                        · exact AllReadyH.nil
                      · exact AllReadyH.nil
                  · exact AllReadyH.nil
              · exact AllReadyH.nil
            --END GEN
          · obtain rfl : j = x.1.funs.length := by omega
            obtain ⟨fa, fc, rfl⟩ : ∃ fa fc, fv = .slice fa F.length fc := HI4.out.got.funs.reads.slice
            have hFx : F.map (·.1) = x.1.funs := by
              have := HF4.out
              rwa [List.take_of_length_le (Nat.le_refl _)] at this
            obtain ⟨aa1, ac1, hva⟩ : ∃ aa1 ac1, v1 = .slice aa1 x.1.args.length ac1 := HI4.out.got.args.reads.slice
            have y0 : wo.cell? ⟨gs, 0, none⟩ = some v1 := by rw [HI4.out.box.cell]; rfl
            have y1 : wo.cell? ⟨gs, 1, none⟩ = some (.string x.1.os) := by rw [HI4.out.box.cell]; rfl
            have y2 : wo.cell? ⟨gs, 2, none⟩ = some (.string x.1.arch) := by rw [HI4.out.box.cell]; rfl
            have y3 : wo.cell? ⟨gs, 3, none⟩ = some (.slice fa x.1.funs.length fc) := by rw [HI4.out.box.cell, ← HFL.out]; rfl
            have HFX := Lib.hid hFx
            have HONE := Lib.hid (sl4_one ⟨x.1.args, x.1.os, x.1.arch, F, v1, .slice fa F.length fc⟩ hva rfl)
            have hsl : sl4 ⟨x.1.args, x.1.os, x.1.arch, F, v1, .slice fa F.length fc⟩ = [v1, .string x.1.os, .string x.1.arch, .slice fa x.1.funs.length fc] := by rw [← HFL.out]; rfl
            have HSL := Lib.hid hsl
            have hkl8 : L.length ≤ 10 := by have := HLL.out; omega
            clear hFx hsl hva
            go_wp2_with (first
              | (go_at_call 30; go_must (refine (doneM _ _ HF.out HX.out HM4.out).mono ?_); rintro e w5 ⟨rfl, k5⟩; have y0 := k5.cell y0 (fun h => h); have y1 := k5.cell y1 (fun h => h); have y2 := k5.cell y2 (fun h => h); have y3 := k5.cell y3 (fun h => h); have K5 := Lib.hid k5; clear k5)
              | (at_builtin; go_must (refine wpList_app (n := L.length) (xs := L.flatMap sl4) (m := 1) (news := [v1, .string x.1.os, .string x.1.arch, .slice fa x.1.funs.length fc]) sliceIS rfl _ _ rfl rfl ((HO4.out.low K5.out (fun _ h => h.elim)).row.alloc _) rfl (Reads.fou rfl) (by rw [← HSL.out]; exact HONE.out) (by unfold maxLen; omega) (by omega) ?_); intro v9 w9 r9 g9 n9))
            have K6 : Keep Non wo (w5.alloc (.cells #[v1, .string x.1.os, .string x.1.arch, .slice fa x.1.funs.length fc] 27)) := K5.out.alloc _
            rw [← HSL.out] at r9
            have hO6 := HO4.out.low K6 (fun _ h => h.elim)
            have hm := hO6.more (HI4.out.got.low K6 (fun _ h => h.elim)) g9 r9 (by have := K6.size; have := HZ4.out; omega)
            have hh : HeadAt w9 packed C gd g b1 c1 bu b8 bs (k + 1) := HeadAt.aside (.inr ⟨k, x, rfl, HX.out, HM4.out.far K6⟩) HLO.out hO6 g9.keep
            have hkw : Keep Non w w9 := (HK4.out.trans' K6).trans g9.keep (fun i hi e => by have := HN0.out; have := HO4.out.own i e; omega)
            have hzz : n0 ≤ w9.heap.size := by have := K6.size; have := g9.keep.size; have := HZ4.out; omega
            have hmp : (L ++ [(⟨x.1.args, x.1.os, x.1.arch, F, v1, .slice fa F.length fc⟩ : SgV)]).map SgV.sg = (C.take (k + 1)).map (·.1) := by
              rw [take_snoc HX.out, List.map_append, List.map_append, HMP.out]
              simp [SgV.sg, HFX.out]
            have hbb : k + 1 < C.length → Bare (L ++ [(⟨x.1.args, x.1.os, x.1.arch, F, v1, .slice fa F.length fc⟩ : SgV)]) := fun hlt2 y hy => by
              rcases List.mem_append.1 hy with hy | hy
              · exact HBARE.out y hy
              · rw [List.mem_singleton.1 hy]
                have e0 : x.1.funs = [] := HF.out.nofun (n := k + 1) (by omega) x (by rw [take_snoc HX.out]; simp)
                refine ⟨?_, HFV.out (by rw [e0]; rfl)⟩
                have := HFX.out
                rw [e0] at this
                simpa using this
            have H1 := Lib.hid hm
            have H2 := Lib.hid hh
            have H3 := Lib.hid hkw
            have H4 := Lib.hid hzz
            have H5 := Lib.hid hmp
            have H6 := Lib.hid hbb
            clear hm hh hkw hzz hmp hbb hO6 K6 r9 g9
            go_roundw
            case measure => simp [intOf]; omega
            case rel => exact ⟨k + 1, _, by omega, by go_num, H1.out, H5.out, H6.out, H2.out, H3.out, H4.out⟩
    · obtain rfl : k = C.length := by omega
      go_wp2_with (first
        | (go_at_call 24; go_must (refine (numSegT gd C.length _ hc43).mono ?_); rintro e w4 ⟨rfl, rfl⟩))
      go_ret3
      refine ⟨n0, u7, L, rfl, HO.out, ?_, HK.out, HN0.out⟩
      have := HMP.out
      rwa [List.take_of_length_le (Nat.le_refl _)] at this
end Go.Proofs.YtcpegoofbenoiaaGreatDoor
