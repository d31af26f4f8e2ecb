/-
  CONTRACT: impl.Counters.
-/
import Derived.Test.YtcpegoofbenoiaaGreatDoorZGDd
namespace Go.Proofs.YtcpegoofbenoiaaGreatDoor
open Go.RowKit
open Go.ChangeShapes Go.WideShapes Go.ChangeAt Go.Deep
open Plain (M64)

/-- What is known of a writer as Counters goes round. -/
structure CI (packed : Bool) (hash : List UInt8) (L : List SgV) (w0 : World) (bh gc gb go bb : Nat) (k : Nat) (C : List Ch) (out : List UInt8) (wr : World) : Prop where
  cw : ∃ (gs : Value) (st al : Nat) (tm po : Value), st < 4294967296 ∧ al < 4294967296 ∧ CW wr gc gs gb (feOf C) st al tm (if packed then 2 else 1) k go bb [] po out ∧ ∀ i, CWF gc gb go bb tm po i → w0.heap.size ≤ i
  keep : Keep Non w0 wr
  bh : Blk wr bh (B hash) 22
  seg : ∀ x ∈ C, SegT x.1 x.2.1 x.2.2
  eq : C.map (·.1) = (L.take k).map SgV.sg
  oeq : out = if k = 0 then [] else headB hash (if packed then 2 else 1) ++ segsB packed 0 0 C
  len : out.length ≤ 40 + 2700 * k
  fe : feOf C ≤ 8 * k
theorem CI.next {packed : Bool} {hash : List UInt8} {L : List SgV} {w : World} {bh gc gb go bb k : Nat} {C : List Ch} {out : List UInt8} {wr : World} (h : CI packed hash L w bh gc gb go bb k C out wr) (hk : k ≤ L.length) (hh : hash.length = 16) {x : SgV} (hx : (L.take (k + 1)).map SgV.sg = (L.take k).map SgV.sg ++ [x.sg]) (hs : x.sg.ok)
    {gs : Value} {st al fl : Nat} {tm po : Value} (hfl : fl = if packed then 2 else 1) (hcw : CW wr gc gs gb (feOf C) st al tm fl k go bb [] po out) {w6 : World} (k6 : Keep Non wr w6) {e : Ending} {w' : World} (hp : SegPost packed x.sg w gc gb (feOf C) fl k go bb (CWF gc gb go bb tm po) (if k = 0 then headB hash fl else []) out w6 e w') :
    e = .returned .nilIface ∧ ∃ C' out', CI packed hash L w bh gc gb go bb (k + 1) C' out' w' := by
  obtain ⟨all, ks, st', al', tm', po', rfl, a1, a2, a3, a4, a5, a6, a7⟩ := hp
  have hcl : C.length = k := by
    have := congrArg List.length h.eq
    simpa [Nat.min_eq_left hk] using this
  have hfn := hs.nfun
  have hfe := h.fe
  have hlen := h.len
  have hsl := a1.flen hs packed (k + 1) (feOf C + x.sg.funs.length)
  have hfe2 : feOf (C ++ [(x.sg, all, ks)]) ≤ 8 * (k + 1) := by rw [feOf_snoc]; show feOf C + x.sg.funs.length ≤ _; omega
  have hl1 : (out ++ ((if k = 0 then headB hash fl else []) ++ segF packed (k + 1) (feOf C + x.sg.funs.length) x.sg all ks)).length ≤ 40 + 2700 * (k + 1) := by
    rw [List.length_append, List.length_append]
    by_cases h0 : k = 0
    · subst h0
      rw [if_pos rfl, headB_length hh]
      have : out = [] := by rw [h.oeq, if_pos rfl]
      rw [this, List.length_nil]
      omega
    · rw [if_neg h0, List.length_nil]
      omega
  have ho1 : out ++ ((if k = 0 then headB hash fl else []) ++ segF packed (k + 1) (feOf C + x.sg.funs.length) x.sg all ks) = if k + 1 = 0 then [] else headB hash (if packed then 2 else 1) ++ segsB packed 0 0 (C ++ [(x.sg, all, ks)]) := by
    rw [if_neg (by omega : ¬ k + 1 = 0), segsB_snoc, hcl, h.oeq, ← hfl, Nat.zero_add, Nat.zero_add]
    show _ = headB hash fl ++ (segsB packed 0 0 C ++ segF packed (k + 1) (feOf C + x.sg.funs.length) x.sg all ks)
    by_cases h0 : k = 0
    · have hc : C = [] := List.eq_nil_of_length_eq_zero (by omega)
      rw [if_pos h0, if_pos h0, hc]
      rfl
    · simp only [if_neg h0, List.nil_append, List.append_assoc]
  have hbh2 : Blk w' bh (B hash) 22 := (h.bh.keep k6 (fun h => h)).keep a7 (fun e => by
    rcases e with e | e
    · exact hcw.off h.bh (by decide) (by decide) (by decide) (by decide) e
    · have a1 := h.bh.lt
      have a2 := k6.size
      omega)
  refine ⟨rfl, C ++ [(x.sg, all, ks)], _, ⟨⟨_, st', al', tm', po', a2, a3, by rw [feOf_snoc, ← hfl]; exact a4, a6⟩, a5, hbh2, fun y hy => ?_, ?_, ho1, hl1, hfe2⟩⟩
  · rcases List.mem_append.1 hy with hy | hy
    · exact h.seg y hy
    · simp at hy
      rw [hy]; exact a1
  · rw [hx, List.map_append, h.eq]; rfl
theorem segHid {packed : Bool} {hash : List UInt8} {L : List SgV} {w : World} {bh gc gb go bb k' : Nat} {s : Sg} {fe fl segs : Nat} {F : Nat → Prop} {pend out : List UInt8} {w6 w' : World} {e : Ending} (h : e = .returned .nilIface ∧ ∃ C' out', CI packed hash L w bh gc gb go bb k' C' out' w') (hp : SegPost packed s w gc gb fe fl segs go bb F pend out w6 e w') :
    e = .returned .nilIface ∧ Hid (∃ C' out', CI packed hash L w bh gc gb go bb k' C' out' w') ∧ Hid (Keep (fun i => F i ∨ w6.heap.size ≤ i) w6 w') := by
  obtain ⟨_, _, _, _, _, _, _, _, _, _, _, _, _, k7⟩ := hp
  exact ⟨h.1, Lib.hid h.2, Lib.hid k7⟩
def CountPost (packed : Bool) (hash : List UInt8) (L : List SgV) (w : World) (e : Ending) (w' : World) : Prop :=
  ∃ (v : Value) (bs : List UInt8) (C : List Ch), e = .returned (.tuple #[v, .bool true]) ∧ Reads w' 1 v bs.length (B bs) ∧ FileB packed hash C bs ∧ C.map (·.1) = L.map SgV.sg ∧ bs.length ≤ 20000 ∧ Keep Non w w'
set_option maxRecDepth 100000 in
set_option maxHeartbeats 16000000 in
theorem countersT (packed : Bool) (hash : List UInt8) (L : List SgV) (lv : Value) (w : World) (h : SegR w lv L) (hM : Mag w) (hok : ∀ x ∈ L, x.sg.ok) (hn : L.length ≤ 4) (hn1 : 1 ≤ L.length) (hh : hash.length = 16) :
    Calls Tryz.prog 10 #[.bool packed, .agg (B hash).toArray, lv] w (CountPost packed hash L w) := by
  obtain ⟨la, lc, rfl⟩ := h.reads.slice
  obtain ⟨W1, hW1⟩ : ∃ W, W = w.alloc (.cells (B hash).toArray 22) := ⟨_, rfl⟩
  have k1 : Keep Non w W1 := by rw [hW1]; exact (Keep.refl _ _).alloc _
  have b1 : Blk W1 w.heap.size (B hash) 22 := by rw [hW1]; exact Blk.new w (B hash) _
  have H := Lib.hid h
  have HM := Lib.hid hM
  have HOK := Lib.hid hok
  have HH := Lib.hid hh
  have HK1 := Lib.hid k1
  have HB1 := Lib.hid b1
  clear h hM hok hh k1 b1
  go_enter Tryz.func10, Tryz.ntmps10
  go_upto_region 1 with (fail)
  rw [← hW1]
  clear hW1
  obtain ⟨bh, hbh⟩ : ∃ b, b = w.heap.size := ⟨_, rfl⟩
  rw [← hbh] at HB1 ⊢
  have HBH := Lib.hid hbh
  clear hbh
  go_upto_if 14 with (fail)
  go_cut [8] from 8 to 8 (fun v wx => v = .int .u8 ((if packed then 2 else 1 : Nat) : Int) ∧ wx = W1)
  case first =>
    cases packed
    · go_wp2_with fail
      go_meet
      case rel => exact ⟨rfl, rfl⟩
    · go_wp2_with fail
      go_meet
      case rel => exact ⟨rfl, rfl⟩
  case rest =>
    obtain ⟨rfl, rfl⟩ := hcut
    obtain ⟨fl, hfl⟩ : ∃ fl, fl = (if packed then 2 else 1 : Nat) := ⟨_, rfl⟩
    rw [← hfl]
    have HFL := Lib.hid hfl
    clear hfl
    obtain ⟨W2, hW2⟩ : ∃ W, W = wc.alloc (.cells #[.slice none 0 0, .int .i64 0] 56) := ⟨_, rfl⟩
    have k2 : Keep Non wc W2 := by rw [hW2]; exact (Keep.refl _ _).alloc _
    have b2 : Blk W2 wc.heap.size [.slice none 0 0, .int .i64 0] 56 := by rw [hW2]; exact Blk.new wc [.slice none 0 0, .int .i64 0] _
    have HK2 := Lib.hid k2
    have HB2 := Lib.hid b2
    go_upto_region 5 with (fail)
    rw [← hW2]
    clear hW2 k2 b2
    obtain ⟨go, hgo⟩ : ∃ b, b = wc.heap.size := ⟨_, rfl⟩
    rw [← hgo] at HB2 ⊢
    have HGO := Lib.hid hgo
    clear hgo
    have hwr : Wr W2 go (.slice none 0 0) ([] : List UInt8).length [] := ⟨HB2.out, Row.nil _ _ _, Nat.le_refl _⟩
    have HWR := Lib.hid hwr
    clear hwr
    go_upto_region 6 with (go_at_call 17; refine (newCw fl go (.slice none 0 0) [] W2 HWR.out).mono ?_; rintro e w3 ⟨gc, tb, gb, bb, rfl, ⟨gs, c3⟩, r3, b3, k3, l1, l2, l3, l4, l5⟩)
    have hk3 : Keep Non w w3 := (HK1.out.trans' HK2.out).trans' k3
    have hci : CI packed hash L w bh gc gb go bb 0 [] [] w3 := by
      have z1 := HK1.out.size
      have z2 := HK2.out.size
      refine ⟨⟨_, 0, 0, _, _, by decide, by decide, ⟨by rw [← HFL.out]; exact c3, b3, ⟨64, _, r3⟩, ⟨_, _, _, rfl⟩, fun b hb => ?_⟩, ?_⟩, hk3, (HB1.out.keep HK2.out (fun h => h)).keep k3 (fun h => h), by simp, by simp, by simp, by simp, by simp [feOf]⟩
      · simp only [Value.ownBlock, Option.some.injEq] at hb
        subst hb
        exact ⟨l5, fun e => by simp [Value.ownBlock] at e⟩
      · rintro i (e | e | e | e | e | e)
        · omega
        · simp only [Value.ownBlock, Option.some.injEq] at e; omega
        · omega
        · have := HGO.out; omega
        · omega
        · simp [Value.ownBlock] at e
    have HCI := Lib.hid hci
    clear c3 r3 b3 k3 l1 l2 l3 l4 l5 hk3 hci
    go_wp2_with fail
    go_loopw [23] (fun i wr => ∃ (k : Nat) (C : List Ch) (out : List UInt8), k ≤ L.length ∧ i = .int .i64 k ∧ CI packed hash L w bh gc gb go bb k C out wr) (fun i _ => L.length - (intOf i).toNat)
    case atStart => exact ⟨0, [], [], by omega, rfl, HCI.out⟩
    case round =>
      obtain ⟨k, C, out, hk, rfl, hci⟩ := hrel
      have HCI := Lib.hid hci
      clear hci
      by_cases hlt : k < L.length
      · obtain ⟨b3, o3, c3, hv3, hc3⟩ := (H.out.far HCI.out.keep).reads.at (by omega) (by decide)
        cases hv3
        obtain ⟨d0, d1, d2, d3⟩ := seg_at hc3 hlt
        have hA := (H.out.far HCI.out.keep).args L[k] (List.getElem_mem hlt)
        have hF0 := H.out.funs L[k] (List.getElem_mem hlt)
        have hokx := HOK.out L[k] (List.getElem_mem hlt)
        have htk : (L.take (k + 1)).map SgV.sg = (L.take k).map SgV.sg ++ [L[k].sg] := by
          rw [List.take_succ_eq_append_getElem hlt, List.map_append]; rfl
        have HTK := Lib.hid htk
        have HA := Lib.hid hA
        have HF0 := Lib.hid hF0
        have HOX := Lib.hid hokx
        clear hc3 hA hF0 hokx htk
        generalize L[k] = x at *
        obtain ⟨args, os, arch, funs, av, fv⟩ := x
        simp only at *
        obtain ⟨aa, ac, rfl⟩ := HA.out.slice
        obtain ⟨fa, fc, rfl⟩ := HF0.out.reads.slice
        go_upto_region 10 with (fail)
        obtain ⟨W5, hW5⟩ : ∃ W, W = wr.alloc (.cells #[.slice aa args.length ac, .string os, .string arch, .slice fa funs.length fc] 27) := ⟨_, rfl⟩
        have k5 : Keep Non wr W5 := by rw [hW5]; exact (Keep.refl _ _).alloc _
        have b5 : Blk W5 wr.heap.size [.slice aa args.length ac, .string os, .string arch, .slice fa funs.length fc] 27 := by rw [hW5]; exact Blk.new wr [.slice aa args.length ac, .string os, .string arch, .slice fa funs.length fc] _
        have HK5 := Lib.hid k5
        have HB5 := Lib.hid b5
        rw [← hW5]
        clear hW5 k5 b5 d0 d1 d2 d3
        obtain ⟨gv, hgv⟩ : ∃ g, g = wr.heap.size := ⟨_, rfl⟩
        rw [← hgv] at HB5 ⊢
        clear hgv
        obtain ⟨gs', st, al, tm, po, hst, hal, hcw, hcq⟩ := HCI.out.cw
        rw [← HFL.out] at hcw
        have hfe := HCI.out.fe
        have hlen := HCI.out.len
        have HCW := Lib.hid hcw
        have HCQ := Lib.hid hcq
        have HK0 : Hid (Keep Non w W5) := Lib.hid (HCI.out.keep.trans' HK5.out)
        have HA5 := Lib.hid (HA.out.keep HK5.out (fun _ _ h => h))
        have HBH5 := Lib.hid (HCI.out.bh.keep HK5.out (fun h => h))
        have hol : out.length ≤ 100000 := by omega
        have hfe1 : feOf C ≤ 1000 := by omega
        have hk100 : k ≤ 100 := by omega
        have z0 : W5.cell? ⟨gv, 0, none⟩ = some (.slice aa args.length ac) := by rw [HB5.out.cell]; rfl
        have z1 : W5.cell? ⟨gv, 1, none⟩ = some (.string os) := by rw [HB5.out.cell]; rfl
        have z2 : W5.cell? ⟨gv, 2, none⟩ = some (.string arch) := by rw [HB5.out.cell]; rfl
        have z3 : W5.cell? ⟨gv, 3, none⟩ = some (.slice fa funs.length fc) := by rw [HB5.out.cell]; rfl
        clear hcw hcq hfe hlen
        go_upto_if 29 with (fail)
        go_cut [13] from 29 to 46 (fun v wx => v = .nilIface ∧ ∃ C' out', CI packed hash L w bh gc gb go bb (k + 1) C' out' wx)
        case first =>
          by_cases hk0 : (k : Int) = 0
          · have hk0' : k = 0 := by omega
            subst hk0'
            have hu16 : Tryz.prog.underlying 22 = some (.array 16 5) := by kernel_rfl
            have hi16 : (Tryz.prog.info? 22).map (·.size) = some 16 := by kernel_rfl
            have hsz16 : (Tryz.prog.info? 22).map (·.size) = some (B hash).length := by rw [B_length, HH.out]; exact hi16
            have hrg : W5.rangeAt bh 0 (B hash) := HBH5.out.range
            clear hi16
            go_upto_region 11 with (fail)
            refine wp_region_noPanic ?_
            refine wp_region_held_drew (S := fun w' => w'.cell? ⟨gv, 0, none⟩ = some (.slice aa args.length ac) ∧ w'.cell? ⟨gv, 1, none⟩ = some (.string os) ∧ w'.cell? ⟨gv, 2, none⟩ = some (.string arch) ∧ w'.cell? ⟨gv, 3, none⟩ = some (.slice fa funs.length fc) ∧ w'.rangeAt bh 0 (B hash)) (by kernel_rfl) ⟨((Keep.refl Non W5).drew).cell z0 (fun h => h), ((Keep.refl Non W5).drew).cell z1 (fun h => h), ((Keep.refl Non W5).drew).cell z2 (fun h => h), ((Keep.refl Non W5).drew).cell z3 (fun h => h), range_keep hrg ((Keep.refl Non W5).drew) (fun h => h)⟩ (fun hHeld => ?_)
            refine wpAnyH_take (i := 0) (oi := _) (v := ?zw0) (by simp only [List.getElem?_toArray, List.getElem?_cons_zero]; rfl) (by kernel_rfl) (by kernel_rfl) (by kernel_rfl) (fun _ _ _ h => h) (Or.inl ⟨by rfl, ?zx0⟩) (by assumption) ?zs0
            case zx0 => (intro wz hSw; (try dsimp only at hSw); go_simp <;> with_reducible rfl)
            try simp only [Act.put, List.setIfInBounds_toArray, List.set_cons_zero, List.set_cons_succ]
            refine wpAnyH_take (i := 1) (oi := _) (v := _) (by simp only [List.getElem?_toArray, List.getElem?_cons_succ, List.getElem?_cons_zero]; rfl) (by kernel_rfl) (by kernel_rfl) (by kernel_rfl) (fun _ _ _ h => h) (yieldsIf_load_mid (by rfl) _ _ rfl _ _ rfl (B hash) _ (fun w h => h.2.2.2.2) hu16 rfl hsz16) (by assumption) ?_
            try simp only [Act.put, List.setIfInBounds_toArray, List.set_cons_zero, List.set_cons_succ]
            refine wpAnyH_take (i := 2) (oi := _) (v := ?zw2) (by simp only [List.getElem?_toArray, List.getElem?_cons_succ, List.getElem?_cons_zero]; rfl) (by kernel_rfl) (by kernel_rfl) (by kernel_rfl) (fun _ _ _ h => h) (Or.inl ⟨by rfl, ?zx2⟩) (by assumption) ?zs2
            case zx2 => (intro wz hSw; (try dsimp only at hSw); go_simp <;> with_reducible rfl)
            try simp only [Act.put, List.setIfInBounds_toArray, List.set_cons_zero, List.set_cons_succ]
            refine wpAnyH_take (i := 4) (oi := _) (v := ?zw4) (by simp only [List.getElem?_toArray, List.getElem?_cons_succ, List.getElem?_cons_zero]; rfl) (by kernel_rfl) (by kernel_rfl) (by kernel_rfl) (fun _ _ _ h => h) (Or.inl ⟨by rfl, ?zx4⟩) (by assumption) ?zs4
            case zx4 => (intro wz hSw; (try dsimp only at hSw); go_simp <;> with_reducible rfl)
            try simp only [Act.put, List.setIfInBounds_toArray, List.set_cons_zero, List.set_cons_succ]
            refine wpAnyH_take (i := 5) (oi := _) (v := ?zw5) (by simp only [List.getElem?_toArray, List.getElem?_cons_succ, List.getElem?_cons_zero]; rfl) (by kernel_rfl) (by kernel_rfl) (by kernel_rfl) (fun _ _ _ h => h) (Or.inl ⟨by rfl, ?zx5⟩) (by assumption) ?zs5
            case zx5 => (intro wz hSw; (try dsimp only at hSw); go_simp <;> with_reducible rfl)
            try simp only [Act.put, List.setIfInBounds_toArray, List.set_cons_zero, List.set_cons_succ]
            refine wpAnyH_take (i := 6) (oi := _) (v := ?zw6) (by simp only [List.getElem?_toArray, List.getElem?_cons_succ, List.getElem?_cons_zero]; rfl) (by kernel_rfl) (by kernel_rfl) (by kernel_rfl) (fun _ _ _ h => h) (Or.inl ⟨by rfl, ?zx6⟩) (by assumption) ?zs6
            case zx6 => (intro wz hSw; (try dsimp only at hSw); go_simp <;> with_reducible rfl)
            try simp only [Act.put, List.setIfInBounds_toArray, List.set_cons_zero, List.set_cons_succ]
            refine wpAnyH_take (i := 7) (oi := _) (v := ?zw7) (by simp only [List.getElem?_toArray, List.getElem?_cons_succ, List.getElem?_cons_zero]; rfl) (by kernel_rfl) (by kernel_rfl) (by kernel_rfl) (fun _ _ _ h => h) (Or.inl ⟨by rfl, ?zx7⟩) (by assumption) ?zs7
            case zx7 => (intro wz hSw; (try dsimp only at hSw); go_simp <;> with_reducible rfl)
            try simp only [Act.put, List.setIfInBounds_toArray, List.set_cons_zero, List.set_cons_succ]
            refine wpAnyH_ready (rs := [3]) (by kernel_rfl) (by simp) ?_
            refine AllReadyH.cons (o := _) (by simp only [List.getElem?_toArray, List.getElem?_cons_succ, List.getElem?_cons_zero]; rfl) (fun K hK => ?_) ?_
            · go_simp
              go_at_call 19
              refine (argsT (SgV.sg ⟨args, os, arch, funs, .slice aa args.length ac, .slice fa funs.length fc⟩) (.slice aa args.length ac) (.slice fa funs.length fc) _ HOX.out HA5.out.drew).mono ?_
              rintro e w6 ⟨ma, rfl, om, k6, l6⟩
              have k6 := k6.undrew
              go_simp
              refine hK.out _ _ ⟨k6.cell z0 (fun h => h), k6.cell z1 (fun h => h), k6.cell z2 (fun h => h), k6.cell z3 (fun h => h), range_keep hrg k6 (fun h => h)⟩ (fun hHeld => ?_)
              clear hK K
              have HOM := Lib.hid om
              have HK6 := Lib.hid k6
              try simp only [Act.put, List.setIfInBounds_toArray, List.set_cons_zero, List.set_cons_succ]
              refine wpAnyH_ready (rs := [8]) (by kernel_rfl) (by simp) ?_
              refine AllReadyH.cons (o := _) (by simp only [List.getElem?_toArray, List.getElem?_cons_succ, List.getElem?_cons_zero]; rfl) (fun K hK => ?_) ?_
              · go_simp
                go_at_call 18
                refine (wriAt packed ⟨args, os, arch, funs, .slice aa args.length ac, .slice fa funs.length fc⟩ w ma hash gc gs' gb (feOf C) st al tm fl 0 go bb po out _ (HK0.out.trans' HK6.out) HF0.out HM.out (HCW.out.far (HK5.out.trans' HK6.out)) HOM.out HOX.out HCQ.out HH.out hol hfe1 hk100 HFL.out hst hal).mono ?_
                rintro e w7 hp7
                have hcn := CI.next HCI.out (by omega) HH.out HTK.out HOX.out HFL.out HCW.out (HK5.out.trans' HK6.out) hp7
                have k7 : Keep (fun i => CWF gc gb go bb tm po i ∨ w6.heap.size ≤ i) w6 w7 := by
                  obtain ⟨_, _, _, _, _, _, _, _, _, _, _, _, _, k7⟩ := hp7
                  exact k7
                obtain ⟨rfl, hcn⟩ := hcn
                have HCN := Lib.hid hcn
                clear hp7 hcn
                go_simp
                have n1 : ¬ (CWF gc gb go bb tm po gv ∨ w6.heap.size ≤ gv) := fun e => e.elim ((HCW.out.far HK5.out).off HB5.out (by decide) (by decide) (by decide) (by decide)) (fun e => by have := (HB5.out.keep HK6.out (fun h => h)).lt; omega)
                have n2 : ¬ (CWF gc gb go bb tm po bh ∨ w6.heap.size ≤ bh) := fun e => e.elim ((HCW.out.far HK5.out).off HBH5.out (by decide) (by decide) (by decide) (by decide)) (fun e => by have := (HBH5.out.keep HK6.out (fun h => h)).lt; omega)
                refine hK.out _ _ ⟨k7.cell (HK6.out.cell z0 (fun h => h)) n1, k7.cell (HK6.out.cell z1 (fun h => h)) n1, k7.cell (HK6.out.cell z2 (fun h => h)) n1, k7.cell (HK6.out.cell z3 (fun h => h)) n1, range_keep (range_keep hrg HK6.out (fun h => h)) k7 n2⟩ (fun hHeld => ?_)
                clear hK K
                try simp only [Act.put, List.setIfInBounds_toArray, List.set_cons_zero, List.set_cons_succ]
                refine wpAnyH_take (i := 9) (oi := _) (v := ?zw9) (by simp only [List.getElem?_toArray, List.getElem?_cons_succ, List.getElem?_cons_zero]; rfl) (by kernel_rfl) (by kernel_rfl) (by kernel_rfl) (fun _ _ _ h => h) (Or.inl ⟨by rfl, ?zx9⟩) (by assumption) ?zs9
                case zx9 => (intro wz hSw; (try dsimp only at hSw); go_simp <;> with_reducible rfl)
                try simp only [Act.put, List.setIfInBounds_toArray, List.set_cons_zero, List.set_cons_succ]
                refine wpAnyH_done (by kernel_rfl) ?_ _
                refine NoPanic.normal ?_
                go_wp2_with fail
                go_meet
                case rel => exact ⟨rfl, HCN.out⟩
              · exact AllReadyH.nil
            · exact AllReadyH.nil
          · have HN0 : Hid (¬ k = 0) := Lib.hid (by omega)
            go_upto_region 12 with (fail)
            go_region_held3 (fun w' => w'.cell? ⟨gv, 0, none⟩ = some (.slice aa args.length ac) ∧ w'.cell? ⟨gv, 1, none⟩ = some (.string os) ∧ w'.cell? ⟨gv, 2, none⟩ = some (.string arch) ∧ w'.cell? ⟨gv, 3, none⟩ = some (.slice fa funs.length fc))
              (first
                | exact ⟨((Keep.refl Non W5).drew).cell z0 (fun h => h), ((Keep.refl Non W5).drew).cell z1 (fun h => h), ((Keep.refl Non W5).drew).cell z2 (fun h => h), ((Keep.refl Non W5).drew).cell z3 (fun h => h)⟩
                | exact ⟨k7.out.cell (HK6.out.cell z0 (fun h => h)) n7.out, k7.out.cell (HK6.out.cell z1 (fun h => h)) n7.out, k7.out.cell (HK6.out.cell z2 (fun h => h)) n7.out, k7.out.cell (HK6.out.cell z3 (fun h => h)) n7.out⟩
                | exact ⟨HK6.out.cell z0 (fun h => h), HK6.out.cell z1 (fun h => h), HK6.out.cell z2 (fun h => h), HK6.out.cell z3 (fun h => h)⟩)
              (first
                | (go_at_call 19; refine (argsT (SgV.sg ⟨args, os, arch, funs, .slice aa args.length ac, .slice fa funs.length fc⟩) (.slice aa args.length ac) (.slice fa funs.length fc) _ HOX.out HA5.out.drew).mono ?_; rintro e w6 ⟨ma, rfl, om, k6, l6⟩; have k6 := k6.undrew; have HOM := Lib.hid om; have HK6 := Lib.hid k6; clear om k6)
                | (go_at_call 20; refine (appAt packed ⟨args, os, arch, funs, .slice aa args.length ac, .slice fa funs.length fc⟩ w ma gc gs' gb (feOf C) st al tm fl k go bb po out _ (HK0.out.trans' HK6.out) HF0.out HM.out (HCW.out.far (HK5.out.trans' HK6.out)) HOM.out HOX.out HCQ.out hol hfe1 hk100 HFL.out hst hal).mono ?_; rintro e w7 hp7; obtain ⟨rfl, HCN, k7⟩ := segHid (CI.next HCI.out hk HH.out HTK.out HOX.out HFL.out HCW.out (HK5.out.trans' HK6.out) (by rw [if_neg HN0.out]; exact hp7)) hp7; have n7 : Hid (¬ (CWF gc gb go bb tm po gv ∨ w6.heap.size ≤ gv)) := Lib.hid (fun e => e.elim ((HCW.out.far HK5.out).off HB5.out (by decide) (by decide) (by decide) (by decide)) (fun e => absurd (HB5.out.keep HK6.out (fun h => h)).lt (by omega))); clear hp7))
            all_goals
              go_wp2_with fail
              go_meet
              case rel => exact ⟨rfl, HCN.out⟩
        case rest =>
          obtain ⟨rfl, C', out', hcn⟩ := hcut
          have HCN := Lib.hid hcn
          clear hcn z0 z1 z2 z3
          go_wp2_with fail
          go_roundw
          case measure => simp [intOf]; omega
          case rel => exact ⟨k + 1, C', out', by omega, by go_num, HCN.out⟩
      · obtain rfl : k = L.length := by omega
        obtain ⟨gs', st, al, tm, po, hst, hal, hcw, hcq⟩ := HCI.out.cw
        have HCW := Lib.hid hcw
        clear hcw hcq
        have hlen := HCI.out.len
        have hol : out.length ≤ 20000 := by omega
        clear hlen
        go_wp2_with (first
          | (go_at_call 21; refine (wbytes po go _ _ (HCW.out.bw.wr.blk.alloc _)).mono ?_; rintro e w6 ⟨rfl, rfl⟩)
          | (at_builtin; go_must (refine wpList_app (n := 0) (m := out.length) sliceBytes rfl _ _ rfl rfl (Row.lit _ 5 1 [] 0 (by decide) rfl) rfl (HCW.out.bw.wr.row.alloc _).reads (B_one _) (by unfold maxLen; omega) (by omega) ?_); intro v5 w5 r5 g5 n5))
        go_ret2
        obtain ⟨c1, c2⟩ := g5.copied rfl
        have h0 : ¬ L.length = 0 := by omega
        refine ⟨v5, out, C, rfl, ?_, ⟨HCI.out.seg, ?_⟩, ?_, hol, HCI.out.keep.trans' c1⟩
        · rw [Nat.zero_add] at r5
          exact r5.reads
        · have := HCI.out.oeq
          rw [if_neg h0] at this
          exact this
        · have := HCI.out.eq
          rw [List.take_length] at this
          exact this
end Go.Proofs.YtcpegoofbenoiaaGreatDoor
