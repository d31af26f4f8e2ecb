/-
  CONTRACT: the head of the file is written.
-/
import Derived.Test.YtcpegoofbenoiaaGreatDoorZCz
import Derived.Deep.MidRow
namespace Go.Proofs.YtcpegoofbenoiaaGreatDoor
open Go.RowKit
open Go.ChangeShapes Go.WideShapes Go.ChangeAt Go.Deep
open Plain (M64)

theorem headcells_length (hash : List UInt8) (fl : Nat) (hh : hash.length = 16) : (headcells hash fl).length = 29 := by simp [headcells, B_length, hh, magicB]
def preHead (hash : List UInt8) : List Value := B magicB ++ ([.int .u32 1] ++ (B hash ++ [.int .u8 0, .bool false, .int .u8 0, .int .u8 0, .int .u8 0, .int .u8 0, .int .u8 0, .int .u8 0]))
set_option maxHeartbeats 2000000 in
theorem preHead_fold (hash : List UInt8) (hh : hash.length = 16) : List.foldl (fun cs x => cs.setIfInBounds (5 + x.snd) x.fst) #[Value.int .u8 0, .int .u8 99, .int .u8 119, .int .u8 109, .int .u32 1, .int .u8 0, .int .u8 0, .int .u8 0, .int .u8 0, .int .u8 0, .int .u8 0, .int .u8 0, .int .u8 0, .int .u8 0, .int .u8 0, .int .u8 0, .int .u8 0, .int .u8 0, .int .u8 0, .int .u8 0, .int .u8 0, .int .u8 0, .bool false, .int .u8 0, .int .u8 0, .int .u8 0, .int .u8 0, .int .u8 0, .int .u8 0] (B hash).zipIdx = (preHead hash).toArray := by
  obtain ⟨a0, a1, a2, a3, a4, a5, a6, a7, a8, a9, a10, a11, a12, a13, a14, a15, rfl⟩ := sixteen hh
  simp [preHead, magicB, B, List.zipIdx]
theorem preHead_size (hash : List UInt8) (hh : hash.length = 16) : (preHead hash).toArray.size = 29 := by simp [preHead, B_length, hh, magicB]
theorem preHead_set (hash : List UInt8) (fl : Nat) (hh : hash.length = 16) : ((preHead hash).toArray.setIfInBounds 21 (.int .u8 fl)).setIfInBounds 22 (.bool false) = (headcells hash fl).toArray := by
  obtain ⟨a0, a1, a2, a3, a4, a5, a6, a7, a8, a9, a10, a11, a12, a13, a14, a15, rfl⟩ := sixteen hh
  simp [preHead, headcells, magicB, B]
theorem headcells_one (hash : List UInt8) (fl : Nat) : ∀ v ∈ headcells hash fl, v.oneCell' = true := by
  intro v hv
  simp only [headcells, List.mem_append] at hv
  rcases hv with hv | hv | hv | hv
  · exact B_one _ v hv
  · simp at hv
    rw [hv]; rfl
  · exact B_one _ v hv
  · simp at hv
    rcases hv with rfl | rfl | rfl <;> rfl
theorem headf_store (W : World) (hash : List UInt8) (fl : Nat) (hh : hash.length = 16) :
    ∃ V, (Instr.storeAt 118 (.pointer (some ⟨W.heap.size, 0, none⟩)) (.agg (headcells hash fl).toArray)).run Tryz.prog (W.alloc (.cells #[.int .u8 0, .int .u8 0, .int .u8 0, .int .u8 0, .int .u32 0, .int .u8 0, .int .u8 0, .int .u8 0, .int .u8 0, .int .u8 0, .int .u8 0, .int .u8 0, .int .u8 0, .int .u8 0, .int .u8 0, .int .u8 0, .int .u8 0, .int .u8 0, .int .u8 0, .int .u8 0, .int .u8 0, .int .u8 0, .bool false, .int .u8 0, .int .u8 0, .int .u8 0, .int .u8 0, .int .u8 0, .int .u8 0] 118)).drew = .ok () V ∧ Blk V W.heap.size (headcells hash fl) 118 ∧ Keep Non W V := by
  have hb := (Blk.new W [.int .u8 0, .int .u8 0, .int .u8 0, .int .u8 0, .int .u32 0, .int .u8 0, .int .u8 0, .int .u8 0, .int .u8 0, .int .u8 0, .int .u8 0, .int .u8 0, .int .u8 0, .int .u8 0, .int .u8 0, .int .u8 0, .int .u8 0, .int .u8 0, .int .u8 0, .int .u8 0, .int .u8 0, .int .u8 0, .bool false, .int .u8 0, .int .u8 0, .int .u8 0, .int .u8 0, .int .u8 0, .int .u8 0] 118).drew
  have hl := headcells_length hash fl hh
  have hs := run_storeVar_row (P := Tryz.prog) _ W.heap.size _ 118 _ (headcells hash fl).toArray hb (by rw [List.size_toArray, hl]; kernel_rfl) (by simp [hl]) (all_oneCell_toArray (headcells_one _ _))
  refine ⟨_, by simp only [Instr.storeAt, Instr.sureAddr, Sem.run_bind, Sem.run_pure, Result.andThen_ok, hs]; rfl, ?_, ?_⟩
  · have := setRow_heap _ W.heap.size _ (headcells hash fl).toArray 118 (0, 0) hb
    exact this
  · exact ((Keep.refl _ _).alloc _).drew.trans (Keep.setRow _ _ _) (fun i hi e => by have e : i = W.heap.size := e; omega)
set_option maxRecDepth 100000 in
set_option maxHeartbeats 8000000 in
theorem writeHeaderT (gc : Nat) (gs : Value) (fe st al : Nat) (tm : Value) (fl segs : Nat) (gb go bb : Nat) (hash pend : List UInt8) (po : Value) (out : List UInt8) (w : World) (h : BW w gb go bb pend po out) (hc : Blk w gc (ccells gs gb fe st al tm fl segs) 98) (hM : Mag w) (hfit : pend.length + 32 ≤ 4096) (hh : hash.length = 16) (hf : fl < 256) :
    Calls Tryz.prog 37 #[.pointer (some ⟨gc, 0, none⟩), .agg (B hash).toArray] w (BwPost gb go bb (pend ++ headB hash fl) po out w) := by
  obtain ⟨W1, hW1⟩ : ∃ W, W = w.alloc (.cells (B hash).toArray 22) := ⟨_, rfl⟩
  have k1 : Keep Non w W1 := by rw [hW1]; exact (Keep.refl _ _).alloc _
  have b1 : Blk W1 w.heap.size (B hash) 22 := by rw [hW1]; exact Blk.new w (B hash) _
  have HC := Lib.hid (hc.keep k1 (fun h => h))
  have HBW := Lib.hid (h.far k1)
  have HK1 := Lib.hid k1
  have HB1 := Lib.hid b1
  obtain ⟨m0, m1, m2, m3⟩ := hM.far k1
  have y6 : W1.cell? ⟨gc, 6, none⟩ = some (.int .u8 fl) := by rw [HC.out.cell]; rfl
  have HH := Lib.hid hh
  have hu16 : Tryz.prog.underlying 22 = some (.array 16 5) := by kernel_rfl
  have hi16 : (Tryz.prog.info? 22).map (·.size) = some 16 := by kernel_rfl
  have hsz16 : (Tryz.prog.info? 22).map (·.size) = some (B hash).length := by rw [B_length, hh]; exact hi16
  have hrg : W1.rangeAt w.heap.size 0 (B hash) := HB1.out.range
  have hfold := preHead_fold hash hh
  have hfsz := preHead_size hash hh
  have hset := preHead_set hash fl hh
  have hBl : (B hash).length = 16 := by rw [B_length, hh]
  generalize (preHead hash).toArray = A at hfold hfsz hset
  obtain ⟨V, hst, hVb, hVk⟩ := headf_store W1 hash fl hh
  have HVB := Lib.hid hVb
  clear hVb
  generalize (headcells hash fl).toArray = Z at hset hst
  clear h hc hM k1 b1 hh hi16
  go_enter Tryz.func37, Tryz.ntmps37
  go_upto_region 1 with (fail)
  rw [← hW1]
  clear hW1
  go_cut [5] from 7 to 13 (fun v wx => v = .pointer (some ⟨W1.heap.size, 0, none⟩) ∧ Blk wx W1.heap.size (headcells hash fl) 118 ∧ Keep Non W1 wx)
  case first =>
    refine wp_region_noPanic ?_
    refine wp_region_held_drew (S := fun w' => w'.cell? ⟨1, 0, none⟩ = some (.int .u8 0) ∧ w'.cell? ⟨1, 1, none⟩ = some (.int .u8 99) ∧ w'.cell? ⟨1, 2, none⟩ = some (.int .u8 119) ∧ w'.cell? ⟨1, 3, none⟩ = some (.int .u8 109) ∧ w'.cell? ⟨gc, 6, none⟩ = some (.int .u8 fl) ∧ w'.rangeAt w.heap.size 0 (B hash)) (by kernel_rfl) ⟨((Keep.refl Non W1).drew).cell m0 (fun h => h), ((Keep.refl Non W1).drew).cell m1 (fun h => h), ((Keep.refl Non W1).drew).cell m2 (fun h => h), ((Keep.refl Non W1).drew).cell m3 (fun h => h), ((Keep.refl Non W1).drew).cell y6 (fun h => h), range_keep hrg ((Keep.refl Non W1).drew) (fun h => h)⟩ (fun hHeld => ?_)
    refine wpAnyH_take (i := 0) (oi := _) (v := ?zv1) (by simp only [List.getElem?_toArray, List.getElem?_cons_zero]; rfl) (by kernel_rfl) (by kernel_rfl) (by kernel_rfl) (fun _ _ _ h => h) (Or.inl ⟨by rfl, ?zy1⟩) (by assumption) ?zr1
    case zy1 => (intro wz hSw; (try dsimp only at hSw); go_simp <;> with_reducible rfl)
    try simp only [Act.put, List.setIfInBounds_toArray, List.set_cons_zero, List.set_cons_succ]
    refine wpAnyH_take (i := 1) (oi := _) (v := _) (by simp only [List.getElem?_toArray, List.getElem?_cons_succ, List.getElem?_cons_zero]; rfl) (by kernel_rfl) (by kernel_rfl) (by kernel_rfl) (fun _ _ _ h => h) (yieldsIf_load_mid (by rfl) _ _ rfl _ _ rfl (B hash) _ (fun w h => h.2.2.2.2.2) hu16 rfl hsz16) (by assumption) ?_
    try simp only [Act.put, List.setIfInBounds_toArray, List.set_cons_zero, List.set_cons_succ]
    refine wpAnyH_take (i := 2) (oi := _) (v := ?zv2) (by simp only [List.getElem?_toArray, List.getElem?_cons_succ, List.getElem?_cons_zero]; rfl) (by kernel_rfl) (by kernel_rfl) (by kernel_rfl) (fun _ _ _ h => h) (Or.inl ⟨by rfl, ?zy2⟩) (by assumption) ?zr2
    case zy2 => (intro wz hSw; (try dsimp only at hSw); go_simp <;> with_reducible rfl)
    try simp only [Act.put, List.setIfInBounds_toArray, List.set_cons_zero, List.set_cons_succ]
    refine wpAnyH_take (i := 3) (oi := _) (v := ?zv3) (by simp only [List.getElem?_toArray, List.getElem?_cons_succ, List.getElem?_cons_zero]; rfl) (by kernel_rfl) (by kernel_rfl) (by kernel_rfl) (fun _ _ _ h => h) (Or.inl ⟨by rfl, ?zy3⟩) (by assumption) ?zr3
    case zy3 => (intro wz hSw; (try dsimp only at hSw); go_simp <;> with_reducible rfl)
    try simp only [Act.put, List.setIfInBounds_toArray, List.set_cons_zero, List.set_cons_succ]
    refine wpAnyH_take (i := 4) (oi := _) (v := ?zv4) (by simp only [List.getElem?_toArray, List.getElem?_cons_succ, List.getElem?_cons_zero]; rfl) (by kernel_rfl) (by kernel_rfl) (by kernel_rfl) (fun _ _ _ h => h) (Or.inl ⟨by rfl, ?zy4⟩) (by assumption) ?zr4
    case zy4 => (intro wz hSw; (try dsimp only at hSw); go_simp <;> with_reducible rfl)
    try simp only [Act.put, List.setIfInBounds_toArray, List.set_cons_zero, List.set_cons_succ]
    refine wpAnyH_take (i := 5) (oi := _) (v := ?zv5) (by simp only [List.getElem?_toArray, List.getElem?_cons_succ, List.getElem?_cons_zero]; rfl) (by kernel_rfl) (by kernel_rfl) (by kernel_rfl) (fun _ _ _ h => h) (Or.inl ⟨by rfl, ?zy5⟩) (by assumption) ?zr5
    case zy5 => (intro wz hSw; (try dsimp only at hSw); go_simp <;> with_reducible rfl)
    try simp only [Act.put, List.setIfInBounds_toArray, List.set_cons_zero, List.set_cons_succ]
    refine wpAnyH_take (i := 6) (oi := _) (v := ?zv6) (by simp only [List.getElem?_toArray, List.getElem?_cons_succ, List.getElem?_cons_zero]; rfl) (by kernel_rfl) (by kernel_rfl) (by kernel_rfl) (fun _ _ _ h => h) (Or.inl ⟨by rfl, ?zy6⟩) (by assumption) ?zr6
    case zy6 => (intro wz hSw; (try dsimp only at hSw); go_simp <;> with_reducible rfl)
    try simp only [Act.put, List.setIfInBounds_toArray, List.set_cons_zero, List.set_cons_succ]
    refine wpAnyH_ready (rs := [7]) (by kernel_rfl) (by simp) ?_
    refine AllReadyH.cons (o := _) (by simp only [List.getElem?_toArray, List.getElem?_cons_succ, List.getElem?_cons_zero]; rfl) (fun K hK => ?_) ?_
    · go_simp
      refine hK.out _ _ ⟨(((Keep.refl Non W1).alloc _).drew).cell m0 (fun h => h), (((Keep.refl Non W1).alloc _).drew).cell m1 (fun h => h), (((Keep.refl Non W1).alloc _).drew).cell m2 (fun h => h), (((Keep.refl Non W1).alloc _).drew).cell m3 (fun h => h), (((Keep.refl Non W1).alloc _).drew).cell y6 (fun h => h), range_keep hrg (((Keep.refl Non W1).alloc _).drew) (fun h => h)⟩ (fun hHeld => ?_)
      clear hK K
      try simp only [Act.put, List.setIfInBounds_toArray, List.set_cons_zero, List.set_cons_succ]
      refine wpAnyH_ready (rs := [8]) (by kernel_rfl) (by simp) ?_
      refine AllReadyH.cons (o := _) (by simp only [List.getElem?_toArray, List.getElem?_cons_succ, List.getElem?_cons_zero]; rfl) (fun K hK => ?_) ?_
      · rw [if_pos (by rfl)]
        refine wp_store_any _ _ _ rfl rfl rfl hst ?_
        refine hK.out _ _ ⟨hVk.cell m0 (fun h => h), hVk.cell m1 (fun h => h), hVk.cell m2 (fun h => h), hVk.cell m3 (fun h => h), hVk.cell y6 (fun h => h), range_keep hrg hVk (fun h => h)⟩ (fun hHeld => ?_)
        clear hK K
        refine wpAnyH_done (by kernel_rfl) ?_ _
        refine NoPanic.normal ?_
        go_wp2_with fail
        go_meet
        case rel => exact ⟨rfl, HVB.out, hVk⟩
      · exact AllReadyH.nil
    · exact AllReadyH.nil
  case rest =>
    obtain ⟨rfl, hb2, k2⟩ := hcut
    obtain ⟨gh, hgh⟩ : ∃ g, g = W1.heap.size := ⟨_, rfl⟩
    rw [← hgh] at hb2 ⊢
    have hfoot := fun W => headBytes hash fl W HH.out hf
    have hcl := headcells_length hash fl HH.out
    obtain ⟨cs, hcs⟩ : ∃ cs, cs = headcells hash fl := ⟨_, rfl⟩
    rw [← hcs] at hb2 hfoot hcl
    have hsz29 : (Tryz.prog.info? 118).map (·.size) = some cs.length := by rw [hcl]; kernel_rfl
    have HFOOT := Lib.hid hfoot
    have HV2 := Lib.hid hb2
    have HK2 := Lib.hid k2
    have HC2 := Lib.hid (HC.out.keep k2 (fun h => h))
    have HB2 := Lib.hid (HBW.out.far k2)
    have hrl : wc.rangeAt gh 0 cs := HV2.out.range
    have y1 : wc.cell? ⟨gc, 1, none⟩ = some (.pointer (some ⟨gb, 0, none⟩)) := by rw [HC2.out.cell]; rfl
    have n1 : ¬ (gc = gb ∨ gc = bb) := fun e => e.elim (HC2.out.ne HB2.out.blk (by decide)) (fun e => by obtain ⟨zs, hzb, _⟩ := HB2.out.buf; exact HC2.out.ne hzb (by decide) e)
    have n2 : ¬ (gh = gb ∨ gh = bb) := fun e => e.elim (HV2.out.ne HB2.out.blk (by decide)) (fun e => by obtain ⟨zs, hzb, _⟩ := HB2.out.buf; exact HV2.out.ne hzb (by decide) e)
    clear hgh hcs hfoot hb2 k2 m0 m1 m2 m3 y6 hrg hfold hfsz hset hBl hst hVk HVB
    go_upto_region 2 with (fail)
    go_cut [6] from 14 to 21 (fun v wx => v = .nilIface ∧ BW wx gb go bb (pend ++ headB hash fl) po out ∧ Keep (fun i => i = gb ∨ i = bb) wc wx)
    case first =>
      refine wp_region_noPanic ?_
      refine wp_region_held_drew (S := fun w' => w'.cell? ⟨gc, 1, none⟩ = some (.pointer (some ⟨gb, 0, none⟩)) ∧ w'.rangeAt gh 0 cs) (by kernel_rfl) ⟨((Keep.refl Non wc).drew).cell y1 (fun h => h), range_keep hrl ((Keep.refl Non wc).drew) (fun h => h)⟩ (fun hHeld => ?_)
      refine wpAnyH_take (i := 0) (oi := _) (v := ?zw0) (by simp only [List.getElem?_toArray, List.getElem?_cons_zero]; rfl) (by kernel_rfl) (by kernel_rfl) (by kernel_rfl) (fun _ _ _ h => h) (Or.inl ⟨by rfl, ?zx0⟩) (by assumption) ?zs0
      case zx0 => (intro wz hSw; (try dsimp only at hSw); go_simp <;> with_reducible rfl)
      try simp only [Act.put, List.setIfInBounds_toArray, List.set_cons_zero, List.set_cons_succ]
      refine wpAnyH_take (i := 1) (oi := _) (v := ?zw1) (by simp only [List.getElem?_toArray, List.getElem?_cons_succ, List.getElem?_cons_zero]; rfl) (by kernel_rfl) (by kernel_rfl) (by kernel_rfl) (fun _ _ _ h => h) (Or.inl ⟨by rfl, ?zx1⟩) (by assumption) ?zs1
      case zx1 => (intro wz hSw; (try dsimp only at hSw); go_simp <;> with_reducible rfl)
      try simp only [Act.put, List.setIfInBounds_toArray, List.set_cons_zero, List.set_cons_succ]
      refine wpAnyH_take (i := 2) (oi := _) (v := ?zw2) (by simp only [List.getElem?_toArray, List.getElem?_cons_succ, List.getElem?_cons_zero]; rfl) (by kernel_rfl) (by kernel_rfl) (by kernel_rfl) (fun _ _ _ h => h) (Or.inl ⟨by rfl, ?zx2⟩) (by assumption) ?zs2
      case zx2 => (intro wz hSw; (try dsimp only at hSw); go_simp <;> with_reducible rfl)
      try simp only [Act.put, List.setIfInBounds_toArray, List.set_cons_zero, List.set_cons_succ]
      refine wpAnyH_take (i := 3) (oi := _) (v := ?zw3) (by simp only [List.getElem?_toArray, List.getElem?_cons_succ, List.getElem?_cons_zero]; rfl) (by kernel_rfl) (by kernel_rfl) (by kernel_rfl) (fun _ _ _ h => h) (Or.inl ⟨by rfl, ?zx3⟩) (by assumption) ?zs3
      case zx3 => (intro wz hSw; (try dsimp only at hSw); go_simp <;> with_reducible rfl)
      try simp only [Act.put, List.setIfInBounds_toArray, List.set_cons_zero, List.set_cons_succ]
      refine wpAnyH_take (i := 4) (oi := _) (v := ?zw4) (by simp only [List.getElem?_toArray, List.getElem?_cons_succ, List.getElem?_cons_zero]; rfl) (by kernel_rfl) (by kernel_rfl) (by kernel_rfl) (fun _ _ _ h => h) (Or.inl ⟨by rfl, ?zx4⟩) (by assumption) ?zs4
      case zx4 => (intro wz hSw; (try dsimp only at hSw); go_simp <;> with_reducible rfl)
      try simp only [Act.put, List.setIfInBounds_toArray, List.set_cons_zero, List.set_cons_succ]
      refine wpAnyH_take (i := 5) (oi := _) (v := _) (by simp only [List.getElem?_toArray, List.getElem?_cons_succ, List.getElem?_cons_zero]; rfl) (by kernel_rfl) (by kernel_rfl) (by kernel_rfl) (fun _ _ _ h => h) (yieldsIf_load_mid (by rfl) _ _ rfl _ _ rfl cs _ (fun w h => h.2) Tryz.underlying118 rfl hsz29) (by assumption) ?_
      try simp only [Act.put, List.setIfInBounds_toArray, List.set_cons_zero, List.set_cons_succ]
      refine wpAnyH_ready (rs := [6]) (by kernel_rfl) (by simp) ?_
      refine AllReadyH.cons (o := _) (by simp only [List.getElem?_toArray, List.getElem?_cons_succ, List.getElem?_cons_zero]; rfl) (fun K hK => ?_) ?_
      · go_simp
        go_at_call 58
        refine (HFOOT.out _).mono ?_
        rintro e w3 ⟨v3, rfl, r3, k3, l3⟩
        have k3 := k3.undrew
        go_simp
        refine hK.out _ _ ⟨k3.cell y1 (fun h => h), range_keep hrl k3 (fun h => h)⟩ (fun hHeld => ?_)
        clear hK K
        try simp only [Act.put, List.setIfInBounds_toArray, List.set_cons_zero, List.set_cons_succ]
        refine wpAnyH_ready (rs := [7]) (by kernel_rfl) (by simp) ?_
        refine AllReadyH.cons (o := _) (by simp only [List.getElem?_toArray, List.getElem?_cons_succ, List.getElem?_cons_zero]; rfl) (fun K hK => ?_) ?_
        · go_simp
          go_at_call 57
          refine (writeAllB gb go bb pend (headB hash fl) po _ out _ (HB2.out.far k3) (by rw [headB_length HH.out]; exact r3.reads) (by rw [headB_length HH.out]; decide) (by rw [headB_length HH.out]; exact hfit)).mono ?_
          rintro e w4 ⟨rfl, b4, k4⟩
          go_simp
          refine hK.out _ _ ⟨k4.cell (k3.cell y1 (fun h => h)) n1, range_keep (range_keep hrl k3 (fun h => h)) k4 n2⟩ (fun hHeld => ?_)
          clear hK K
          try simp only [Act.put, List.setIfInBounds_toArray, List.set_cons_zero, List.set_cons_succ]
          refine wpAnyH_take (i := 8) (oi := _) (v := ?zw8) (by simp only [List.getElem?_toArray, List.getElem?_cons_succ, List.getElem?_cons_zero]; rfl) (by kernel_rfl) (by kernel_rfl) (by kernel_rfl) (fun _ _ _ h => h) (Or.inl ⟨by rfl, ?zx8⟩) (by assumption) ?zs8
          case zx8 => (intro wz hSw; (try dsimp only at hSw); go_simp <;> with_reducible rfl)
          try simp only [Act.put, List.setIfInBounds_toArray, List.set_cons_zero, List.set_cons_succ]
          refine wpAnyH_done (by kernel_rfl) ?_ _
          refine NoPanic.normal ?_
          go_wp2_with fail
          go_meet
          case rel => exact ⟨rfl, b4, (k3.mono (fun _ _ h => h.elim)).trans' k4⟩
        · exact AllReadyH.nil
      · exact AllReadyH.nil
    case rest =>
      obtain ⟨rfl, b4, k4⟩ := hcut
      go_wp2_with fail
      go_ret
      exact ⟨rfl, b4, ((HK1.out.trans' HK2.out).mono (fun _ _ h => h.elim)).trans' k4⟩
end Go.Proofs.YtcpegoofbenoiaaGreatDoor
