/-
  CONTRACTS of a buffered writer's making; bytes and footers through it.
-/
import Derived.Test.YtcpegoofbenoiaaGreatDoorZCx
import Derived.Test.YtcpegoofbenoiaaGreatDoorZGCt
namespace Go.Proofs.YtcpegoofbenoiaaGreatDoor
open Go.RowKit
open Go.ChangeShapes Go.WideShapes Go.ChangeAt Go.Deep
open Plain (M64)

theorem made_eq (n : Nat) : madeCells #[.int .u8 0] n = (B (List.replicate n 0)).toArray := by
  apply Array.ext'
  rw [toList_madeCells_one]
  simp [B]
theorem assertBw (a : Addr) (w : World) : (Instr.typeAssert (.iface 54 (.pointer (some a))) 87 92 true).run Tryz.prog w = .ok (.tuple #[.pointer none, .bool false]) w := by kernel_rfl
set_option maxRecDepth 100000 in
theorem newBw (go : Nat) (po : Value) (out : List UInt8) (w : World) (h : Wr w go po out.length out) :
    Calls Tryz.prog 56 #[.iface 54 (.pointer (some ⟨go, 0, none⟩)), .int .i64 4096] w fun e w' => ∃ gb bb, e = .returned (.pointer (some ⟨gb, 0, none⟩)) ∧ BW w' gb go bb [] po out ∧ Keep Non w w' ∧ w.heap.size ≤ gb ∧ w.heap.size ≤ bb := by
  have hmk : ∀ W, (Instr.makeSlice 33 (.int .i64 4096) (.int .i64 4096)).run Tryz.prog W = _ := fun W => run_make_row' (P := Tryz.prog) 33 5 (.int .u8 0) 1 Tryz.underlying33 (by kernel_rfl) rfl .i64 .i64 4096 (by omega) (by omega) W
  have hta := assertBw
  have H := Lib.hid h
  clear h
  go_enter Tryz.func56, Tryz.ntmps56
  go_wp2
  go_ret
  rw [made_eq]
  obtain ⟨Z, hZ⟩ : ∃ Z : List UInt8, Z = List.replicate 4096 0 := ⟨_, rfl⟩
  have hzl : (B Z).length = 4096 := by rw [hZ, B_length, List.length_replicate]
  rw [← hZ]
  have hz : (w.alloc (.cells (B Z).toArray 5)).heap.size = w.heap.size + 1 := by simp
  have hb := Blk.new (w.alloc (.cells (B Z).toArray 5)) [.nilIface, .slice (some ⟨w.heap.size, 0, none⟩) 4096 4096, .int .i64 (0 : Nat), .iface 54 (.pointer (some ⟨go, 0, none⟩))] 152
  rw [hz] at hb
  refine ⟨w.heap.size + 1, w.heap.size, rfl, ⟨hb, ⟨_, (Blk.new w (B Z) _).alloc _, hzl, by rw [List.length_nil, List.take_zero]; rfl⟩, H.out.far (((Keep.refl _ _).alloc _).alloc _), fun e => by have := H.out.row.lt e; omega, Nat.zero_le _⟩, ((Keep.refl _ _).alloc _).alloc _, by omega, Nat.le_refl _⟩
theorem newBw2 (go : Nat) (po : Value) (out : List UInt8) (w : World) (h : Wr w go po out.length out) :
    Calls Tryz.prog 34 #[.iface 54 (.pointer (some ⟨go, 0, none⟩))] w fun e w' => ∃ gb bb, e = .returned (.pointer (some ⟨gb, 0, none⟩)) ∧ BW w' gb go bb [] po out ∧ Keep Non w w' ∧ w.heap.size ≤ gb ∧ w.heap.size ≤ bb := by
  go_enter Tryz.func34, Tryz.ntmps34
  go_wp2_with (go_at_call 56; refine (newBw go po out w h).mono ?_; rintro e w1 ⟨gb, bb, rfl, h1, k1, l1, l2⟩)
  go_ret
  exact ⟨gb, bb, rfl, h1, k1, l1, l2⟩

/-! ### A new writer of counters -/
structure NewC (w wx : World) (gc gs gb bb tb fl go : Nat) (po : Value) (out : List UInt8) : Prop where
  blk : Blk wx gc (ccells (.pointer (some ⟨gs, 0, none⟩)) gb 0 0 0 (.slice (some ⟨tb, 0, none⟩) 64 64) fl 0) 98
  st : Blk wx gs [.map none, .slice none 0 0, .slice none 0 0, .bool false] 91
  row : Row wx 5 1 (.slice (some ⟨tb, 0, none⟩) 64 64) 64 (B (List.replicate 64 0))
  bw : BW wx gb go bb [] po out
  keep : Keep Non w wx
  lc : w.heap.size ≤ gc
  ls : w.heap.size ≤ gs
  lb : w.heap.size ≤ gb
  lbb : w.heap.size ≤ bb
  lt : w.heap.size ≤ tb
  nt : tb ≠ bb
theorem newC_of {w wB : World} {gc gs gb bb tb fl go : Nat} {po : Value} {out : List UInt8} (hg : wB.heap.size = gc) (st : Blk wB gs [.map none, .slice none 0 0, .slice none 0 0, .bool false] 91) (row : Row wB 5 1 (.slice (some ⟨tb, 0, none⟩) 64 64) 64 (B (List.replicate 64 0))) (bw : BW wB gb go bb [] po out) (k : Keep Non w wB)
    (ls : w.heap.size ≤ gs) (lb : w.heap.size ≤ gb) (lbb : w.heap.size ≤ bb) (lt : w.heap.size ≤ tb) (nt : tb ≠ bb) :
    NewC w (wB.alloc (.cells #[.pointer (some ⟨gs, 0, none⟩), .pointer (some ⟨gb, 0, none⟩), .int .u64 0, .int .u32 0, .int .u32 0, .slice (some ⟨tb, 0, none⟩) 64 64, .int .u8 fl, .int .u32 0, .bool false] 98)) gc gs gb bb tb fl go po out where
  blk := by
    rw [← hg]
    exact Blk.new wB (ccells (.pointer (some ⟨gs, 0, none⟩)) gb 0 0 0 (.slice (some ⟨tb, 0, none⟩) 64 64) fl 0) _
  st := st.alloc _
  row := row.alloc _
  bw := bw.far ((Keep.refl _ _).alloc _)
  keep := k.alloc _
  lc := by
    rw [← hg]
    exact k.size
  ls := ls
  lb := lb
  lbb := lbb
  lt := lt
  nt := nt
def stO : Obj := .cells #[.map none, .slice none 0 0, .slice none 0 0, .bool false] 91
def zO : Obj := .cells (B (List.replicate 64 0)).toArray 5
theorem stNew (W : World) : Blk (W.alloc stO) W.heap.size [.map none, .slice none 0 0, .slice none 0 0, .bool false] 91 := Blk.new W [.map none, .slice none 0 0, .slice none 0 0, .bool false] _
theorem zNew (W : World) : Row (W.alloc zO) 5 1 (.slice (some ⟨W.heap.size, 0, none⟩) 64 64) 64 (B (List.replicate 64 0)) := Row.lit W 5 1 (B (List.replicate 64 0)) 64 (by decide) (by rw [B_length, List.length_replicate])
theorem size1 (W : World) (o : Obj) : (W.alloc o).heap.size = W.heap.size + 1 := by simp
theorem zNew1 (W : World) : Row ((W.alloc stO).alloc zO) 5 1 (.slice (some ⟨W.heap.size + 1, 0, none⟩) 64 64) 64 (B (List.replicate 64 0)) := by
  have := zNew (W.alloc stO)
  rwa [size1] at this
theorem stNew1 (W : World) : Blk ((W.alloc zO).alloc stO) (W.heap.size + 1) [.map none, .slice none 0 0, .slice none 0 0, .bool false] 91 := by
  have := stNew (W.alloc zO)
  rwa [size1] at this
set_option maxRecDepth 100000 in
set_option maxHeartbeats 8000000 in
theorem newCw (fl go : Nat) (po : Value) (out : List UInt8) (w : World) (h : Wr w go po out.length out) :
    Calls Tryz.prog 17 #[.iface 54 (.pointer (some ⟨go, 0, none⟩)), .int .u8 fl] w fun e w' => ∃ gc tb gb bb, e = .returned (.pointer (some ⟨gc, 0, none⟩)) ∧ (∃ gs, Blk w' gc (ccells (.pointer (some ⟨gs, 0, none⟩)) gb 0 0 0 (.slice (some ⟨tb, 0, none⟩) 64 64) fl 0) 98) ∧ Row w' 5 1 (.slice (some ⟨tb, 0, none⟩) 64 64) 64 (B (List.replicate 64 0)) ∧ BW w' gb go bb [] po out ∧ Keep Non w w' ∧ w.heap.size ≤ gc ∧ w.heap.size ≤ tb ∧ w.heap.size ≤ gb ∧ w.heap.size ≤ bb ∧ tb ≠ bb := by
  have hmk : ∀ W, (Instr.makeSlice 33 (.int .i64 64) (.int .i64 64)).run Tryz.prog W = _ := fun W => run_make_row' (P := Tryz.prog) 33 5 (.int .u8 0) 1 Tryz.underlying33 (by kernel_rfl) rfl .i64 .i64 64 (by omega) (by omega) W
  have H := Lib.hid h
  clear h
  go_enter Tryz.func17, Tryz.ntmps17
  go_upto_region 1 with (fail)
  go_cut [5] from 6 to 13 (fun v wx => ∃ gc gs gb bb tb, v = .pointer (some ⟨gc, 0, none⟩) ∧ NewC w wx gc gs gb bb tb fl go po out)
  case first =>
    go_region_with (go_at_call 34; go_must (refine (newBw2 go po out _ (H.out.far (by first | exact (Keep.refl _ _).drew | exact (Keep.refl _ _).drew.alloc _ | exact ((Keep.refl _ _).drew.alloc _).alloc _))).mono ?_); rintro e w2 ⟨gb, bb, rfl, b2, k2, l1, l2⟩)
    all_goals
      go_wp2_with fail
      go_meet
      case rel =>
        rw [made_eq] at *
        have hs : w.heap.size ≤ w2.heap.size := by have := k2.size; (try simp at this); omega
        have g1 : w.heap.size ≤ gb := by (try simp at l1); omega
        have g2 : w.heap.size ≤ bb := by (try simp at l2); omega
        have g3 := b2.lt bb (.inr (.inr (.inl rfl)))
        have g4 : ∀ W : World, (W.alloc zO).heap.size = W.heap.size + 1 := fun W => size1 W _
        first
        | exact ⟨_, _, _, _, _, rfl, newC_of (by simp) (((stNew w).drew.keep k2 (fun h => h)).alloc zO) (zNew w2) (b2.far ((Keep.refl _ _).alloc _)) ((((Keep.refl Non w).alloc stO).drew.trans' k2).alloc zO) (Nat.le_refl _) g1 g2 hs (by omega)⟩
        | exact ⟨_, _, _, _, _, rfl, newC_of (by simp) (((stNew w).alloc zO).drew.keep k2 (fun h => h)) ((zNew1 w).drew.keep k2 (fun _ _ h => h)) b2 ((((Keep.refl Non w).alloc stO).alloc zO).drew.trans' k2) (Nat.le_refl _) g1 g2 (by omega) (by (try simp at l2); omega)⟩
        | exact ⟨_, _, _, _, _, rfl, newC_of (by simp) ((stNew w2).alloc zO) (zNew1 w2) (b2.far (((Keep.refl _ _).alloc _).alloc _)) ((((Keep.refl Non w).drew.trans' k2).alloc stO).alloc zO) hs g1 g2 (by omega) (by omega)⟩
        | exact ⟨_, _, _, _, _, rfl, newC_of (by simp) (stNew1 w2) ((zNew w2).alloc stO) (b2.far (((Keep.refl _ _).alloc _).alloc _)) ((((Keep.refl Non w).drew.trans' k2).alloc zO).alloc stO) (by omega) g1 g2 hs (by omega)⟩
        | exact ⟨_, _, _, _, _, rfl, newC_of (by simp) ((stNew1 w).drew.keep k2 (fun h => h)) (((zNew w).alloc stO).drew.keep k2 (fun _ _ h => h)) b2 ((((Keep.refl Non w).alloc zO).alloc stO).drew.trans' k2) (by omega) g1 g2 (Nat.le_refl _) (by (try simp at l2); omega)⟩
        | exact ⟨_, _, _, _, _, rfl, newC_of (by simp) (stNew w2) ((((zNew w).drew.keep k2 (fun _ _ h => h))).alloc stO) (b2.far ((Keep.refl _ _).alloc _)) ((((Keep.refl Non w).alloc zO).drew.trans' k2).alloc stO) hs g1 g2 (Nat.le_refl _) (by (try simp at l2); omega)⟩
  case rest =>
    obtain ⟨gc, gs, gb, bb, tb, rfl, hN⟩ := hcut
    have HN := Lib.hid hN
    clear hN hmk
    have y0 : wc.cell? ⟨gc, 0, none⟩ = some (.pointer (some ⟨gs, 0, none⟩)) := by rw [HN.out.blk.cell]; rfl
    have hgg : gc ≠ gs := HN.out.blk.ne HN.out.st (by decide)
    go_upto_region 3 with (go_at_call 35; refine (initWriter gs _ [] wc HN.out.st).mono ?_; rintro e w1 ⟨rfl, mb, sm, t1, k1, l1, l2⟩)
    have y1 : w1.cell? ⟨gc, 0, none⟩ = some (.pointer (some ⟨gs, 0, none⟩)) := k1.cell y0 (fun e => hgg e)
    go_wp2_with (go_at_call 36; refine (lookup gs 91 [] mb _ sm false [] ⟨#[]⟩ w1 t1 (by decide) (by decide) (by decide) (by decide) (.inl rfl)).mono ?_; rintro e w2 ⟨ss, rfl, t2, k2, l3⟩)
    go_ret
    have hz := HN.out.lt
    have kk : Keep (fun i => i = gs ∨ wc.heap.size ≤ i) wc w2 := (k1.mono (fun i _ e => .inl e)).trans k2 (fun i _ e => by
      rcases e with e | e | e
      · exact .inl e
      · exact .inr (by omega)
      · simp [Value.ownBlock] at e)
    have hb := HN.out.bw.lt
    have no : ∀ i, i < wc.heap.size → i ≠ gs → ¬ (i = gs ∨ wc.heap.size ≤ i) := fun i h1 h2 e => e.elim h2 (by omega)
    have hst := HN.out.st
    refine ⟨gc, tb, gb, bb, rfl, ⟨gs, HN.out.blk.keep kk (no _ HN.out.blk.lt hgg)⟩, HN.out.row.keep kk (fun b hb => no b (HN.out.row.lt hb) (fun e => HN.out.row.neBlk hst (by decide) (by rw [hb, e]))), HN.out.bw.keep kk (fun i hi => no i (hb i hi) (fun e => ?_)), HN.out.keep.trans kk (fun i hi e => by have := HN.out.ls; have := HN.out.keep.size; omega), HN.out.lc, HN.out.lt, HN.out.lb, HN.out.lbb, HN.out.nt⟩
    rw [e] at hi
    rcases hi with e | e | e | e
    · exact hst.ne HN.out.bw.blk (by decide) e
    · exact hst.ne HN.out.bw.wr.blk (by decide) e
    · obtain ⟨zs, hzb, _⟩ := HN.out.bw.buf
      exact hst.ne hzb (by decide) e
    · exact HN.out.bw.wr.row.neBlk hst (by decide) e
end Go.Proofs.YtcpegoofbenoiaaGreatDoor
