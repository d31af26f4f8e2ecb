/-
  CONTRACTS: a text of the segment's arguments is read; a map with a hint; a number of one digit.
-/
import Derived.Test.YtcpegoofbenoiaaGreatDoorZRc4
namespace Go.Proofs.YtcpegoofbenoiaaGreatDoor
open Go.RowKit
open Go.ChangeShapes Go.WideShapes Go.ChangeAt Go.Deep
open Plain (M64)

theorem rtEntries (gt g bb c p : Nat) (bs : List UInt8) (v : Value) (all : List ByteArray) (w : World) (h : RT w gt g bb c p bs v all) (_hl : all.length ≤ 1000) :
    Calls Tryz.prog 94 #[.pointer (some ⟨gt, 0, none⟩)] w fun e w' => e = .returned (.int .i64 all.length) ∧ w' = w := by
  obtain ⟨va, vc, rfl⟩ := h.row.reads.slice
  have d1 := h.c1
  go_enter Tryz.func94, Tryz.ntmps94
  go_wp2
  go_ret
  exact ⟨rfl, rfl⟩
theorem makeMapHint (n : Nat) (W : World) : (Instr.makeMap 62 (some (.int .i64 n))).run Tryz.prog W = .ok (.map (some W.heap.size)) (W.alloc (.map #[] 0)) := by
  have hu := Tryz.underlying62
  simp [Instr.makeMap, run_underlying hu, asInt, asIntOf, Result.andThen]
theorem digAtoi {i : Nat} (h : i < 10) : Lib.atoi (dig i).data.toList = some (i : Int) := by
  have : i = 0 ∨ i = 1 ∨ i = 2 ∨ i = 3 ∨ i = 4 ∨ i = 5 ∨ i = 6 ∨ i = 7 ∨ i = 8 ∨ i = 9 := by omega
  rcases this with rfl | rfl | rfl | rfl | rfl | rfl | rfl | rfl | rfl | rfl <;> decide
theorem keepBytes (w : World) (e : TypeId) (s : ByteArray) : Keep Non w (Lib.bytesWorld w e s) := ⟨rfl, rfl, rfl, by rw [Lib.bytesWorld_size]; omega, fun k hk _ => Lib.bytesWorld_at_old w _ s k hk⟩
theorem getD_place : ∀ {l : List ByteArray} {s : ByteArray}, s ∈ l → l[place l s]? = some s
  | a :: l, s, h => by
    by_cases e : a = s
    · subst e; simp [place]
    · rw [place, if_neg e, List.getElem?_cons_succ]
      exact getD_place ((List.mem_cons.1 h).resolve_left (fun h => e h.symm))
set_option maxRecDepth 100000 in
set_option maxHeartbeats 2000000 in
theorem sgetT (b6 bp gd ga ba ca pa gt gr bt ct pr k : Nat) (A r T : List UInt8) (v : Value) (all : List ByteArray) (s : ByteArray) (w : World) (h6 : Blk w b6 [.pointer (some ⟨ga, 0, none⟩)] 71) (hp : Blk w bp [.pointer (some ⟨gd, 0, none⟩)] 68)
    (x0 : w.cell? ⟨gd, 0, none⟩ = some (.pointer (some ⟨gt, 0, none⟩))) (hgd : gd ≠ ga) (hR : RR w ga ba ca pa A) (hT : RT w gt gr bt ct pr T v all) (hn : gt ≠ ga) (hn2 : gr ≠ ga) (hn3 : bt ≠ ga) (hA : A.length ≤ 1000000) (hd : A.drop pa = uleb k ++ r) (hk : all[k]? = some s) (hal : all.length ≤ 900) :
    Calls Tryz.prog 92 #[.pointer (some ⟨b6, 0, none⟩), .pointer (some ⟨bp, 0, none⟩)] w fun e w' => e = .returned (.tuple #[.string s, .nilIface]) ∧ RR w' ga ba ca (pa + (uleb k).length) A ∧ Keep (At ga) w w' := by
  have hkl : k < all.length := (List.getElem?_eq_some_iff.1 hk).1
  have hks : all[k] = s := (List.getElem?_eq_some_iff.1 hk).2
  have hu64 : IntKind.i64.wrap (k : Int) = (k : Int) := IntWalk.i64_in _ (by omega)
  have hu32 := wrap32 k (by omega)
  have y6 : w.cell? ⟨b6, 0, none⟩ = some (.pointer (some ⟨ga, 0, none⟩)) := by rw [h6.cell]; rfl
  have HP := Lib.hid hp
  have HR := Lib.hid hR
  have HT := Lib.hid hT
  have HD := Lib.hid hd
  have HKS := Lib.hid hks
  have HX0 := Lib.hid x0
  have HB6 := Lib.hid h6
  clear h6 hp hR hT hd hk hks x0
  go_enter Tryz.func92, Tryz.ntmps92
  go_upto_region 2 with (go_at_call 93; go_must (refine (readU ga ba ca pa A r k _ HR.out (by unfold M64; omega) hA HD.out).mono ?_); rintro e w1 ⟨rfl, r1, k1⟩)
  have HR1 := Lib.hid r1
  have HK1 := Lib.hid k1
  have hT1 := HT.out.keepS k1 hn hn2 hn3 (fun b hb e => by have e : b = ga := e; exact HT.out.row.neBlk HR.out.blk (by decide) (by rw [hb, e]))
  have HT1 := Lib.hid hT1
  have x0 := k1.cell HX0.out hgd
  have hpp := HP.out.keep k1 (fun e => by have e : bp = ga := e; exact HP.out.ne HR.out.blk (by decide) e)
  have yp : w1.cell? ⟨bp, 0, none⟩ = some (.pointer (some ⟨gd, 0, none⟩)) := by rw [hpp.cell]; rfl
  clear hT1 k1 r1 hpp y6
  have hlt : ¬ (all.length : Int) ≤ (k : Int) := by omega
  go_upto_region 4 with (go_at_call 94; refine (rtEntries gt gr bt ct pr T v all _ HT1.out (by omega)).mono ?_; rintro e w2 ⟨rfl, rfl⟩)
  go_wp2_with (go_at_call 95; refine (rtGet gt gr bt ct pr T v all k _ HT1.out (by omega) hkl).mono ?_; rintro e w2 ⟨rfl, rfl⟩)
  go_ret2
  exact ⟨by rw [HKS.out]; rfl, HR1.out, HK1.out⟩
end Go.Proofs.YtcpegoofbenoiaaGreatDoor
/-
  CONTRACT: what a run says of itself is read.
-/
namespace Go.Proofs.YtcpegoofbenoiaaGreatDoor
open Go.RowKit
open Go.ChangeShapes Go.WideShapes Go.ChangeAt Go.Deep
open Plain (M64)

/-! ### Where a pair stands -/
def apos (prs : List (Nat × Nat)) (k : Nat) : Nat := (uleb prs.length).length + ((prs.take k).flatMap prB).length
theorem apos_drop (n : Nat) {prs : List (Nat × Nat)} {k : Nat} (h : k < prs.length) : (argB n prs).drop (apos prs k) = uleb prs[k].1 ++ (uleb prs[k].2 ++ ((prs.drop (k + 1)).flatMap prB ++ padB (16 + n + (prsB prs).length))) := by
  have e : prs.flatMap prB = (prs.take k).flatMap prB ++ (prB prs[k] ++ (prs.drop (k + 1)).flatMap prB) := by
    conv => lhs; rw [← List.take_append_drop k prs, List.drop_eq_getElem_cons h, List.flatMap_append, List.flatMap_cons]
  have e2 : argB n prs = (uleb prs.length ++ (prs.take k).flatMap prB) ++ (prB prs[k] ++ ((prs.drop (k + 1)).flatMap prB ++ padB (16 + n + (prsB prs).length))) := by
    rw [argB]
    generalize padB (16 + n + (prsB prs).length) = z
    rw [prsB, e]
    simp only [List.append_assoc]
  rw [e2, apos, ← List.length_append, List.drop_left, prB]
  simp only [List.append_assoc]
theorem apos_succ {prs : List (Nat × Nat)} {k : Nat} (h : k < prs.length) : apos prs (k + 1) = apos prs k + (uleb prs[k].1).length + (uleb prs[k].2).length := by
  rw [apos, apos, List.take_succ_eq_append_getElem h, List.flatMap_append, List.length_append]
  simp only [List.flatMap_cons, List.flatMap_nil, List.append_nil, prB, List.length_append]
  omega
theorem apos_zero (prs : List (Nat × Nat)) : apos prs 0 = (uleb prs.length).length := by simp [apos]
/-- A key with its text. -/
def kvOf (kvs : List (ByteArray × ByteArray)) (k : ByteArray) : ByteArray × ByteArray := (k, (getSM kvs k).getD ⟨#[]⟩)
theorem keysL_kv (kvs : List (ByteArray × ByteArray)) (ks : List ByteArray) : keysL (ks.map (kvOf kvs)) = ks := by
  simp only [keysL, List.map_map]
  exact List.map_id'' (fun _ => rfl) ks
theorem getSM_kv {kvs : List (ByteArray × ByteArray)} {ks : List ByteArray} (hp : ks.Perm (keysL kvs)) (hn : (keysL kvs).Nodup) (s : ByteArray) : getSM (ks.map (kvOf kvs)) s = getSM kvs s := by
  by_cases h : s ∈ keysL kvs
  · obtain ⟨v, hv⟩ := Option.isSome_iff_exists.1 (getSM_isSome.2 h)
    rw [hv]
    refine getSM_of_mem (by rw [keysL_kv]; exact hp.nodup_iff.2 hn) ?_
    have : kvOf kvs s = (s, v) := by simp [kvOf, hv]
    rw [← this]
    exact List.mem_map_of_mem (hp.mem_iff.2 h)
  · rw [getSM_none h, getSM_none (by rw [keysL_kv]; exact fun e => h (hp.mem_iff.1 e))]
/-! ### What the lookups tell -/
theorem getSM_append (a b : List (ByteArray × ByteArray)) (s : ByteArray) : getSM (a ++ b) s = (getSM a s).or (getSM b s) := by
  induction a with
  | nil => simp [getSM]
  | cons x a ih =>
    rw [List.cons_append, getSM, getSM]
    split
    · rfl
    · exact ih
theorem argvs_get : ∀ (l : List ByteArray) (i j : Nat) (h : j < l.length), i + l.length ≤ 10 → getSM (argvs i l) (kArgv ++ dig (i + j)) = some l[j]
  | a :: l, i, 0, _, _ => by rw [argvs, getSM, if_pos (by rw [Nat.add_zero])]; rfl
  | a :: l, i, j + 1, h, h10 => by
    simp only [List.length_cons] at h h10
    rw [argvs, getSM, if_neg (fun e => by have := argv_inj (by omega) (by omega) e; omega)]
    have := argvs_get l (i + 1) j (by omega) (by omega)
    rw [show i + 1 + j = i + (j + 1) by omega] at this
    rw [this]
    rfl
theorem heads_get (os arch s : ByteArray) (h1 : s ≠ kOs) (h2 : s ≠ kArch) : getSM (heads os arch) s = none := by
  refine getSM_none ?_
  unfold heads keysL
  split <;> split <;> simp [h1, h2]
theorem kne1 : kOs ≠ kArch := fun e => absurd (congrArg ByteArray.size e) (by decide)
theorem kne2 : kOs ≠ kArgc := by decide
theorem kne3 : kArch ≠ kArgc := by decide
theorem get_os {s : Sg} (_h : s.args.length ≤ 6) : getSM (pairs s) kOs = if s.os.size = 0 then none else some s.os := by
  have h1 : kOs ∉ keysL (if s.args = [] then [] else (kArgc, dig s.args.length) :: argvs 0 s.args) := by
    split
    · simp [keysL]
    · simp only [keysL, List.map_cons, List.mem_cons]
      rintro (e | e)
      · exact kne2 e
      · obtain ⟨j, _, _, e⟩ := argvs_keys s.args 0 _ e
        have := congrArg ByteArray.size e
        rw [argv_size] at this
        exact absurd this (by decide)
  rw [pairs_eq, getSM_append, getSM_none h1, Option.or_none]
  unfold heads
  split <;> split <;> simp [getSM, Ne.symm kne1]
theorem get_arch {s : Sg} (_h : s.args.length ≤ 6) : getSM (pairs s) kArch = if s.arch.size = 0 then none else some s.arch := by
  have h1 : kArch ∉ keysL (if s.args = [] then [] else (kArgc, dig s.args.length) :: argvs 0 s.args) := by
    split
    · simp [keysL]
    · simp only [keysL, List.map_cons, List.mem_cons]
      rintro (e | e)
      · exact kne3 e
      · obtain ⟨j, _, _, e⟩ := argvs_keys s.args 0 _ e
        have := congrArg ByteArray.size e
        rw [argv_size] at this
        exact absurd this (by decide)
  rw [pairs_eq, getSM_append, getSM_none h1, Option.or_none]
  unfold heads
  split <;> split <;> simp [getSM, kne1]
theorem get_argc {s : Sg} : getSM (pairs s) kArgc = if s.args = [] then none else some (dig s.args.length) := by
  rw [pairs_eq, getSM_append, heads_get _ _ _ (Ne.symm kne2) (Ne.symm kne3), Option.none_or]
  split
  · rfl
  · rw [getSM, if_pos rfl]
theorem get_argv {s : Sg} (h : s.args.length ≤ 6) {j : Nat} (hj : j < s.args.length) : getSM (pairs s) (kArgv ++ dig j) = some s.args[j] := by
  have hne : s.args ≠ [] := fun e => by rw [e] at hj; simp at hj
  rw [pairs_eq, getSM_append, heads_get _ _ _ (fun e => absurd (congrArg ByteArray.size e) (by rw [argv_size]; decide)) (fun e => absurd (congrArg ByteArray.size e) (by rw [argv_size]; decide)), Option.none_or, if_neg hne, getSM, if_neg (fun e => absurd ((congrArg ByteArray.size e).trans (argv_size j)) (by show ¬ kArgc.size = 5; decide))]
  have := argvs_get s.args 0 j hj (by omega)
  rw [Nat.zero_add] at this
  exact this
/-- A look at a map, as an equation. -/
theorem run_look {w : World} {mb : Nat} {kvs : List (ByteArray × ByteArray)} {s : ByteArray} (hown : OwnsSM w mb kvs) (hs : s.size ≤ maxLen) : (Instr.lookup 62 (.map (some mb)) (.string s) false).run Tryz.prog w = .ok (.string ((getSM kvs s).getD ⟨#[]⟩)) w := by
  obtain ⟨D, ho, hd⟩ := hown
  obtain ⟨v, ps, hrun, hv⟩ := ho.lookup keyed Tryz.underlying62 (zeroStr w) (plainElem_string (s := ⟨#[]⟩) Tryz.underlying9 (Nat.zero_le _)) (Go.WideMaps.keyOf_string_mk (P := Tryz.prog) Tryz.underlying9 (s := s) hs)
  rw [looked hd hv] at hrun
  exact hrun
end Go.Proofs.YtcpegoofbenoiaaGreatDoor
