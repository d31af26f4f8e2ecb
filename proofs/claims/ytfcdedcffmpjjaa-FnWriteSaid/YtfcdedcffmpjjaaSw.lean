/-
  CONTRACTS of the writer over a slice of bytes.
-/
import Derived.Test.YtfcdedcffmpjjaaStep
import Derived.Lib.AppendZerosOnto
import Derived.Laws.OwnMore
namespace Go.Proofs.Ytfcdedcffmpjjaa
open Go.RowKit
open Go.ChangeShapes Go.WideShapes Go.ChangeAt Go.Deep

/-! ### append of zeros -/
theorem run_append_room_zeros {P : Program} (w : World) (t tn ty e : TypeId) (i : TypeInfo) (z : Value) (k kn : IntKind) (ht : P.underlying t = some (.slice e)) (htn : P.underlying tn = some (.int kn)) (hi : P.info? e = some i) (hz : i.zero = some z) (hsz : i.size = 1) (hz1 : z.cells = #[z]) (ho : z.oneCell' = true)
    (g sLen sCap : Nat) (cur : Array Value) (hg : w.heap[g]? = some (.cells cur e (0, 0))) (m : Nat) (hm : 0 < m) (h63 : (m : Int) ≤ 9223372036854775807) (h48 : m * i.bytes ≤ 281474976710656) (hroom : sLen + m ≤ sCap) (hfit : sLen + m ≤ cur.size) :
    (Builtin.append_ #[t, tn] ty #[.slice (some ⟨g, 0, none⟩) sLen sCap, .int k m]).run P w =
      .ok (.slice (some ⟨g, 0, none⟩) (sLen + m) sCap) (w.setRow g (cur.toList.take sLen ++ List.replicate m z ++ cur.toList.drop (sLen + m)).toArray) := by
  have hw : IntKind.i64.wrap (m : Int) = m := by rw [IntKind.wrap_i64]; omega
  have h48i : ¬ (281474976710656 < (m : Int) * (i.bytes : Int)) := by
    rw [← Int.natCast_mul]; omega
  have hneg : ¬ ((m : Int) < 0) := by omega
  have hzc : Builtin.zeroCells z.cells m = (List.replicate m z).toArray := by
    rw [hz1]
    apply Array.ext'
    simp only [Builtin.zeroCells, List.size_toArray, List.length_cons, List.length_nil]
    apply List.ext_getElem
    · simp
    · intro j h1 h2
      simp [Nat.mod_one]
  have hst := run_storeCells_at P g (sLen * i.size) e (List.replicate m z) 0 cur w hg (by rw [hsz]; simpa using hfit) (by intro u hu; rw [List.eq_of_mem_replicate hu]; exact ho)
  simp only [Nat.add_zero, hsz, Nat.mul_one, List.length_replicate] at hst
  have hm0 : m ≠ 0 := by omega
  simp [Builtin.append_, run_underlying ht, run_underlying htn, sizeOf, typeInfo, zeroValue, hi, hz, asInt, asIntOf, hw, hneg, h48i, hroom, hsz, hm0, hzc, Addr.add_lit, hst]
theorem wpList_appZ {P : Program} {w : World} {t tn e : TypeId} {z : Value} {bytes : Nat} {kn k : IntKind} (T : SliceT P t e z 1 bytes) (htn : P.underlying tn = some (.int kn)) (hz1 : z.cells = #[z]) (ho1 : z.oneCell' = true)
    {ops : Array Oper} {rest : List Oper} {o : Oper} {a : Act} {Q : Exit → Act → World → Prop} (hgd : o.guard = none) (s x : Operand)
    (ho : o.op = .call { callee := .builtin .append, args := #[s, x], argTypes := #[t, tn] })
    {v : Value} {n m : Nat} {xs : List Value} (hs : a.eval s = v) (hown : Row w e 1 v n xs) {mi : Int} (hx : a.eval x = .int k mi) (hmi : mi = (m : Int)) (hm : 0 < m)
    (h63 : n + m ≤ maxLen) (hbytes : (n + m) * bytes ≤ 140737488355328)
    (h : ∀ v' w', Row w' e 1 v' (n + m) (xs ++ List.replicate m z) → Grew w w' v v' → wpList P ops Q rest (a.put o.dst v') w') :
    wpList P ops Q (o :: rest) a w := by
  subst hmi
  obtain ⟨i, hi, hz, hsz, hb⟩ := info_parts T.row
  have h63' : n + m ≤ 9223372036854775807 := by unfold maxLen at h63; omega
  have hmb : m * i.bytes ≤ 281474976710656 := by
    have : m * bytes ≤ (n + m) * bytes := Nat.mul_le_mul_right _ (by omega)
    rw [hb]; omega
  have zc : ∀ m, Builtin.zeroCells z.cells m = (List.replicate m z).toArray := by
    intro m
    rw [hz1]
    apply Array.ext'
    simp only [Builtin.zeroCells, List.size_toArray, List.length_cons, List.length_nil]
    apply List.ext_getElem
    · simp
    · intro j h1 h2
      simp [Nat.mod_one]
  have hxl : xs.length = n := by simpa using hown.1
  -- the new row where it grows
  have grown : ∀ (old : Nat), old < n + m → ∀ (row : Option Nat),
      Row (w.drew.alloc (.cells (xs.toArray ++ (List.replicate m z).toArray ++ (List.replicate (grownCap w (n + m) old e - (n + m)) z).toArray) e)) e 1 (.slice (some ⟨w.heap.size, 0, none⟩) (n + m) (grownCap w (n + m) old e)) (n + m) (xs ++ List.replicate m z) ∧
      w.grownBy (w.drew.alloc (.cells (xs.toArray ++ (List.replicate m z).toArray ++ (List.replicate (grownCap w (n + m) old e - (n + m)) z).toArray) e)) row := by
    intro old ho' row
    have hge := grownCap_ge w (n + m) old e
    have hcm : grownCap w (n + m) old e ≤ maxLen := grownCap_le_maxLen w (n + m) old e h63
    refine ⟨⟨by simp [hxl], .inr ⟨w.heap.size, _, _, rfl, Nat.zero_le _, heap_alloc_new w.drew _, hge, hcm, ?_, ?_⟩⟩, ⟨rfl, rfl, rfl, by simp, fun k hk _ => Below.heap_alloc _ _ _ hk⟩⟩
    · simp [hxl]; omega
    · simp only [Array.toList_append, List.append_assoc, Nat.mul_one]
      rw [← List.append_assoc]
      have : (xs ++ List.replicate m z).length = n + m := by simp [hxl]
      rw [← this]
      exact List.take_left
  have key : ∃ v' w', (Builtin.append_ #[t, tn] o.type #[v, .int k m]).run P w = .ok v' w' ∧ Row w' e 1 v' (n + m) (xs ++ List.replicate m z) ∧ Grew w w' v v' := by
    rcases hown.2 with ⟨rfl, rfl⟩ | ⟨g, cap, cur, rfl, hbg, hg, hnc, hcm, hcs, htake⟩
    · have hx0 : xs = [] := List.eq_nil_of_length_eq_zero hxl
      subst hx0
      have hr := Lib.run_append_nil_zeros (P := P) w t tn o.type e i z k kn T.und htn hi hz m hm (by omega) (by omega) hmb
      rw [zc, zc] at hr
      have hgr := grown 0 (by omega) (Value.ownBlock (.slice none 0 0))
      simp only [Nat.zero_add, List.nil_append, Array.empty_append] at hgr hr ⊢
      exact ⟨_, _, hr, hgr.1, hgr.2, .inr rfl⟩
    · have hcs' : cur.size = cap := by simpa using hcs
      by_cases hroom : n + m ≤ cap
      · have hr := run_append_room_zeros (P := P) w t tn o.type e i z k kn T.und htn hi hz (by omega) hz1 ho1 g n cap cur hg m hm (by omega) hmb hroom (by omega)
        have ht : cur.toList.take n = xs := by simpa using htake
        rw [ht] at hr
        refine ⟨_, _, hr, ⟨by simp [hxl], .inr ⟨g, cap, _, rfl, Nat.zero_le _, setRow_heap w g cur _ e _ hg, hroom, hcm, ?_, ?_⟩⟩, ⟨rfl, rfl, rfl, by simp, fun k _ hk => setRow_other w g k _ (fun e => hk (by simp [Value.ownBlock, e]))⟩, .inl rfl⟩
        · simp [hxl]; omega
        · have : (xs ++ List.replicate m z).length = (n + m) * 1 := by simp [hxl]
          rw [← this]
          exact List.take_left
      · have holds : ∀ j u, xs[j]? = some u → w.cell? ((⟨g, 0, none⟩ : Addr).add j) = some u := World.ownsRow.cells hown (g := g) rfl
        have hfit : Builtin.nextslicecap (n + m) cap * i.bytes ≤ 281474976710656 := growslice_fits (by omega) (by rw [hb]; exact hbytes)
        have hr := Lib.run_append_grow_zeros (P := P) w t tn o.type e i z k kn T.und htn hi hz (some ⟨g, 0, none⟩) n cap xs (run_firstCells_some (P := P) w.drew i.size n ⟨g, 0, none⟩ n cap xs (by rw [hsz]; exact hown.1) (by simpa using holds)) m hm (by omega) (by omega) (by omega) hmb hfit
        rw [zc, zc] at hr
        have hgr := grown cap (by omega) (Value.ownBlock (.slice (some ⟨g, 0, none⟩) n cap))
        exact ⟨_, _, hr, hgr.1, hgr.2, .inr rfl⟩
  obtain ⟨v', w', hr, h2, h3⟩ := key
  refine wpList_plain hgd fun K hK => ?_
  unfold Oper.wp execOp
  simp only [ho, resolve, invoke, builtin, Sem.run_bind, Sem.run_pure, Result.andThen_ok, List.map_toArray, List.map_cons, List.map_nil, hs, hx, hr]
  exact hK _ _ (h v' w' h2 h3)
/-- What stands in a writer: the bytes, and the place. -/
def wcells (v : Value) (p : Nat) : List Value := [v, .int .i64 p]
/-- What writing over bytes makes of them. -/
def wrote (bs : List UInt8) (p : Nat) (ds : List UInt8) : List UInt8 := bs.take p ++ ds ++ bs.drop (p + ds.length)
theorem wrote_length {bs ds : List UInt8} {p : Nat} (hp : p ≤ bs.length) : (wrote bs p ds).length = max bs.length (p + ds.length) := by
  simp [wrote]; omega
/-- A writer that holds bytes, at a place: its block, the slice, and what that is. -/
structure Wr (w : World) (g : Nat) (v : Value) (p : Nat) (bs : List UInt8) : Prop where
  blk : Blk w g (wcells v p) 100
  row : Row w 5 1 v bs.length (B bs)
  le : p ≤ bs.length
/-- The row's whole block. -/
theorem Row.whole {w : World} {e : TypeId} {g n cap : Nat} {xs : List Value} (h : Row w e 1 (.slice (some ⟨g, 0, none⟩) n cap) n xs) : ∃ cur, Blk w g cur e ∧ cur.length = cap ∧ cur.take n = xs ∧ n ≤ cap ∧ cap ≤ maxLen := by
  rcases h.2 with ⟨h', _⟩ | ⟨g', cap', cur, h', _, hg, hnc, hcm, hcs, ht⟩
  · cases h'
  · cases h'
    exact ⟨cur.toList, by simpa [Blk] using hg, by simpa using hcs, by simpa using ht, hnc, hcm⟩
theorem Row.ofWhole {w : World} {e : TypeId} {g n cap : Nat} {cur : List Value} (h : Blk w g cur e) (hl : cur.length = cap) (hn : n ≤ cap) (hc : cap ≤ maxLen) : Row w e 1 (.slice (some ⟨g, 0, none⟩) n cap) n (cur.take n) :=
  ⟨by simp; omega, .inr ⟨g, cap, cur.toArray, rfl, Nat.zero_le _, h, hn, hc, by simpa using hl, by simp⟩⟩
/-- Behind a write: where the payload lies. -/
def WrPost (g : Nat) (v : Value) (p n : Nat) (bs : List UInt8) (w : World) (e : Ending) (w' : World) : Prop :=
  ∃ v', e = .returned (.tuple #[.int .i64 (n : Nat), .nilIface]) ∧ Wr w' g v' p bs ∧ Keep (fun i => i = g ∨ v.ownBlock = some i) w w' ∧ (∀ b, v'.ownBlock = some b → v.ownBlock = some b ∨ w.heap.size ≤ b)
theorem Wr.ne {w : World} {g : Nat} {v : Value} {p : Nat} {bs : List UInt8} (h : Wr w g v p bs) : v.ownBlock ≠ some g := fun e => h.row.neBlk h.blk (by decide) e
theorem wrote_grow {bs ds : List UInt8} {p m : Nat} (hp : p ≤ bs.length) (hm : bs.length + m = p + ds.length) : (bs ++ List.replicate m 0).take p ++ ds = wrote bs p ds := by
  rw [wrote, List.drop_of_length_le (by omega), List.append_nil, List.take_append_of_le_length hp]
theorem splice_take {cur : List Value} {bs ds : List UInt8} {p : Nat} (ht : cur.take bs.length = B bs) (hl : bs.length ≤ cur.length) (hf : p + ds.length ≤ bs.length) : (splice cur p (B ds)).take bs.length = B (wrote bs p ds) := by
  have e1 : cur.take p = B (bs.take p) := by
    have : cur.take p = (cur.take bs.length).take p := by rw [List.take_take, Nat.min_eq_left (by omega)]
    rw [this, ht]; simp [B]
  have e2 : (cur.drop (p + ds.length)).take (bs.length - (p + ds.length)) = B (bs.drop (p + ds.length)) := by
    rw [← List.drop_take, ht]; simp [B]
  have hl1 : (cur.take p).length = p := by simp; omega
  have hl2 : (B ds).length = ds.length := B_length ds
  have e3 : splice cur p (B ds) = (cur.take p ++ B ds) ++ cur.drop (p + ds.length) := by rw [splice, hl2, List.append_assoc]
  have hl3 : (cur.take p ++ B ds).length = p + ds.length := by rw [List.length_append, hl1, hl2]
  rw [e3, List.take_append, List.take_of_length_le (l := cur.take p ++ B ds) (by omega), hl3, e2, e1]
  simp [wrote, B_append]
theorem wrote_zeros {bs ds : List UInt8} {p m : Nat} (hp : p ≤ bs.length) (hm : bs.length + m = p + ds.length) : wrote (bs ++ List.replicate m 0) p ds = wrote bs p ds := by
  rw [wrote, wrote, List.take_append_of_le_length hp, List.drop_of_length_le (by simp; omega), List.drop_of_length_le (by omega)]
theorem B_zeros (bs : List UInt8) (m : Nat) : B bs ++ List.replicate m (.int .u8 0) = B (bs ++ List.replicate m 0) := by simp [B]
set_option maxRecDepth 100000 in
set_option maxHeartbeats 4000000 in
theorem swrite (g : Nat) (v sv : Value) (p : Nat) (bs ds : List UInt8) (w : World) (h : Wr w g v p bs) (hs : Reads w 1 sv ds.length (B ds)) (hbl : bs.length ≤ 4000000000) (hdl : ds.length ≤ 4000000000)
    (hne : 0 < ds.length → ∀ b, sv.ownBlock = some b → b ≠ g ∧ v.ownBlock ≠ some b) :
    Calls Try.prog 46 #[.pointer (some ⟨g, 0, none⟩), sv] w (WrPost g v (p + ds.length) ds.length (wrote bs p ds) w) := by
  obtain ⟨sa, sc, rfl⟩ := hs.slice
  have c1 : w.cell? ⟨g, 1, none⟩ = some (.int .i64 (p : Int)) := by rw [h.blk.cell]; rfl
  have c0 : w.cell? ⟨g, 0, none⟩ = some v := by rw [h.blk.cell]; rfl
  have f0 := h.blk.free 0
  have f1 := h.blk.free 1
  have hp := h.le
  have H := Lib.hid h
  have HS := Lib.hid hs
  have HNE := Lib.hid hne
  clear h hs hne
  by_cases hgrow : bs.length - p < ds.length
  · obtain ⟨a, cap, rfl⟩ := H.out.row.reads.slice
    obtain ⟨X, C, hsl⟩ : ∃ X C, ∀ W, (Instr.slice 28 (.slice a bs.length cap) (some (.int .i64 p)) none none).run Try.prog W = .ok (.slice X (bs.length - p) C) W :=
      ⟨_, _, fun W => by
        rw [run_slice_l _ _ _ _ _ bytesElem _ _ (by omega) (by omega), bytesSize]
        simp only [Result.andThen, sliced, Int.toNat_natCast]
        rfl⟩
    obtain ⟨m, hm⟩ : ∃ m, bs.length + m = p + ds.length := ⟨p + ds.length - bs.length, by omega⟩
    have hmi : (ds.length : Int) - ((bs.length - p : Nat) : Int) = (m : Int) := by omega
    have hm1 : bs.length + m ≤ 8000000000 := by omega
    have hm2 : p < bs.length + m := by omega
    have hm3 : bs.length + m - p = ds.length := by omega
    have hm4 : 0 < m := by omega
    have HM := Lib.hid hm
    have HMI := Lib.hid hmi
    have HM3 := Lib.hid hm3
    clear hm hmi hm3
    go_enter Try.func46, Try.ntmps46
    go_wp2
    go_quiet (fail)
    have H' : Hid (Row (w.drewN nq) 5 1 (.slice a bs.length cap) bs.length (B bs)) := Lib.hid (H.out.row.keep ((Keep.refl Non w).drewN nq) (fun _ _ h => h))
    have HG : Hid (Blk (w.drewN nq) g (wcells (.slice a bs.length cap) p) 100) := Lib.hid (H.out.blk.drewN nq)
    have HSd := Lib.hid (HS.out.keep ((Keep.refl Non w).drewN nq) (fun _ _ h => h))
    have hz := H.out.blk.lt
    go_wp2_with (at_builtin; go_must (refine wpList_appZ (n := bs.length) (m := m) (kn := .i64) (k := .i64) sliceBytes Try.underlying3 rfl rfl rfl (.tmp 27) (.tmp 31) rfl rfl H'.out rfl HMI.out hm4 (by unfold maxLen; omega) (by omega) ?_); intro v1 w1 r1 g1; obtain ⟨b1, cap1, rfl⟩ := r1.at (by omega); have hg1 := HG.out.keep g1.keep (fun e => H.out.ne e); have d0 : w1.cell? ⟨g, 0, none⟩ = some (.slice a bs.length cap) := (by rw [hg1.cell]; rfl); have d1 : w1.cell? ⟨g, 1, none⟩ = some (.int .i64 (p : Int)) := (by rw [hg1.cell]; rfl); have e0 := hg1.free 0)
    obtain ⟨cur, hcb, hcl, hct, hnc, hcm⟩ := r1.whole
    have hpc : p ≠ cap1 := by omega
    have hcl' : cap1 ≤ cur.length := by omega
    have HNG := Lib.hid (show ¬ At b1 g from fun e => r1.neBlk hg1 (by decide) (show _ = some g by unfold At at e; rw [e]; rfl))
    have HG2 := Lib.hid (hg1.set 0 (.slice (some ⟨b1, 0, none⟩) (bs.length + m) cap1))
    have HCB2 := Lib.hid (hcb.setOther (p := ⟨g, 0, none⟩) (fun e => HNG.out (by unfold At; exact Eq.symm e)) (.slice (some ⟨b1, 0, none⟩) (bs.length + m) cap1))
    have HS2 : Hid (Reads (w1.setCell ⟨g, 0, none⟩ (.slice (some ⟨b1, 0, none⟩) (bs.length + m) cap1)) 1 (.slice sa ds.length sc) ds.length (B ds)) := Lib.hid ((HSd.out.keepIf g1.keep (fun h0 i hi e => (HNE.out h0 i hi).2 e)).keepIf ((Keep.refl (At g) _).setAt _ _ _ (atSelf _)) (fun h0 i hi e => (HNE.out h0 i hi).1 e))
    have K1 := Lib.hid g1.keep
    have L1 := Lib.hid g1
    have HCT := Lib.hid hct
    have HCL := Lib.hid hcl
    clear hcb hct hcl r1 g1 hg1
    go_quiet (fail)
    have HG3 := Lib.hid (HG2.out.drewN nq)
    have HCB3 := Lib.hid (HCB2.out.drewN nq)
    have HS3 := Lib.hid (HS2.out.drewN nq)
    have hmin : min ds.length (bs.length + m - p) = ds.length := by have := HM3.out; omega
    have HMIN := Lib.hid hmin
    clear hmin
    go_wp2_with ((with_reducible show wpList _ _ _ (Oper.mk (some 46) _ _ _ _ _ :: _) _ _); go_must (refine wpList_cp (n := ds.length) (sv := .slice sa ds.length sc) (g := b1) (off := p) (dLen := bs.length + m - p) (dCap := cap1 - p) Try.underlying28 (by kernel_rfl) rfl (.tmp 44) (.tmp 45) rfl rfl rfl HCB3.out HS3.out (by omega) (B_one _) ?_); intro w3 hb3 k3; have hg3 := HG3.out.keep k3 HNG.out; have d3 : w3.cell? ⟨g, 1, none⟩ = some (.int .i64 (p : Int)) := (by rw [hg3.cell]; rfl); have f3 := hg3.free 1)
    go_ret2
    rw [HMIN.out, List.take_of_length_le (Nat.le_of_eq (B_length ds))] at hb3
    have hm := HM.out
    have hlies := L1.out.lies (g := b1) rfl
    have K3 : Keep (fun i => i = g ∨ (Value.slice a bs.length cap).ownBlock = some i) w (w3.setCell ⟨g, 1, none⟩ (.int .i64 ((p : Int) + ds.length))) := by
      refine Keep.setAt ?_ _ _ _ (.inl rfl)
      refine Keep.trans (S' := At b1) ?_ k3 (fun i hi e => ?_)
      · refine Keep.drewN ?_ _
        refine Keep.setAt ?_ _ _ _ (.inl rfl)
        exact ((Keep.refl (fun i => i = g ∨ (Value.slice a bs.length cap).ownBlock = some i) w).drewN _).trans K1.out (fun i _ e => .inr e)
      · unfold At at e
        subst e
        rcases hlies with h | h
        · exact .inr h
        · simp at h; omega
    have hwl : (wrote bs p ds).length = bs.length + m := by rw [wrote_length hp]; omega
    refine ⟨.slice (some ⟨b1, 0, none⟩) (bs.length + m) cap1, rfl, ⟨?_, ?_, by omega⟩, K3, fun b' hb' => ?_⟩
    · have := hg3.set 1 (.int .i64 ((p : Int) + ds.length))
      simpa [wcells] using this
    · have hr3 := Row.ofWhole hb3 (show _ = cap1 by rw [length_splice _ _ _ (by rw [B_length]; omega)]; exact HCL.out) hnc hcm
      have hl2 : (bs ++ List.replicate m (0 : UInt8)).length = bs.length + m := by simp
      have hst := splice_take (cur := cur) (bs := bs ++ List.replicate m 0) (ds := ds) (p := p) (by rw [hl2, ← B_zeros]; exact HCT.out) (by omega) (by omega)
      rw [hl2] at hst
      rw [hst, wrote_zeros hp hm] at hr3
      rw [hwl]
      exact hr3.keep ((Keep.refl (At g) _).setAt _ _ _ (atSelf _)) (fun i hi e => HNG.out (by
        have hi' : b1 = i := by simpa [Value.ownBlock] using hi
        have e' : i = g := e
        show g = b1
        omega))
    · simp only [Value.ownBlock, Option.some.injEq] at hb'
      subst hb'
      rcases hlies with h | h
      · exact .inl h
      · right
        simp at h; omega
  · by_cases h0 : 0 < ds.length
    · obtain ⟨b, cap, rfl⟩ := H.out.row.at (by omega)
      obtain ⟨cur, hcb, hcl, hct, hnc, hcm⟩ := H.out.row.whole
      have HC := Lib.hid hcb
      have HCT := Lib.hid hct
      have HCL := Lib.hid hcl
      have HNG := Lib.hid (show ¬ At b g from fun e => H.out.ne (by unfold At at e; rw [e]; rfl))
      have hpc : p ≠ cap := by omega
      have hcl' : cap ≤ cur.length := by omega
      clear hcb hct hcl
      go_enter Try.func46, Try.ntmps46
      go_wp2
      go_quiet (fail)
      have HCB : Hid (Blk (w.drewN nq) b cur 5) := Lib.hid (HC.out.drewN nq)
      have HG : Hid (Blk (w.drewN nq) g (wcells (.slice (some ⟨b, 0, none⟩) bs.length cap) p) 100) := Lib.hid (H.out.blk.drewN nq)
      have HSd := Lib.hid (HS.out.keep ((Keep.refl Non w).drewN nq) (fun _ _ h => h))
      go_wp2_with ((with_reducible show wpList _ _ _ (Oper.mk (some 46) _ _ _ _ _ :: _) _ _); go_must (refine wpList_cp (n := ds.length) (sv := .slice sa ds.length sc) (g := b) (off := p) (dLen := bs.length - p) (dCap := cap - p) Try.underlying28 (by kernel_rfl) rfl (.tmp 44) (.tmp 45) rfl rfl rfl HCB.out HSd.out (by omega) (B_one _) ?_); intro w3 hb3 k3; have hg3 := HG.out.keep k3 HNG.out; have d3 : w3.cell? ⟨g, 1, none⟩ = some (.int .i64 (p : Int)) := (by rw [hg3.cell]; rfl); have f3 := hg3.free 1)
      go_ret2
      have hmin : min ds.length (bs.length - p) = ds.length := by omega
      rw [hmin, List.take_of_length_le (Nat.le_of_eq (B_length ds))] at hb3
      have K3 : Keep (fun i => i = g ∨ (Value.slice (some ⟨b, 0, none⟩) bs.length cap).ownBlock = some i) w (w3.setCell ⟨g, 1, none⟩ (.int .i64 ((p : Int) + ds.length))) := (((Keep.refl (fun i => i = g ∨ (Value.slice (some ⟨b, 0, none⟩) bs.length cap).ownBlock = some i) w).drewN nq).trans k3 (fun i _ e => .inr (by unfold At at e; rw [e]; rfl))).setAt _ _ _ (.inl rfl)
      have hwl : (wrote bs p ds).length = bs.length := by rw [wrote_length hp]; omega
      refine ⟨_, rfl, ⟨?_, ?_, by omega⟩, K3, fun b' hb' => .inl hb'⟩
      · have := hg3.set 1 (.int .i64 ((p : Int) + ds.length))
        simpa [wcells] using this
      · have := Row.ofWhole hb3 (show _ = cap by rw [length_splice _ _ _ (by rw [B_length]; omega)]; exact HCL.out) hnc hcm
        rw [splice_take HCT.out (by omega) (by omega)] at this
        rw [hwl]
        exact this.keep ((Keep.refl (At g) _).setAt _ _ _ (atSelf _)) (fun i hi e => H.out.ne (by unfold At at e; rw [← e]; exact hi))
    · have hd0 : ds.length = 0 := by omega
      have hds : ds = [] := List.eq_nil_of_length_eq_zero hd0
      subst hds
      obtain ⟨a, cap, rfl⟩ := H.out.row.reads.slice
      obtain ⟨X, C, hsl⟩ : ∃ X C, ∀ W, (Instr.slice 28 (.slice a bs.length cap) (some (.int .i64 p)) none none).run Try.prog W = .ok (.slice X (bs.length - p) C) W :=
        ⟨_, _, fun W => by
          rw [run_slice_l _ _ _ _ _ bytesElem _ _ (by omega) (by omega), bytesSize]
          simp only [Result.andThen, sliced, Int.toNat_natCast]
          rfl⟩
      have hw0 : wrote bs p [] = bs := by simp [wrote]
      have HW := Lib.hid hw0
      clear hw0 hd0 hgrow h0
      go_enter Try.func46, Try.ntmps46
      go_wp2
      go_quiet (fail)
      go_wp2_with ((with_reducible show wpList _ _ _ (Oper.mk (some 46) _ _ _ _ _ :: _) _ _); go_must (refine wpList_copy_nothing rfl (.tmp 44) (.tmp 45) 28 28 rfl 5 Try.underlying28 (by kernel_rfl) X sa (bs.length - p) C 0 sc rfl rfl (Nat.zero_min _) ?_))
      go_ret2
      have hg2 := H.out.blk.drewN nq
      refine ⟨_, rfl, ⟨?_, ?_, ?_⟩, ((Keep.refl _ w).drewN nq).setAt _ _ _ (.inl rfl), fun b' hb' => .inl hb'⟩
      · have := hg2.set 1 (.int .i64 ((p : Int) + (0 : Int)))
        simpa [wcells] using this
      · rw [HW.out]
        exact (H.out.row.drewN nq).keep ((Keep.refl (At g) _).setAt _ _ _ (atSelf _)) (fun i hi e => H.out.ne (by unfold At at e; rw [← e]; exact hi))
      · rw [HW.out]; simpa using hp
end Go.Proofs.Ytfcdedcffmpjjaa
