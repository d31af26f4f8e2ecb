/-
  CONTRACTS that the seats share: numbers by seven bits, errors, the writer and the reader over a slice. (taken by a program out of the texts of seat A.)
-/
import Derived.Test.YtcpegoofbenoiaaGreatDoorRows
import Derived.Test.YtcpegoofbenoiaaGreatDoorZGMem
namespace Go.Proofs.YtcpegoofbenoiaaGreatDoor
open Go.RowKit
open Go.ChangeShapes Go.WideShapes Go.ChangeAt Go.Deep
open Plain (M64)

/-- A number by seven bits, the least ones first. -/
def uleb (v : Nat) : List UInt8 := if v < 128 then [UInt8.ofNat v] else UInt8.ofNat (v % 128 + 128) :: uleb (v / 128)
termination_by v
decreasing_by omega
theorem uleb_small {v : Nat} (h : v < 128) : uleb v = [UInt8.ofNat v] := by rw [uleb, if_pos h]
theorem uleb_big {v : Nat} (h : ¬ v < 128) : uleb v = UInt8.ofNat (v % 128 + 128) :: uleb (v / 128) := by rw [uleb, if_neg h]
theorem uleb_len (k : Nat) : ∀ v, v < 128 ^ k → (uleb v).length ≤ max k 1 := by
  induction k with
  | zero => intro v h; rw [uleb_small (by simp at h; omega)]; simp
  | succ k ih =>
    intro v h
    by_cases hs : v < 128
    · rw [uleb_small hs]; simp
    · rw [uleb_big hs, List.length_cons]
      have hk : 0 < k := by
        cases k with
        | zero => simp at h; omega
        | succ k => omega
      have := ih (v / 128) (by rw [Nat.pow_succ] at h; exact Nat.div_lt_of_lt_mul (by omega))
      omega
theorem uleb_len64 {v : Nat} (h : v < Plain.M64) : (uleb v).length ≤ 10 := by
  unfold Plain.M64 at h
  have := uleb_len 10 v (by omega)
  omega
theorem uleb_ne (v : Nat) : uleb v ≠ [] := by
  by_cases h : v < 128
  · rw [uleb_small h]; simp
  · rw [uleb_big h]; simp
/-- What AppendUleb128 has done. -/
def UlebPost (w : World) (v : Value) (n : Nat) (xs : List UInt8) (x : Nat) (e : Ending) (w' : World) : Prop :=
  ∃ v', e = .returned v' ∧ Row w' 5 1 v' (n + (uleb x).length) (B (xs ++ uleb x)) ∧ Keep (Own v) w w' ∧ (∀ g, v'.ownBlock = some g → v.ownBlock = some g ∨ w.heap.size ≤ g)
theorem sliceBytes : SliceT Tryz.prog 33 5 (.int .u8 0) 1 1 := ⟨Tryz.underlying33, by kernel_rfl, rfl, by decide⟩
set_option maxHeartbeats 400000 in
theorem appendUleb (v : Value) (n : Nat) (xs : List UInt8) (x : Nat) (w : World) (hx : x < M64) (hown : Row w 5 1 v n (B xs)) (hn : n ≤ 1099511627776) :
    Calls Tryz.prog 66 #[v, .int .u64 x] w (UlebPost w v n xs x) := by
  go_enter Tryz.func66, Tryz.ntmps66
  go_wp2
  go_loopw [0, 1] (fun bv c wr => ∃ cur done, c = .int .u64 (cur : Nat) ∧ cur < M64 ∧ done ++ uleb cur = uleb x ∧ Row wr 5 1 bv (n + done.length) (B (xs ++ done)) ∧ Keep (Own v) w wr ∧ (∀ g, bv.ownBlock = some g → v.ownBlock = some g ∨ w.heap.size ≤ g))
    (fun _ c _ => (intOf c).toNat)
  case atStart => exact ⟨x, [], rfl, hx, rfl, by simpa using hown, Keep.refl _ _, fun g h => .inl h⟩
  case round =>
    obtain ⟨cur, done, rfl, hc, hd, hr, hk, hl⟩ := hrel
    have h127 := Plain.and127 cur hc
    have hb : n + done.length + 1 ≤ 1099511627800 := by
      have h1 := uleb_len64 (v := x) hx
      have h2 := congrArg List.length hd
      simp at h2
      omega
    by_cases hs : cur < 128
    · have h128 : bits BinOp.and IntKind.u8 ((cur : Int) % 128) 128 = 0 := by
        have := Plain.and128 (cur % 128) (by omega)
        rw [show ((cur % 128 : Nat) : Int) = (cur : Int) % 128 by omega] at this
        rw [this]; omega
      have HD := Lib.hid hd
      have HC := Lib.hid hc
      have HL := Lib.hid hl
      clear hd hc hl
      go_wp2_with (at_builtin; go_must (refine wpList_app sliceBytes rfl _ _ rfl rfl (hr.alloc _) rfl (Reads.one _ _ _) (fun u hu => by simp at hu; subst hu; rfl) (by unfold maxLen; omega) (by omega) ?_); intro v' w1 hr1 hg1 hn1)
      go_ret
      have hd := HD.out
      rw [uleb_small hs] at hd
      refine ⟨v', rfl, ?_, ?_, ?_⟩
      · rw [← hd]
        have e1 : (cur : Int) % 128 = (cur : Int) := by omega
        rw [e1, ← B_single cur (by omega), ← B_append, List.append_assoc] at hr1
        simpa [Nat.add_assoc] using hr1
      · exact (hk.alloc _).trans hg1.keep (fun i hi h => (HL.out i h).resolve_right (by omega))
      · intro g hg
        rcases hg1.lies hg with h | h
        · exact HL.out g h
        · have := hk.size
          simp at h; omega
    · have h1 : bits BinOp.or IntKind.u8 ((cur : Int) % 128) 128 = (cur : Int) % 128 + 128 := by
        have := Plain.or128 (cur % 128) (by omega)
        rw [show ((cur % 128 : Nat) : Int) = (cur : Int) % 128 by omega] at this
        rw [this]; omega
      have h128 : bits BinOp.and IntKind.u8 ((cur : Int) % 128 + 128) 128 = 128 := by
        have := Plain.and128 (cur % 128 + 128) (by omega)
        rw [show ((cur % 128 + 128 : Nat) : Int) = (cur : Int) % 128 + 128 by omega] at this
        rw [this]; omega
      have HD := Lib.hid hd
      have HC := Lib.hid hc
      have HL := Lib.hid hl
      clear hd hc hl
      go_wp2_with (at_builtin; go_must (refine wpList_app sliceBytes rfl _ _ rfl rfl (hr.alloc _) rfl (Reads.one _ _ _) (fun u hu => by simp at hu; subst hu; rfl) (by unfold maxLen; omega) (by omega) ?_); intro v' w1 hr1 hg1 hn1)
      have hd := HD.out
      rw [uleb_big hs] at hd
      go_roundw
      case rel =>
        refine ⟨cur / 128, done ++ [UInt8.ofNat (cur % 128 + 128)], by go_num, ?_, ?_, ?_, ?_, ?_⟩
        · have := HC.out; unfold M64 at *; omega
        · rw [← hd]; simp
        · rw [← List.append_assoc, B_append, B_single _ (by omega), List.length_append]
          have e1 : ((cur % 128 + 128 : Nat) : Int) = (cur : Int) % 128 + 128 := by omega
          rw [e1]
          exact hr1
        · exact (hk.alloc _).trans hg1.keep (fun i hi h => (HL.out i h).resolve_right (by omega))
        · intro g hg
          rcases hg1.lies hg with h | h
          · exact HL.out g h
          · have := hk.size
            simp at h; omega
      case measure => simp [intOf]; omega
theorem ulebVal_uleb (n : Nat) : ∀ v, v < n → ulebVal (nat8 (uleb v)) = v := by
  induction n with
  | zero => intro v h; omega
  | succ n ih =>
    intro v h
    by_cases hs : v < 128
    · rw [uleb_small hs]
      simp [nat8, ulebVal]
      omega
    · rw [uleb_big hs]
      have := ih (v / 128) (by omega)
      simp only [nat8, List.map_cons, ulebVal] at this ⊢
      rw [this]
      simp
      omega
theorem ulebAt_uleb (n : Nat) : ∀ v r, (uleb v).length ≤ n → ulebAt n (nat8 (uleb v) ++ r) = some (nat8 (uleb v)) := by
  induction n with
  | zero => intro v r h; have := uleb_ne v; simp at h; exact absurd h this
  | succ n ih =>
    intro v r h
    by_cases hs : v < 128
    · rw [uleb_small hs]
      have e : v % 256 = v := by omega
      simp [nat8, ulebAt, e]
      omega
    · rw [uleb_big hs] at h ⊢
      have := ih (v / 128) r (by simpa using h)
      simp only [nat8, List.map_cons, List.cons_append, ulebAt] at this ⊢
      have e : (UInt8.ofNat (v % 128 + 128)).toNat = v % 128 + 128 := by simp; omega
      rw [e, if_neg (by omega), this]
      rfl
theorem sliceU32 : SliceT Tryz.prog 49 36 (.int .u32 0) 1 4 := ⟨Tryz.underlying49, by kernel_rfl, rfl, by decide⟩
/-- errors.New hands back an error, in new memory. -/
theorem errorsNew (s : ByteArray) (w : World) :
    Calls Tryz.prog 47 #[.string s] w fun e w' => ∃ t a, e = .returned (.iface t (.pointer (some a))) ∧ Keep Non w w' := by
  go_enter Tryz.func47, Tryz.ntmps47
  go_wp2
  go_ret
  exact ⟨_, _, rfl, (Keep.refl _ _).alloc _⟩
set_option maxRecDepth 100000 in
set_option maxHeartbeats 1000000 in
theorem sameNums (a b : Value) (za zb : List Nat) (w : World) (ha : Reads w 1 a za.length (U32 za)) (hb : Reads w 1 b zb.length (U32 zb)) (hla : za.length ≤ 1000) (hlb : zb.length ≤ 1000)  :
    Calls Tryz.prog 55 #[a, b] w fun e w' => e = .returned (.bool (decide (za = zb))) ∧ ∃ n, w' = w.drewN n := by
  obtain ⟨aa, ca, rfl⟩ := ha.slice
  obtain ⟨ab, cb, rfl⟩ := hb.slice
  by_cases hl : za.length = zb.length
  · by_cases h0 : za.length = 0
    · have e1 : za = [] := List.eq_nil_of_length_eq_zero h0
      have e2 : zb = [] := List.eq_nil_of_length_eq_zero (by omega)
      subst e1; subst e2
      go_enter Tryz.func55, Tryz.ntmps55
      go_wp2
      refine wp_loop_rounds 1 ?_
      rw [rounds_succ]
      go_wp2
      go_ret
      exact ⟨rfl, 0, rfl⟩
    · obtain ⟨ba, offa, ca', hva, hca⟩ := ha.at (by omega) (by omega)
      obtain ⟨bb, offb, cb', hvb, hcb⟩ := hb.at (by omega) (by omega)
      cases hva
      cases hvb
      go_enter Tryz.func55, Tryz.ntmps55
      go_wp2
      go_loopw [13] (fun i wr => ∃ k m : Nat, k ≤ za.length ∧ i = .int .i64 k ∧ za.take k = zb.take k ∧ wr = w.drewN m) (fun i _ => za.length - (intOf i).toNat)
      case atStart => exact ⟨0, 0, by omega, rfl, rfl, rfl⟩
      case round =>
        obtain ⟨k, m, hk, rfl, ht, rfl⟩ := hrel
        by_cases hlt : k < za.length
        · have c1 := hca k _ (U32_at hlt)
          have c2 := hcb k _ (U32_at (show k < zb.length by omega))
          go_wp2
          go_quiet (fail)
          go_wp2
          · have hne : ((za[k] : Nat) : Int) ≠ zb[k] := by simpa using (show ((za[k] : Nat) : Int) != zb[k] by assumption)
            go_ret
            refine ⟨ret_bool (decide_eq_false fun e => hne ?_).symm, _, World.drewN_drewN _ _ _⟩
            simp [e]
          · have heq : ((za[k] : Nat) : Int) = zb[k] := by
              have h : ((((za[k] : Nat) : Int) != zb[k]) = false) := by assumption
              simpa using h
            go_roundw
            case rel =>
              refine ⟨k + 1, m + nq, by omega, by go_num, ?_, rfl⟩
              rw [List.take_succ_eq_append_getElem hlt, List.take_succ_eq_append_getElem (show k < zb.length by omega), ht]
              congr 1
              simp; omega
            case measure => simp [intOf]; omega
        · have hkl : k = za.length := by omega
          subst hkl
          have he : za = zb := by
            rw [List.take_of_length_le (Nat.le_refl _), List.take_of_length_le (by omega)] at ht
            exact ht
          have HE := Lib.hid he
          clear he ht
          go_wp2
          go_ret
          exact ⟨ret_bool (by simp [HE.out]), m, rfl⟩
  · have hne : ((za.length : Int) != zb.length) = true := by rw [bne_iff_ne]; omega
    go_enter Tryz.func55, Tryz.ntmps55
    go_wp2
    go_ret
    exact ⟨ret_bool (decide_eq_false fun e => hl (by rw [e])).symm, 0, rfl⟩
/-- An interface value against nil. -/
theorem errIf_eql {ok : Bool} {r : Value} (h : ErrIf ok r) {T : TypeId} (hT : Tryz.prog.underlying T = some (.interface (Tryz.prog.methodsAt T))) (w : World) : (binOp .eql T r .nilIface).run Tryz.prog w = .ok (.bool ok) w := by
  cases ok with
  | true =>
    obtain rfl : r = .nilIface := h
    exact run_eql_nil_nil w T hT
  | false =>
    obtain ⟨t, a, rfl⟩ : ∃ t a, r = .iface t (.pointer (some a)) := h
    exact run_eql_held_nil w T t _ hT
theorem errIf_guard {ok : Bool} {r : Value} (h : ErrIf ok r) (op : BinOp) (T : TypeId) (x : Operand) (c : Value) : eqGuard op T x (.const c) r .nilIface = pure () := by
  cases ok with
  | true =>
    obtain rfl : r = .nilIface := h
    exact eqGuard_nil_constR _ _ _ _
  | false =>
    obtain ⟨t, a, rfl⟩ : ∃ t a, r = .iface t (.pointer (some a)) := h
    exact eqGuard_at_iface _ _ _ _ _ _ _
theorem errT : Tryz.prog.underlying 60 = some (.interface (Tryz.prog.methodsAt 60)) := by kernel_rfl
theorem sliceStr : SliceT Tryz.prog 24 9 (.string ⟨#[]⟩) 1 16 := ⟨Tryz.underlying24, by kernel_rfl, rfl, by decide⟩
theorem bytesElem : Tryz.prog.underlying 33 = some (.slice (Tryz.prog.elem 33)) := by kernel_rfl
theorem bytesSize (W : World) : (sizeOf (Tryz.prog.elem 33)).run Tryz.prog W = .ok 1 W := by
  rw [show Tryz.prog.elem 33 = 5 by kernel_rfl]
  simp [sizeOf, go_sem]
  rfl
/-- What stands in a reader: the bytes, and the place. -/
def rcells (s : Value) (at' : Nat) : List Value := [s, .bool false, .int .i64 at']
set_option maxRecDepth 100000 in
theorem newReader (a : Option Addr) (l c : Nat) (w : World) :
    Calls Tryz.prog 23 #[.slice a l c, .bool false] w fun e w' => e = .returned (.pointer (some ⟨w.heap.size, 0, none⟩)) ∧ Blk w' w.heap.size (rcells (.slice a l c) 0) 129 ∧ Keep Non w w' := by
  go_enter Tryz.func23, Tryz.ntmps23
  go_wp2
  go_ret
  exact ⟨rfl, Blk.new w (rcells (.slice a l c) 0) _, (Keep.refl _ _).alloc _⟩
theorem neReader {w : World} {s : Value} {g p b o : Nat} {x : Int} {T : TypeId} (hb : Blk w g (rcells s p) T) (hs : ∃ a l c, s = .slice a l c) (hc : w.cell? ⟨b, o, none⟩ = some (.int .u8 x)) : b ≠ g := by
  rintro rfl
  obtain ⟨a, l, c, rfl⟩ := hs
  rw [hb.cell] at hc
  match o, hc with
  | 0, hc => simp [rcells] at hc
  | 1, hc => simp [rcells] at hc
  | 2, hc => simp [rcells] at hc
  | o + 3, hc => simp [rcells] at hc
set_option maxRecDepth 100000 in
set_option maxHeartbeats 2000000 in
theorem readUleb (s : Value) (g p : Nat) (bs ds : List Nat) (w : World) (hb : Blk w g (rcells s p) 129) (hs : Reads w 1 s bs.length (bs.map fun x => Value.int .u8 (x : Nat)))
    (hlen : bs.length ≤ 1000000) (h8 : ∀ x ∈ bs, x < 256) (hk : p + ds.length ≤ bs.length) (hd : ∀ i (h : i < ds.length), bs[p + i]? = some ds[i]) (hne : 0 < ds.length) (h10 : ds.length ≤ 10)
    (hhi : ∀ i (h : i < ds.length), (128 ≤ ds[i] ↔ i + 1 < ds.length)) (hfit : ulebVal ds < M64) :
    Calls Tryz.prog 93 #[.pointer (some ⟨g, 0, none⟩)] w fun e w' => e = .returned (.int .u64 (ulebVal ds)) ∧ Blk w' g (rcells s (p + ds.length)) 129 ∧ Keep (At g) w w' := by
  obtain ⟨bb, off, ca, rfl, hc⟩ := hs.at (by omega) (by omega)
  go_enter Tryz.func93, Tryz.ntmps93
  go_wp2
  go_loopw [2, 3] (fun v sh wr => ∃ k : Nat, k < ds.length ∧ v = .int .u64 (ulebVal (ds.take k) : Nat) ∧ sh = .int .u64 (7 * k : Nat) ∧ Blk wr g (rcells (.slice (some ⟨bb, off, none⟩) bs.length ca) (p + k)) 129 ∧ Keep (At g) w wr) (fun _ sh _ => 7 * ds.length - (intOf sh).toNat)
  case atStart => exact ⟨0, hne, rfl, rfl, hb, Keep.refl _ _⟩
  case round =>
    obtain ⟨k, hk', rfl, rfl, hb', hkp⟩ := hrel
    have hi := hc (p + k) _ (by rw [List.getElem?_map, hd k hk']; rfl)
    have hng := neReader hb ⟨_, _, _, rfl⟩ hi
    have hi' := hkp.cell hi hng
    have hx : ds[k] < 256 := h8 _ (List.mem_of_getElem? (hd k hk'))
    have hp : p + k < bs.length := by omega
    obtain ⟨q, hq⟩ : ∃ q, q = p + k := ⟨_, rfl⟩
    rw [← hq] at hi' hp hb'
    have c0 : wr.cell? ⟨g, 0, none⟩ = some (.slice (some ⟨bb, off, none⟩) bs.length ca) := by rw [hb'.cell]; rfl
    have c2 : wr.cell? ⟨g, 2, none⟩ = some (.int .i64 (q : Int)) := by rw [hb'.cell]; rfl
    have f2 := hb'.free 2
    have HH := Lib.hid hhi
    have HD := Lib.hid hd
    have HC := Lib.hid hc
    have HQ := Lib.hid hq
    clear hhi hd hc hq hi h8
    obtain ⟨x, hxe⟩ : ∃ x, x = ds[k] := ⟨_, rfl⟩
    rw [← hxe] at hi' hx
    have HX := Lib.hid hxe
    clear hxe
    have h127 := Plain.and127u8 x hx
    have hor : bits .or .u64 ((ulebVal (ds.take k) : Nat) : Int) (IntKind.u64.wrap ((x : Int) % 128 * 2 ^ (7 * k))) = ((ulebVal (ds.take (k + 1)) : Nat) : Int) := by
      rw [HX.out]; exact ulebVal_step hk' hfit
    by_cases hx1 : x < 128
    · have h128 : bits .and .u8 (x : Int) 128 = 0 := by rw [Plain.and128 x hx]; omega
      have hlast : k + 1 = ds.length := by
        have := HH.out k hk'
        rw [← HX.out] at this
        omega
      rw [hlast, List.take_of_length_le (Nat.le_refl _)] at hor
      go_wp2
      go_quiet (fail)
      go_wp2
      go_ret
      refine ⟨?_, ?_, ?_⟩
      · rfl
      · have := (hb'.keep ((Keep.refl Non _).drewN nq) (fun h => h)).set 2 (.int .i64 ((q : Int) + 1))
        have e : p + ds.length = q + 1 := by have := HQ.out; omega
        rw [e]
        simpa [rcells] using this
      · exact (hkp.drewN nq).setAt _ _ _ (atSelf _)
    · have h128 : bits .and .u8 (x : Int) 128 = 128 := by rw [Plain.and128 x hx]; omega
      have hlast : k + 1 < ds.length := by
        have := HH.out k hk'
        rw [← HX.out] at this
        omega
      go_wp2
      go_quiet (fail)
      go_wp2
      go_roundw
      case measure => simp [intOf]; omega
      case rel =>
        refine ⟨k + 1, hlast, rfl, by go_num, ?_, (hkp.drewN nq).setAt _ _ _ (atSelf _)⟩
        have := (hb'.keep ((Keep.refl Non _).drewN nq) (fun h => h)).set 2 (.int .i64 ((q : Int) + 1))
        have e : p + (k + 1) = q + 1 := by have := HQ.out; omega
        rw [e]
        simpa [rcells] using this
theorem run_sub2 (bb n c lo m : Nat) (h : lo + m ≤ c) (W : World) :
    (Instr.slice 33 (.slice (some ⟨bb, 0, none⟩) n c) (some (.int .i64 lo)) (some (.int .i64 ((lo : Int) + (m : Int)))) none).run Tryz.prog W = .ok (subV bb lo m c) W := by
  rw [run_slice_lh _ _ _ _ _ bytesElem _ _ _ _ (by omega) (by omega) (by omega), bytesSize]
  simp only [Result.andThen, sliced, Int.toNat_natCast, subV]
  rw [show ((lo : Int) + m).toNat = lo + m by omega]
  by_cases he : c = lo
  · simp [he]
  · simp [he, addr_add]
set_option maxRecDepth 100000 in
set_option maxHeartbeats 2000000 in
theorem readString (bb c g p m : Nat) (bs : List Nat) (w : World) (hb : Blk w g (rcells (.slice (some ⟨bb, 0, none⟩) bs.length c) p) 129) (hs : Reads w 1 (.slice (some ⟨bb, 0, none⟩) bs.length c) bs.length (By bs)) (hc : bs.length ≤ c)
    (hlen : bs.length ≤ 1000000) (h8 : ∀ x ∈ bs, x < 256) (hp : p + m ≤ bs.length) (hne : bb ≠ g) :
    Calls Tryz.prog 104 #[.pointer (some ⟨g, 0, none⟩), .int .i64 m] w fun e w' => e = .returned (.string ⟨(bytes8 ((bs.drop p).take m)).toArray⟩) ∧ Blk w' g (rcells (.slice (some ⟨bb, 0, none⟩) bs.length c) (p + m)) 129 ∧ Keep (At g) w w' := by
  have hsub := subV_reads (lo := p) (m := m) hs hp hc
  have hm : ∀ x ∈ (bs.drop p).take m, x < 256 := fun x h => h8 x (List.mem_of_mem_drop (List.mem_of_mem_take h))
  rw [By_bytes8 hm] at hsub
  have c0 : w.cell? ⟨g, 0, none⟩ = some (.slice (some ⟨bb, 0, none⟩) bs.length c) := by rw [hb.cell]; rfl
  have c1 : w.cell? ⟨g, 1, none⟩ = some (.bool false) := by rw [hb.cell]; rfl
  have c2 : w.cell? ⟨g, 2, none⟩ = some (.int .i64 (p : Int)) := by rw [hb.cell]; rfl
  have f2 := hb.free 2
  clear hm h8
  unfold subV at hsub
  by_cases he : c = p
  · rw [if_pos he, show c - p = 0 by omega] at hsub
    have HSUB := Lib.hid hsub
    clear hsub
    subst he
    go_enter Tryz.func104, Tryz.ntmps104
    go_wp2
    go_quiet (fail)
    have K2 : Keep (At g) w ((w.drewN nq).setCell ⟨g, 2, none⟩ (.int .i64 ((c : Int) + (m : Int)))) := ((Keep.refl _ _).drewN _).setAt _ _ _ (atSelf _)
    have c4 := run_toString (P := Tryz.prog) Tryz.underlying33 Tryz.underlying5 Tryz.underlying9 (HSUB.out.keep K2 (fun b hb' e => by unfold At at e; simp [Value.ownBlock] at hb'; omega))
    go_wp2
    go_ret
    refine ⟨rfl, ?_, K2⟩
    have := (hb.keep ((Keep.refl Non _).drewN nq) (fun h => h)).set 2 (.int .i64 ((c : Int) + (m : Int)))
    simpa [rcells] using this
  · rw [if_neg he] at hsub
    have HSUB := Lib.hid hsub
    clear hsub
    go_enter Tryz.func104, Tryz.ntmps104
    go_wp2
    go_quiet (fail)
    have K2 : Keep (At g) w ((w.drewN nq).setCell ⟨g, 2, none⟩ (.int .i64 ((p : Int) + (m : Int)))) := ((Keep.refl _ _).drewN _).setAt _ _ _ (atSelf _)
    have c4 := run_toString (P := Tryz.prog) Tryz.underlying33 Tryz.underlying5 Tryz.underlying9 (HSUB.out.keep K2 (fun b hb' e => by unfold At at e; simp [Value.ownBlock] at hb'; omega))
    go_wp2
    go_ret
    refine ⟨rfl, ?_, K2⟩
    have := (hb.keep ((Keep.refl Non _).drewN nq) (fun h => h)).set 2 (.int .i64 ((p : Int) + (m : Int)))
    simpa [rcells] using this
/-- A writer that holds bytes, at a place: its block, the slice, and what that is. -/
structure Wr (w : World) (g : Nat) (v : Value) (p : Nat) (bs : List UInt8) : Prop where
  blk : Blk w g (wcells v p) 56
  row : Row w 5 1 v bs.length (B bs)
  le : p ≤ bs.length
/-- Behind a write: where the payload lies. -/
def WrPost (g : Nat) (v : Value) (p n : Nat) (bs : List UInt8) (w : World) (e : Ending) (w' : World) : Prop :=
  ∃ v', e = .returned (.tuple #[.int .i64 (n : Nat), .nilIface]) ∧ Wr w' g v' p bs ∧ Keep (fun i => i = g ∨ v.ownBlock = some i) w w' ∧ (∀ b, v'.ownBlock = some b → v.ownBlock = some b ∨ w.heap.size ≤ b)
theorem Wr.ne {w : World} {g : Nat} {v : Value} {p : Nat} {bs : List UInt8} (h : Wr w g v p bs) : v.ownBlock ≠ some g := fun e => h.row.neBlk h.blk (by decide) e
set_option maxRecDepth 100000 in
set_option maxHeartbeats 4000000 in
theorem swrite (g : Nat) (v sv : Value) (p : Nat) (bs ds : List UInt8) (w : World) (h : Wr w g v p bs) (hs : Reads w 1 sv ds.length (B ds)) (hbl : bs.length ≤ 4000000000) (hdl : ds.length ≤ 4000000000)
    (hne : 0 < ds.length → ∀ b, sv.ownBlock = some b → b ≠ g ∧ v.ownBlock ≠ some b) :
    Calls Tryz.prog 67 #[.pointer (some ⟨g, 0, none⟩), sv] w (WrPost g v (p + ds.length) ds.length (wrote bs p ds) w) := by
  obtain ⟨sa, sc, rfl⟩ := hs.slice
  have c1 : w.cell? ⟨g, 1, none⟩ = some (.int .i64 (p : Int)) := by rw [h.blk.cell]; rfl
  have c0 : w.cell? ⟨g, 0, none⟩ = some v := by rw [h.blk.cell]; rfl
  have f0 := h.blk.free 0
  have f1 := h.blk.free 1
  have hp := h.le
  have H := Lib.hid h
  have HS := Lib.hid hs
  have HNE := Lib.hid hne
  clear h hs hne
  by_cases hgrow : bs.length - p < ds.length
  · obtain ⟨a, cap, rfl⟩ := H.out.row.reads.slice
    obtain ⟨X, C, hsl⟩ : ∃ X C, ∀ W, (Instr.slice 33 (.slice a bs.length cap) (some (.int .i64 p)) none none).run Tryz.prog W = .ok (.slice X (bs.length - p) C) W :=
      ⟨_, _, fun W => by
        rw [run_slice_l _ _ _ _ _ bytesElem _ _ (by omega) (by omega), bytesSize]
        simp only [Result.andThen, sliced, Int.toNat_natCast]
        rfl⟩
    obtain ⟨m, hm⟩ : ∃ m, bs.length + m = p + ds.length := ⟨p + ds.length - bs.length, by omega⟩
    have hmi : (ds.length : Int) - ((bs.length - p : Nat) : Int) = (m : Int) := by omega
    have hm1 : bs.length + m ≤ 8000000000 := by omega
    have hm2 : p < bs.length + m := by omega
    have hm3 : bs.length + m - p = ds.length := by omega
    have hm4 : 0 < m := by omega
    have HM := Lib.hid hm
    have HMI := Lib.hid hmi
    have HM3 := Lib.hid hm3
    clear hm hmi hm3
    go_enter Tryz.func67, Tryz.ntmps67
    go_wp2
    go_quiet (fail)
    have H' : Hid (Row (w.drewN nq) 5 1 (.slice a bs.length cap) bs.length (B bs)) := Lib.hid (H.out.row.keep ((Keep.refl Non w).drewN nq) (fun _ _ h => h))
    have HG : Hid (Blk (w.drewN nq) g (wcells (.slice a bs.length cap) p) 56) := Lib.hid (H.out.blk.drewN nq)
    have HSd := Lib.hid (HS.out.keep ((Keep.refl Non w).drewN nq) (fun _ _ h => h))
    have hz := H.out.blk.lt
    go_wp2_with (at_builtin; go_must (refine wpList_appZ (n := bs.length) (m := m) (kn := .i64) (k := .i64) sliceBytes Tryz.underlying3 rfl rfl rfl (.tmp 27) (.tmp 31) rfl rfl H'.out rfl HMI.out hm4 (by unfold maxLen; omega) (by omega) ?_); intro v1 w1 r1 g1; obtain ⟨b1, cap1, rfl⟩ := r1.at (by omega); have hg1 := HG.out.keep g1.keep (fun e => H.out.ne e); have d0 : w1.cell? ⟨g, 0, none⟩ = some (.slice a bs.length cap) := (by rw [hg1.cell]; rfl); have d1 : w1.cell? ⟨g, 1, none⟩ = some (.int .i64 (p : Int)) := (by rw [hg1.cell]; rfl); have e0 := hg1.free 0)
    obtain ⟨cur, hcb, hcl, hct, hnc, hcm⟩ := r1.whole
    have hpc : p ≠ cap1 := by omega
    have hcl' : cap1 ≤ cur.length := by omega
    have HNG := Lib.hid (show ¬ At b1 g from fun e => r1.neBlk hg1 (by decide) (show _ = some g by unfold At at e; rw [e]; rfl))
    have HG2 := Lib.hid (hg1.set 0 (.slice (some ⟨b1, 0, none⟩) (bs.length + m) cap1))
    have HCB2 := Lib.hid (hcb.setOther (p := ⟨g, 0, none⟩) (fun e => HNG.out (by unfold At; exact Eq.symm e)) (.slice (some ⟨b1, 0, none⟩) (bs.length + m) cap1))
    have HS2 : Hid (Reads (w1.setCell ⟨g, 0, none⟩ (.slice (some ⟨b1, 0, none⟩) (bs.length + m) cap1)) 1 (.slice sa ds.length sc) ds.length (B ds)) := Lib.hid ((HSd.out.keepIf g1.keep (fun h0 i hi e => (HNE.out h0 i hi).2 e)).keepIf ((Keep.refl (At g) _).setAt _ _ _ (atSelf _)) (fun h0 i hi e => (HNE.out h0 i hi).1 e))
    have K1 := Lib.hid g1.keep
    have L1 := Lib.hid g1
    have HCT := Lib.hid hct
    have HCL := Lib.hid hcl
    clear hcb hct hcl r1 g1 hg1
    go_quiet (fail)
    have HG3 := Lib.hid (HG2.out.drewN nq)
    have HCB3 := Lib.hid (HCB2.out.drewN nq)
    have HS3 := Lib.hid (HS2.out.drewN nq)
    have hmin : min ds.length (bs.length + m - p) = ds.length := by have := HM3.out; omega
    have HMIN := Lib.hid hmin
    clear hmin
    go_wp2_with ((with_reducible show wpList _ _ _ (Oper.mk (some 46) _ _ _ _ _ :: _) _ _); go_must (refine wpList_cp (n := ds.length) (sv := .slice sa ds.length sc) (g := b1) (off := p) (dLen := bs.length + m - p) (dCap := cap1 - p) Tryz.underlying33 (by kernel_rfl) rfl (.tmp 44) (.tmp 45) rfl rfl rfl HCB3.out HS3.out (by omega) (B_one _) ?_); intro w3 hb3 k3; have hg3 := HG3.out.keep k3 HNG.out; have d3 : w3.cell? ⟨g, 1, none⟩ = some (.int .i64 (p : Int)) := (by rw [hg3.cell]; rfl); have f3 := hg3.free 1)
    go_ret2
    rw [HMIN.out, List.take_of_length_le (Nat.le_of_eq (B_length ds))] at hb3
    have hm := HM.out
    have hlies := L1.out.lies (g := b1) rfl
    have K3 : Keep (fun i => i = g ∨ (Value.slice a bs.length cap).ownBlock = some i) w (w3.setCell ⟨g, 1, none⟩ (.int .i64 ((p : Int) + ds.length))) := by
      refine Keep.setAt ?_ _ _ _ (.inl rfl)
      refine Keep.trans (S' := At b1) ?_ k3 (fun i hi e => ?_)
      · refine Keep.drewN ?_ _
        refine Keep.setAt ?_ _ _ _ (.inl rfl)
        exact ((Keep.refl (fun i => i = g ∨ (Value.slice a bs.length cap).ownBlock = some i) w).drewN _).trans K1.out (fun i _ e => .inr e)
      · unfold At at e
        subst e
        rcases hlies with h | h
        · exact .inr h
        · simp at h; omega
    have hwl : (wrote bs p ds).length = bs.length + m := by rw [wrote_length hp]; omega
    refine ⟨.slice (some ⟨b1, 0, none⟩) (bs.length + m) cap1, rfl, ⟨?_, ?_, by omega⟩, K3, fun b' hb' => ?_⟩
    · have := hg3.set 1 (.int .i64 ((p : Int) + ds.length))
      simpa [wcells] using this
    · have hr3 := Row.ofWhole hb3 (show _ = cap1 by rw [length_splice _ _ _ (by rw [B_length]; omega)]; exact HCL.out) hnc hcm
      have hl2 : (bs ++ List.replicate m (0 : UInt8)).length = bs.length + m := by simp
      have hst := splice_take (cur := cur) (bs := bs ++ List.replicate m 0) (ds := ds) (p := p) (by rw [hl2, ← B_zeros]; exact HCT.out) (by omega) (by omega)
      rw [hl2] at hst
      rw [hst, wrote_zeros hp hm] at hr3
      rw [hwl]
      exact hr3.keep ((Keep.refl (At g) _).setAt _ _ _ (atSelf _)) (fun i hi e => HNG.out (by
        have hi' : b1 = i := by simpa [Value.ownBlock] using hi
        have e' : i = g := e
        show g = b1
        omega))
    · simp only [Value.ownBlock, Option.some.injEq] at hb'
      subst hb'
      rcases hlies with h | h
      · exact .inl h
      · right
        simp at h; omega
  · by_cases h0 : 0 < ds.length
    · obtain ⟨b, cap, rfl⟩ := H.out.row.at (by omega)
      obtain ⟨cur, hcb, hcl, hct, hnc, hcm⟩ := H.out.row.whole
      have HC := Lib.hid hcb
      have HCT := Lib.hid hct
      have HCL := Lib.hid hcl
      have HNG := Lib.hid (show ¬ At b g from fun e => H.out.ne (by unfold At at e; rw [e]; rfl))
      have hpc : p ≠ cap := by omega
      have hcl' : cap ≤ cur.length := by omega
      clear hcb hct hcl
      go_enter Tryz.func67, Tryz.ntmps67
      go_wp2
      go_quiet (fail)
      have HCB : Hid (Blk (w.drewN nq) b cur 5) := Lib.hid (HC.out.drewN nq)
      have HG : Hid (Blk (w.drewN nq) g (wcells (.slice (some ⟨b, 0, none⟩) bs.length cap) p) 56) := Lib.hid (H.out.blk.drewN nq)
      have HSd := Lib.hid (HS.out.keep ((Keep.refl Non w).drewN nq) (fun _ _ h => h))
      go_wp2_with ((with_reducible show wpList _ _ _ (Oper.mk (some 46) _ _ _ _ _ :: _) _ _); go_must (refine wpList_cp (n := ds.length) (sv := .slice sa ds.length sc) (g := b) (off := p) (dLen := bs.length - p) (dCap := cap - p) Tryz.underlying33 (by kernel_rfl) rfl (.tmp 44) (.tmp 45) rfl rfl rfl HCB.out HSd.out (by omega) (B_one _) ?_); intro w3 hb3 k3; have hg3 := HG.out.keep k3 HNG.out; have d3 : w3.cell? ⟨g, 1, none⟩ = some (.int .i64 (p : Int)) := (by rw [hg3.cell]; rfl); have f3 := hg3.free 1)
      go_ret2
      have hmin : min ds.length (bs.length - p) = ds.length := by omega
      rw [hmin, List.take_of_length_le (Nat.le_of_eq (B_length ds))] at hb3
      have K3 : Keep (fun i => i = g ∨ (Value.slice (some ⟨b, 0, none⟩) bs.length cap).ownBlock = some i) w (w3.setCell ⟨g, 1, none⟩ (.int .i64 ((p : Int) + ds.length))) := (((Keep.refl (fun i => i = g ∨ (Value.slice (some ⟨b, 0, none⟩) bs.length cap).ownBlock = some i) w).drewN nq).trans k3 (fun i _ e => .inr (by unfold At at e; rw [e]; rfl))).setAt _ _ _ (.inl rfl)
      have hwl : (wrote bs p ds).length = bs.length := by rw [wrote_length hp]; omega
      refine ⟨_, rfl, ⟨?_, ?_, by omega⟩, K3, fun b' hb' => .inl hb'⟩
      · have := hg3.set 1 (.int .i64 ((p : Int) + ds.length))
        simpa [wcells] using this
      · have := Row.ofWhole hb3 (show _ = cap by rw [length_splice _ _ _ (by rw [B_length]; omega)]; exact HCL.out) hnc hcm
        rw [splice_take HCT.out (by omega) (by omega)] at this
        rw [hwl]
        exact this.keep ((Keep.refl (At g) _).setAt _ _ _ (atSelf _)) (fun i hi e => H.out.ne (by unfold At at e; rw [← e]; exact hi))
    · have hd0 : ds.length = 0 := by omega
      have hds : ds = [] := List.eq_nil_of_length_eq_zero hd0
      subst hds
      obtain ⟨a, cap, rfl⟩ := H.out.row.reads.slice
      obtain ⟨X, C, hsl⟩ : ∃ X C, ∀ W, (Instr.slice 33 (.slice a bs.length cap) (some (.int .i64 p)) none none).run Tryz.prog W = .ok (.slice X (bs.length - p) C) W :=
        ⟨_, _, fun W => by
          rw [run_slice_l _ _ _ _ _ bytesElem _ _ (by omega) (by omega), bytesSize]
          simp only [Result.andThen, sliced, Int.toNat_natCast]
          rfl⟩
      have hw0 : wrote bs p [] = bs := by simp [wrote]
      have HW := Lib.hid hw0
      clear hw0 hd0 hgrow h0
      go_enter Tryz.func67, Tryz.ntmps67
      go_wp2
      go_quiet (fail)
      go_wp2_with ((with_reducible show wpList _ _ _ (Oper.mk (some 46) _ _ _ _ _ :: _) _ _); go_must (refine wpList_copy_nothing rfl (.tmp 44) (.tmp 45) 33 33 rfl 5 Tryz.underlying33 (by kernel_rfl) X sa (bs.length - p) C 0 sc rfl rfl (Nat.zero_min _) ?_))
      go_ret2
      have hg2 := H.out.blk.drewN nq
      refine ⟨_, rfl, ⟨?_, ?_, ?_⟩, ((Keep.refl _ w).drewN nq).setAt _ _ _ (.inl rfl), fun b' hb' => .inl hb'⟩
      · have := hg2.set 1 (.int .i64 ((p : Int) + (0 : Int)))
        simpa [wcells] using this
      · rw [HW.out]
        exact (H.out.row.drewN nq).keep ((Keep.refl (At g) _).setAt _ _ _ (atSelf _)) (fun i hi e => H.out.ne (by unfold At at e; rw [← e]; exact hi))
      · rw [HW.out]; simpa using hp
set_option maxRecDepth 100000 in
theorem wbytes (v : Value) (g p : Nat) (w : World) (hb : Blk w g (wcells v p) 56) :
    Calls Tryz.prog 21 #[.pointer (some ⟨g, 0, none⟩)] w fun e w' => e = .returned v ∧ w' = w := by
  have c0 : w.cell? ⟨g, 0, none⟩ = some v := by rw [hb.cell]; rfl
  go_enter Tryz.func21, Tryz.ntmps21
  go_wp2
  go_ret
  exact ⟨rfl, rfl⟩
/-- []byte(s). -/
theorem conv (W : World) (s : ByteArray) : ∃ W' c, (convert 9 33 (.string s)).run Tryz.prog W = .ok (.slice (some ⟨W.heap.size, 0, none⟩) s.size c) W' ∧ Keep Non W W' ∧ Reads W' 1 (.slice (some ⟨W.heap.size, 0, none⟩) s.size c) s.size (B s.data.toList) ∧ W'.heap.size = W.heap.size + 1 := by
  have hs : s.data.toList.length = s.size := Array.length_toList
  refine ⟨_, _, Lib.run_convert_string_bytes W 9 33 5 s Tryz.underlying9 Tryz.underlying33 Tryz.underlying5, ⟨rfl, rfl, rfl, by rw [Lib.bytesWorld_size]; omega, fun k hk _ => Lib.bytesWorld_at_old W _ s k hk⟩, ⟨by rw [B_length, hs]; simp, .inr ⟨_, _, rfl, fun j u hj => ?_⟩⟩, Lib.bytesWorld_size W _ s⟩
  have hjl : j < s.size := by
    have := (List.getElem?_eq_some_iff.1 hj).1
    rw [B_length, hs] at this; exact this
  rw [addr_add, Nat.zero_add, Lib.bytesWorld_cell W _ s j hjl]
  rw [B_get, List.getElem?_eq_getElem (by omega)] at hj
  rw [← hj, List.getD_eq_getElem?_getD, List.getElem?_eq_getElem (by omega)]
  rfl
set_option maxRecDepth 100000 in
set_option maxHeartbeats 1000000 in
/-- SameTexts of two readings of one list. -/
theorem sameTexts (a b : Value) (ts : List ByteArray) (w : World) (ha : Reads w 1 a ts.length (Ts ts)) (hb : Reads w 1 b ts.length (Ts ts)) (hl : ts.length ≤ 1000000) :
    Calls Tryz.prog 31 #[a, b] w fun e w' => e = .returned (.bool true) ∧ ∃ n, w' = w.drewN n := by
  obtain ⟨aa, ca, rfl⟩ := ha.slice
  obtain ⟨ab, cb, rfl⟩ := hb.slice
  go_enter Tryz.func31, Tryz.ntmps31
  go_wp2
  go_loopw [13] (fun i wr => ∃ k m : Nat, k ≤ ts.length ∧ i = .int .i64 k ∧ wr = w.drewN m) (fun i _ => ts.length - (intOf i).toNat)
  case atStart => exact ⟨0, 0, by omega, rfl, rfl⟩
  case round =>
    obtain ⟨k, m, hk, rfl, rfl⟩ := hrel
    by_cases hlt : k < ts.length
    · obtain ⟨ba, offa, ca', hva, hca⟩ := ha.at (by omega) (by omega)
      obtain ⟨bb, offb, cb', hvb, hcb⟩ := hb.at (by omega) (by omega)
      cases hva
      cases hvb
      have c1 := hca k _ (Ts_at hlt)
      have c2 := hcb k _ (Ts_at hlt)
      clear hca hcb
      go_wp2
      go_quiet (fail)
      go_wp2
      go_roundw
      case measure => simp [intOf]; omega
      case rel => exact ⟨k + 1, m + nq, by omega, by go_num, rfl⟩
    · go_wp2
      go_ret
      exact ⟨rfl, m, rfl⟩
end Go.Proofs.YtcpegoofbenoiaaGreatDoor
