/-
  THE CONTRACT of the reference's Read.
-/
import Derived.Test.YtfcdedcffmpjjaaSRead
import Derived.Deep.CutRange
import Derived.Deep.CutBlock
namespace Go.Proofs.Ytfcdedcffmpjjaa
open Go.RowKit
open Go.ChangeShapes Go.WideShapes Go.ChangeAt Go.Deep
open Plain (M64)

/-- Between two steps of the reference. -/
structure SInv (w wr : World) (dv : Value) (bs : List Nat) (g : Nat) (vn vt : Value) (p : Nat) (ok : Bool) (ns : List Nat) (ts : List ByteArray) : Prop where
  nums : Row wr 29 1 vn ns.length (U64 ns)
  texts : Row wr 9 1 vt ts.length (Ts ts)
  rd : Blk wr g (scells dv p ok) 110
  data : Reads wr 1 dv bs.length (By bs)
  keep : Keep Non w wr
  ln : ∀ b, vn.ownBlock = some b → w.heap.size ≤ b
  lt : ∀ b, vt.ownBlock = some b → w.heap.size ≤ b
  gw : w.heap.size ≤ g
  dlt : 0 < bs.length → ∀ b, dv.ownBlock = some b → b < w.heap.size
theorem SInv.run {w wr : World} {dv : Value} {bs : List Nat} {g : Nat} {vn vt : Value} {p : Nat} {ok : Bool} {ns : List Nat} {ts : List ByteArray} (h : SInv w wr dv bs g vn vt p ok ns ts) {X : Obj} {W : World} {p' : Nat} {ok' : Bool}
    (k : Keep (At g) (wr.alloc X) W) (hb : Blk W g (scells dv p' ok') 110) : SInv w W dv bs g vn vt p' ok' ns ts where
  nums := (h.nums.alloc X).keep k (fun b hb e => by unfold At at e; exact h.nums.neBlk h.rd (by decide) (e ▸ hb))
  texts := (h.texts.alloc X).keep k (fun b hb e => by unfold At at e; exact h.texts.neBlk h.rd (by decide) (e ▸ hb))
  rd := hb
  data := (h.data.alloc X).keepIf k (fun h0 b hb e => by unfold At at e; have := h.dlt h0 b hb; have := h.gw; omega)
  keep := (h.keep.alloc X).trans k (fun i hi e => by unfold At at e; have := h.gw; omega)
  ln := h.ln
  lt := h.lt
  gw := h.gw
  dlt := h.dlt
theorem SInv.alloc {w wr : World} {dv : Value} {bs : List Nat} {g : Nat} {vn vt : Value} {p : Nat} {ok : Bool} {ns : List Nat} {ts : List ByteArray} (h : SInv w wr dv bs g vn vt p ok ns ts) (X : Obj) : SInv w (wr.alloc X) dv bs g vn vt p ok ns ts :=
  h.run (Keep.refl _ _) (h.rd.alloc X)
theorem SInv.drewN {w wr : World} {dv : Value} {bs : List Nat} {g : Nat} {vn vt : Value} {p : Nat} {ok : Bool} {ns : List Nat} {ts : List ByteArray} (h : SInv w wr dv bs g vn vt p ok ns ts) (n : Nat) : SInv w (wr.drewN n) dv bs g vn vt p ok ns ts where
  nums := h.nums.keep ((Keep.refl Non _).drewN n) (fun _ _ h => h)
  texts := h.texts.keep ((Keep.refl Non _).drewN n) (fun _ _ h => h)
  rd := h.rd.drewN n
  data := h.data.keep ((Keep.refl Non _).drewN n) (fun _ _ h => h)
  keep := h.keep.drewN n
  ln := h.ln
  lt := h.lt
  gw := h.gw
  dlt := h.dlt
theorem SInv.num {w W : World} {dv : Value} {bs : List Nat} {g : Nat} {vn vt : Value} {p : Nat} {ok : Bool} {ns : List Nat} {ts : List ByteArray} (h : SInv w W dv bs g vn vt p ok ns ts) {u : Obj} {w1 : World} {v' : Value} {n : Nat}
    (r : Row w1 29 1 v' (ns.length + 1) (U64 ns ++ [.int .u64 (n : Nat)])) (gr : Grew (W.alloc u) w1 vn v') : SInv w w1 dv bs g v' vt p ok (ns ++ [n]) ts where
  nums := by simpa [U64_append, U64] using r
  texts := (h.texts.alloc u).keep gr.keep (fun b hb e => h.texts.ne h.nums (by decide) hb e)
  rd := (h.rd.alloc u).keep gr.keep (fun e => h.nums.neBlk h.rd (by decide) e)
  data := (h.data.alloc u).keepIf gr.keep (fun h0 b hb e => by have := h.dlt h0 b hb; have := h.ln b e; omega)
  keep := (h.keep.alloc u).trans gr.keep (fun i hi e => by have := h.ln i e; omega)
  ln := fun b hb => by
    rcases gr.lies hb with e | e
    · exact h.ln b e
    · have := h.keep.size; simp at e; omega
  lt := h.lt
  gw := h.gw
  dlt := h.dlt
theorem SInv.text {w W : World} {dv : Value} {bs : List Nat} {g : Nat} {vn vt : Value} {p : Nat} {ok : Bool} {ns : List Nat} {ts : List ByteArray} (h : SInv w W dv bs g vn vt p ok ns ts) {u : Obj} {w1 : World} {v' : Value} {s : ByteArray}
    (r : Row w1 9 1 v' (ts.length + 1) (Ts ts ++ [.string s])) (gr : Grew (W.alloc u) w1 vt v') : SInv w w1 dv bs g vn v' p ok ns (ts ++ [s]) where
  texts := by simpa [Ts_append, Ts] using r
  nums := (h.nums.alloc u).keep gr.keep (fun b hb e => h.nums.ne h.texts (by decide) hb e)
  rd := (h.rd.alloc u).keep gr.keep (fun e => h.texts.neBlk h.rd (by decide) e)
  data := (h.data.alloc u).keepIf gr.keep (fun h0 b hb e => by have := h.dlt h0 b hb; have := h.lt b e; omega)
  keep := (h.keep.alloc u).trans gr.keep (fun i hi e => by have := h.lt i e; omega)
  lt := fun b hb => by
    rcases gr.lies hb with e | e
    · exact h.lt b e
    · have := h.keep.size; simp at e; omega
  ln := h.ln
  gw := h.gw
  dlt := h.dlt
theorem SInv.drew {w wr : World} {dv : Value} {bs : List Nat} {g : Nat} {vn vt : Value} {p : Nat} {ok : Bool} {ns : List Nat} {ts : List ByteArray} (h : SInv w wr dv bs g vn vt p ok ns ts) : SInv w wr.drew dv bs g vn vt p ok ns ts :=
  ⟨h.nums.drew, h.texts.drew, h.rd.drew, h.data.drew, h.keep.drew, h.ln, h.lt, h.gw, h.dlt⟩
theorem SInv.run0 {w wr : World} {dv : Value} {bs : List Nat} {g : Nat} {vn vt : Value} {p : Nat} {ok : Bool} {ns : List Nat} {ts : List ByteArray} (h : SInv w wr dv bs g vn vt p ok ns ts) {W : World} {p' : Nat} {ok' : Bool}
    (k : Keep (At g) wr W) (hb : Blk W g (scells dv p' ok') 110) : SInv w W dv bs g vn vt p' ok' ns ts where
  nums := h.nums.keep k (fun b hb e => by unfold At at e; exact h.nums.neBlk h.rd (by decide) (e ▸ hb))
  texts := h.texts.keep k (fun b hb e => by unfold At at e; exact h.texts.neBlk h.rd (by decide) (e ▸ hb))
  rd := hb
  data := h.data.keepIf k (fun h0 b hb e => by unfold At at e; have := h.dlt h0 b hb; have := h.gw; omega)
  keep := h.keep.trans k (fun i hi e => by unfold At at e; have := h.gw; omega)
  ln := h.ln
  lt := h.lt
  gw := h.gw
  dlt := h.dlt
theorem sSeekE (a : Option Addr) (c len g p : Nat) (ok : Bool) (n : Int) (w : World) (hb : Blk w g (scells (.slice a len c) p ok) 110) (hp : p ≤ len) (h1 : -5000000000 ≤ n) (h2 : n ≤ 5000000000) :
    Calls Try.prog 53 #[.pointer (some ⟨g, 0, none⟩), .int .i64 n] w fun e w' => ∃ q p' : Nat, e = .returned (.int .u64 q) ∧ Blk w' g (scells (.slice a len c) p' ok) 110 ∧ Keep (At g) w w' ∧
      q = (if 0 ≤ n ∧ n ≤ len then n.toNat else 18446744073709551615) ∧ p' = (if 0 ≤ n ∧ n ≤ len then n.toNat else p) ∧ p' ≤ len :=
  (sSeek a c len g p ok n w hb h1 h2).mono fun e w' ⟨he, hb', k⟩ => ⟨_, _, he, hb', k, rfl, rfl, by split <;> omega⟩
/-- What 'take' does, in whatever state. -/
theorem take_any (a : Option Addr) (c g p : Nat) (ok : Bool) (n : Int) (bs : List Nat) (hc : bs.length ≤ c) (hlen : bs.length ≤ 2147483647) (hp : p ≤ bs.length) (h8 : ∀ x ∈ bs, x < 256) (hne : 0 < bs.length → ∀ b, (Value.slice a bs.length c).ownBlock = some b → b ≠ g) :
    ∃ p' ok' zs, (∀ x ∈ zs, x < 256) ∧ zs.length ≤ max n.toNat 8 ∧ p' ≤ bs.length ∧ (ok' = true → ok = true ∧ 0 ≤ n ∧ p + n.toNat ≤ bs.length ∧ p' = p + n.toNat ∧ zs = (bs.drop p).take n.toNat) ∧
      ∀ W, Blk W g (scells (.slice a bs.length c) p ok) 110 → Reads W 1 (.slice a bs.length c) bs.length (By bs) → Calls Try.prog 52 #[.pointer (some ⟨g, 0, none⟩), .int .i64 n] W (TakeP (.slice a bs.length c) g p' ok' zs W) := by
  by_cases h : ok = true ∧ 0 ≤ n ∧ p + n.toNat ≤ bs.length
  · obtain ⟨rfl, h0, h1⟩ := h
    refine ⟨p + n.toNat, true, (bs.drop p).take n.toNat, fun x hx => h8 x (List.mem_of_mem_drop (List.mem_of_mem_take hx)), ?_, h1, fun _ => ⟨rfl, h0, h1, rfl, rfl⟩, fun W hb hr => ?_⟩
    · have := List.length_take_le n.toNat (bs.drop p); omega
    · have := (sTake a c g p n.toNat bs W hb hr hc hlen h1 hne).mono fun e w' h => h.any h1
      rwa [Int.toNat_of_nonneg h0] at this
  · refine ⟨p, false, List.replicate (min n 8).toNat 0, fun x hx => ?_, ?_, hp, (fun h => by cases h), fun W hb hr => ?_⟩
    · have := List.eq_of_mem_replicate hx; omega
    · rw [List.length_replicate]; omega
    · refine (sTakeBad a c bs.length g p ok n W hb hlen hp ?_).mono fun e w' h => h.any
      by_cases h1 : ok = true
      · by_cases h2 : 0 ≤ n
        · exact .inr (.inr (by have : ¬ p + n.toNat ≤ bs.length := fun h3 => h ⟨h1, h2, h3⟩; omega))
        · exact .inr (.inl (by omega))
      · exact .inl (by simpa using h1)
theorem ulebAt_more : ∀ (n : Nat) (l ds : List Nat), ulebAt n l = some ds → ulebAt (n + 1) l = some ds
  | 0, l, ds, h => by simp [ulebAt] at h
  | n + 1, [], ds, h => by simp [ulebAt] at h
  | n + 1, b :: l, ds, h => by
    rw [ulebAt] at h ⊢
    split
    · next hb => rwa [if_pos hb] at h
    · next hb =>
      rw [if_neg hb, Option.map_eq_some_iff] at h
      obtain ⟨ds', h', rfl⟩ := h
      rw [ulebAt_more n l ds' h']; rfl
/-! ### A step of the reference is a step -/
theorem rs_num {bs : List Nat} {p : Nat} {ns : List Nat} {ts : List ByteArray} {x : Int} (i : Fin 3) (h : p + [1, 4, 8][i] ≤ bs.length) :
    rstep2 bs (p, ns, ts) ((i : Nat), x) = some (p + [1, 4, 8][i], ns ++ [leVal ((bs.drop p).take [1, 4, 8][i])], ts) := by
  match i, h with
  | 0, h =>
    have h' : p + 1 ≤ bs.length := h
    have e : (bs.drop p).take 1 = [bs.getD p 0] := by
      rw [List.drop_eq_getElem_cons (by omega), List.take_succ_cons, List.take_zero, List.getD_eq_getElem?_getD, List.getElem?_eq_getElem (by omega)]; rfl
    simp [rstep2, h', e, leVal]
  | 1, h =>
    have h' : p + 4 ≤ bs.length := h
    simp [rstep2, h']
  | 2, h =>
    have h' : p + 8 ≤ bs.length := h
    simp [rstep2, h']
theorem rs_uleb {bs : List Nat} {p : Nat} {ns ds : List Nat} {ts : List ByteArray} {x : Int} (h : ulebAt 9 (bs.drop p) = some ds) :
    rstep2 bs (p, ns, ts) (3, x) = some (p + ds.length, ns ++ [ulebVal ds], ts) := by
  have h2 := ulebAt_more 9 _ _ h
  obtain ⟨_, _, hn, _⟩ := ulebAt_spec _ _ _ h
  have h3 := ulebVal_lt ds
  have h4 : 2 ^ (7 * ds.length) ≤ 2 ^ 63 := Nat.pow_le_pow_right (by decide) (by omega)
  have h5 : ulebVal ds < M64 := by unfold M64; omega
  simp [rstep2, rstep, h2, h5]
theorem rs_text {bs : List Nat} {p : Nat} {ns : List Nat} {ts : List ByteArray} {x : Int} (h0 : 0 ≤ x) (h : p + x.toNat ≤ bs.length) :
    rstep2 bs (p, ns, ts) (4, x) = some (p + x.toNat, ns, ts ++ [txt ((bs.drop p).take x.toNat)]) := by
  simp [rstep2, h0, h]
theorem rs_into {bs : List Nat} {p n : Nat} {ns : List Nat} {ts : List ByteArray} {x : Int} (h0 : 0 ≤ x) (hn : n = min x.toNat (bs.length - p)) :
    rstep2 bs (p, ns, ts) (8, x) = some (p + n, ns, ts ++ [txt ((bs.drop p).take n)]) := by
  subst hn
  have e : (bs.drop p).take (min x.toNat (bs.length - p)) = (bs.drop p).take x.toNat := by
    rw [← List.length_drop, List.take_eq_take_min (i := x.toNat)]
  simp [rstep2, h0, e]
theorem rs_at {bs : List Nat} {p : Nat} {ns : List Nat} {ts : List ByteArray} {x : Int} : rstep2 bs (p, ns, ts) (9, x) = some (p, ns ++ [p], ts) := by
  simp [rstep2, rstep]
theorem rs_seek {bs : List Nat} {p : Nat} {ns : List Nat} {ts : List ByteArray} {x T : Int} (wh : Fin 3) (hT : T = seekTo wh p bs.length x) :
    rstep2 bs (p, ns, ts) (5 + (wh : Nat), x) = some (if 0 ≤ T ∧ T ≤ bs.length then T.toNat else p, ns ++ [if 0 ≤ T ∧ T ≤ bs.length then T.toNat else 18446744073709551615], ts) := by
  subst hT
  match wh with
  | 0 => by_cases h : 0 ≤ seekTo 0 p bs.length x ∧ seekTo 0 p bs.length x ≤ bs.length <;> simp [rstep2, rstep, h]
  | 1 => by_cases h : 0 ≤ seekTo 1 p bs.length x ∧ seekTo 1 p bs.length x ≤ bs.length <;> simp [rstep2, rstep, h]
  | 2 => by_cases h : 0 ≤ seekTo 2 p bs.length x ∧ seekTo 2 p bs.length x ≤ bs.length <;> simp [rstep2, rstep, h]
/-- What the reference's Read has told. -/
def SReadPost (bs : List Nat) (l : List (Int × Int)) (w : World) (e : Ending) (w' : World) : Prop :=
  ∃ v1 v2 ok, e = .returned (.tuple #[v1, v2, .bool ok]) ∧ Keep Non w w' ∧ (ok = true → bs.length ≤ 300 ∧ l.length ≤ 40 ∧ (∀ m ∈ l, -600 ≤ m.2 ∧ m.2 ≤ 600) ∧
    ∃ fin, rrun2 bs l = some fin ∧ Row w' 29 1 v1 fin.2.1.length (U64 fin.2.1) ∧ Row w' 9 1 v2 fin.2.2.length (Ts fin.2.2))
set_option maxRecDepth 100000 in
set_option maxHeartbeats 40000000 in
theorem read_spec (a : Option Addr) (c : Nat) (sv : Value) (bs : List Nat) (l : List (Int × Int)) (w : World) (hd : Reads w 1 (.slice a bs.length c) bs.length (By bs)) (hc : bs.length ≤ c) (hs : Reads w 2 sv l.length (l.flatMap two)) (hbl : bs.length ≤ 2147483647) (hll : l.length ≤ 2147483647)
    (h8 : ∀ x ∈ bs, x < 256) :
    Calls Try.prog 32 #[.slice a bs.length c, sv] w (SReadPost bs l w) := by
  obtain ⟨aa, ca, rfl⟩ := hs.slice
  have H8 := Lib.hid h8
  clear h8
  go_enter Try.func32, Try.ntmps32
  have HLT := Lib.hid (fun (h0 : 0 < bs.length) => hd.blk h0 (by decide))
  go_upto_region 1 with (fail)
  go_cut [7] from 12 to 22 (fun v wx => ∃ ok0 : Bool, v = .pointer (some ⟨w.heap.size, 0, none⟩) ∧ wx = w.alloc (.cells #[.slice a bs.length c, .int .i64 0, .bool ok0] 110) ∧ (ok0 = true → bs.length ≤ 300 ∧ l.length ≤ 40))
  case first =>
    by_cases h1 : bs.length ≤ 300
    · by_cases h2 : l.length ≤ 40
      · go_wp2
        all_goals
          go_meet
          case rel => exact ⟨_, rfl, rfl, fun _ => ⟨h1, h2⟩⟩
      · go_wp2
        all_goals
          go_meet
          case rel => exact ⟨_, rfl, rfl, fun h => by simp at h; omega⟩
    · go_wp2
      all_goals
        go_meet
        case rel => exact ⟨false, rfl, rfl, fun h => by cases h⟩
  case rest =>
    obtain ⟨ok0, rfl, rfl, hok0⟩ := hcut
    have HOK0 := Lib.hid hok0
    have e1 : (w.alloc (.cells #[.slice a bs.length c, .int .i64 0, .bool ok0] 110)).heap.size = w.heap.size + 1 := by simp
    have e2 : ((w.alloc (.cells #[.slice a bs.length c, .int .i64 0, .bool ok0] 110)).alloc (.cells #[] 29)).heap.size = w.heap.size + 1 + 1 := by simp
    have I0 : SInv w (((w.alloc (.cells #[.slice a bs.length c, .int .i64 0, .bool ok0] 110)).alloc (.cells #[] 29)).alloc (.cells #[] 9)) (.slice a bs.length c) bs w.heap.size (.slice (some ⟨w.heap.size + 1, 0, none⟩) 0 0) (.slice (some ⟨w.heap.size + 1 + 1, 0, none⟩) 0 0) 0 ok0 [] [] :=
      { nums := by
          have := (Row.lit (w.alloc (.cells #[.slice a bs.length c, .int .i64 0, .bool ok0] 110)) 29 1 [] 0 (by decide) rfl).alloc (.cells #[] 9)
          rw [e1] at this
          exact this
        texts := by
          have := Row.lit ((w.alloc (.cells #[.slice a bs.length c, .int .i64 0, .bool ok0] 110)).alloc (.cells #[] 29)) 9 1 [] 0 (by decide) rfl
          rw [e2] at this
          exact this
        rd := ((Blk.new w (scells (.slice a bs.length c) 0 ok0) 110).alloc _).alloc _
        data := ((hd.alloc _).alloc _).alloc _
        keep := (((Keep.refl _ _).alloc _).alloc _).alloc _
        ln := fun b hb => by simp [Value.ownBlock] at hb; omega
        lt := fun b hb => by simp [Value.ownBlock] at hb; omega
        gw := Nat.le_refl _
        dlt := HLT.out }
    have HI0 := Lib.hid I0
    clear e1 e2 hok0 I0
    go_wp2_with fail
    go_loopw [8, 9, 27] (fun vn vt i wr => ∃ (k p : Nat) (ok : Bool) (ns : List Nat) (ts : List ByteArray), k ≤ l.length ∧ i = .int .i64 k ∧ (∀ m ∈ l.take k, -600 ≤ m.2 ∧ m.2 ≤ 600) ∧ p ≤ bs.length ∧ ns.length ≤ k ∧ ts.length ≤ k ∧ SInv w wr (.slice a bs.length c) bs w.heap.size vn vt p ok ns ts ∧ (ok = true → ok0 = true ∧ rrun2 bs (l.take k) = some (p, ns, ts))) (fun _ _ i _ => l.length - (intOf i).toNat)
    case atStart => exact ⟨0, 0, ok0, [], [], by omega, rfl, by simp, by omega, by simp, by simp, HI0.out, fun h => ⟨h, rfl⟩⟩
    case round =>
      obtain ⟨k, p, ok, ns, ts, hk, rfl, hv, hp, hln, hlt', hI, hst⟩ := hrel
      by_cases hlt : k < l.length
      · obtain ⟨ba, offa, ca', hva, hca⟩ := hs.at (by omega) (by omega)
        cases hva
        obtain ⟨c0, c1'⟩ := two_at hca hlt
        have d0 := hI.keep.cell c0 (fun h => h)
        have d1 := hI.keep.cell c1' (fun h => h)
        have hsn := rrun2_snoc bs hlt
        have hvs : -600 ≤ l[k].2 ∧ l[k].2 ≤ 600 → ∀ m ∈ l.take (k + 1), -600 ≤ m.2 ∧ m.2 ≤ 600 := fun h => take_snoc_mem hlt hv h
        have HI := Lib.hid hI
        have HK := Lib.hid hI.keep
        have HSN := Lib.hid hsn
        have HVS := Lib.hid hvs
        have HST := Lib.hid hst
        clear hsn hvs hst hv hca c0 c1' hI
        generalize l[k] = x at *
        obtain ⟨x1, x2⟩ := x
        simp only [] at d0 d1
        by_cases b1 : x1 < 0
        · go_wp2
          go_ret3
          exact ⟨_, _, false, rfl, HK.out.alloc _, fun h => by cases h⟩
        by_cases b2 : 9 < x1
        · go_wp2
          go_ret3
          exact ⟨_, _, false, rfl, HK.out.alloc _, fun h => by cases h⟩
        by_cases b3 : x2 < -600
        · go_wp2
          go_ret3
          exact ⟨_, _, false, rfl, HK.out.alloc _, fun h => by cases h⟩
        by_cases b4 : 600 < x2
        · go_wp2
          go_ret3
          exact ⟨_, _, false, rfl, HK.out.alloc _, fun h => by cases h⟩
        have HV1 := Lib.hid (HVS.out ⟨by simp only []; omega, by simp only []; omega⟩)
        have x2lo : -600 ≤ x2 := by omega
        have x2hi : x2 ≤ 600 := by omega
        have HSTEP : Hid (∀ (p' : Nat) (ns' : List Nat) (ts' : List ByteArray), ok = true → rstep2 bs (p, ns, ts) (x1, x2) = some (p', ns', ts') → ok0 = true ∧ rrun2 bs (l.take (k + 1)) = some (p', ns', ts')) := Lib.hid (fun p' ns' ts' ho hr => ⟨(HST.out ho).1, by rw [HSN.out, (HST.out ho).2]; exact hr⟩)
        have HNE : Hid (0 < bs.length → ∀ b, (Value.slice a bs.length c).ownBlock = some b → b ≠ w.heap.size) := Lib.hid (fun h0 b hb => by have := HLT.out h0 b hb; omega)
        clear HVS HST HSN b3 b4
        have hx : x1 = 0 ∨ x1 = 1 ∨ x1 = 2 ∨ x1 = 3 ∨ x1 = 4 ∨ x1 = 5 ∨ x1 = 6 ∨ x1 = 7 ∨ x1 = 8 ∨ x1 = 9 := by omega
        clear b1 b2
        rcases hx with rfl | rfl | rfl | rfl | rfl | rfl | rfl | rfl | rfl | rfl
        · obtain ⟨p', ok', zs, hz8, hzl, hp', himp, T⟩ := take_any a c w.heap.size p ok 1 bs hc hbl hp H8.out HNE.out
          have HZ8 := Lib.hid hz8
          have HIMP := Lib.hid himp
          clear hz8 himp
          go_wp2_with (first
            | (go_at_call 50; go_must (refine (sNumber (.slice a bs.length c) w.heap.size p' 1 ok' _ zs (by simpa using hzl) HZ8.out (T _ ((HI.out.alloc _).alloc _).rd ((HI.out.alloc _).alloc _).data)).mono ?_); rintro e w2' ⟨rfl, hb2, k2⟩; have I1 := (HI.out.alloc _).run k2 hb2)
            | (at_builtin; go_must (refine wpList_app (n := ns.length) (xs := U64 ns) (m := 1) sliceU64 rfl _ _ rfl rfl (Row.alloc I1.nums _) rfl (Reads.oneAt (by simp)) (int_one _ _) (by unfold maxLen; omega) (by omega) ?_); intro v' w3 r3 g3 n3))
          go_roundw
          case measure => simp [intOf]; omega
          case rel => exact ⟨k + 1, _, _, _, _, by omega, by go_num, HV1.out, by omega, by first | omega | (simp; omega), by first | omega | (simp; omega), I1.num r3 g3, fun h => by
            obtain ⟨h1, h2, h3, h4, h5⟩ := HIMP.out h
            refine HSTEP.out _ _ _ h1 ?_
            rw [h4, h5]
            exact rs_num 0 h3⟩
        · obtain ⟨p', ok', zs, hz8, hzl, hp', himp, T⟩ := take_any a c w.heap.size p ok 4 bs hc hbl hp H8.out HNE.out
          have HZ8 := Lib.hid hz8
          have HIMP := Lib.hid himp
          clear hz8 himp
          go_wp2_with (first
            | (go_at_call 50; go_must (refine (sNumber (.slice a bs.length c) w.heap.size p' 4 ok' _ zs (by simpa using hzl) HZ8.out (T _ ((HI.out.alloc _).alloc _).rd ((HI.out.alloc _).alloc _).data)).mono ?_); rintro e w2' ⟨rfl, hb2, k2⟩; have I1 := (HI.out.alloc _).run k2 hb2)
            | (at_builtin; go_must (refine wpList_app (n := ns.length) (xs := U64 ns) (m := 1) sliceU64 rfl _ _ rfl rfl (Row.alloc I1.nums _) rfl (Reads.oneAt (by simp)) (int_one _ _) (by unfold maxLen; omega) (by omega) ?_); intro v' w3 r3 g3 n3))
          go_roundw
          case measure => simp [intOf]; omega
          case rel => exact ⟨k + 1, _, _, _, _, by omega, by go_num, HV1.out, by omega, by first | omega | (simp; omega), by first | omega | (simp; omega), I1.num r3 g3, fun h => by
            obtain ⟨h1, h2, h3, h4, h5⟩ := HIMP.out h
            refine HSTEP.out _ _ _ h1 ?_
            rw [h4, h5]
            exact rs_num 1 h3⟩
        · obtain ⟨p', ok', zs, hz8, hzl, hp', himp, T⟩ := take_any a c w.heap.size p ok 8 bs hc hbl hp H8.out HNE.out
          have HZ8 := Lib.hid hz8
          have HIMP := Lib.hid himp
          clear hz8 himp
          go_wp2_with (first
            | (go_at_call 50; go_must (refine (sNumber (.slice a bs.length c) w.heap.size p' 8 ok' _ zs (by simpa using hzl) HZ8.out (T _ ((HI.out.alloc _).alloc _).rd ((HI.out.alloc _).alloc _).data)).mono ?_); rintro e w2' ⟨rfl, hb2, k2⟩; have I1 := (HI.out.alloc _).run k2 hb2)
            | (at_builtin; go_must (refine wpList_app (n := ns.length) (xs := U64 ns) (m := 1) sliceU64 rfl _ _ rfl rfl (Row.alloc I1.nums _) rfl (Reads.oneAt (by simp)) (int_one _ _) (by unfold maxLen; omega) (by omega) ?_); intro v' w3 r3 g3 n3))
          go_roundw
          case measure => simp [intOf]; omega
          case rel => exact ⟨k + 1, _, _, _, _, by omega, by go_num, HV1.out, by omega, by first | omega | (simp; omega), by first | omega | (simp; omega), I1.num r3 g3, fun h => by
            obtain ⟨h1, h2, h3, h4, h5⟩ := HIMP.out h
            refine HSTEP.out _ _ _ h1 ?_
            rw [h4, h5]
            exact rs_num 2 h3⟩
        · go_wp2_with (first
            | (go_at_call 51; go_must (refine (sUleb a c w.heap.size p ok bs _ (HI.out.alloc _).rd (HI.out.alloc _).data hc hbl hp H8.out HNE.out).mono ?_); rintro e w2' ⟨xu, p', ok', rfl, hb2, k2, hp', himp⟩; have HIMP := Lib.hid himp; clear himp; have I1 := HI.out.run k2 hb2)
            | (at_builtin; go_must (refine wpList_app (n := ns.length) (xs := U64 ns) (m := 1) sliceU64 rfl _ _ rfl rfl (Row.alloc I1.nums _) rfl (Reads.oneAt (by simp)) (int_one _ _) (by unfold maxLen; omega) (by omega) ?_); intro v' w3 r3 g3 n3))
          go_roundw
          case measure => simp [intOf]; omega
          case rel => exact ⟨k + 1, _, _, _, _, by omega, by go_num, HV1.out, by omega, by first | omega | (simp; omega), by first | omega | (simp; omega), I1.num r3 g3, fun h => by
            obtain ⟨h1, ds, h2, h3, h4⟩ := HIMP.out h
            refine HSTEP.out _ _ _ h1 ?_
            rw [h3, h4]
            exact rs_uleb h2⟩
        · obtain ⟨p', ok', zs, hz8, hzl, hp', himp, T⟩ := take_any a c w.heap.size p ok x2 bs hc hbl hp H8.out HNE.out
          have HZ8 := Lib.hid hz8
          have HIMP := Lib.hid himp
          clear hz8 himp
          go_wp2_with (first
            | (go_at_call 52; go_must (refine (T _ (HI.out.alloc _).rd (HI.out.alloc _).data).mono ?_); rintro e w2' ⟨v, rfl, r2, hb2, k2⟩; have I1 := (HI.out.alloc _).run0 k2 hb2; have c4 := run_toString (P := Try.prog) Try.underlying28 Try.underlying5 Try.underlying9 (show Reads w2' 1 v zs.length (B (bytes8 zs)) by rw [← By_bytes8 HZ8.out]; exact r2))
            | (at_builtin; go_must (refine wpList_app (n := ts.length) (xs := Ts ts) (m := 1) sliceStr rfl _ _ rfl rfl (Row.alloc I1.texts _) rfl (Reads.oneAt (by simp)) (str_one _) (by unfold maxLen; omega) (by omega) ?_); intro v' w3 r3 g3 n3))
          go_roundw
          case measure => simp [intOf]; omega
          case rel => exact ⟨k + 1, _, _, _, _, by omega, by go_num, HV1.out, by omega, by first | omega | (simp; omega), by first | omega | (simp; omega), I1.text r3 g3, fun h => by
            obtain ⟨h1, h2, h3, h4, h5⟩ := HIMP.out h
            refine HSTEP.out _ _ _ h1 ?_
            rw [h4, h5]
            exact rs_text h2 h3⟩
        · go_wp2_with (first
            | (go_at_call 53; go_must (refine (sSeekE a c bs.length w.heap.size p ok (x2) _ (HI.out.alloc _).rd hp (by omega) (by omega)).mono ?_); rintro e w2' ⟨q, p', rfl, hb2, k2, hq, hp1, hp'⟩; have HQ := Lib.hid hq; have HP1 := Lib.hid hp1; clear hq hp1; have I1 := (HI.out.alloc _).run0 k2 hb2)
            | (at_builtin; go_must (refine wpList_app (n := ns.length) (xs := U64 ns) (m := 1) sliceU64 rfl _ _ rfl rfl (Row.alloc I1.nums _) rfl (Reads.oneAt (by simp)) (int_one _ _) (by unfold maxLen; omega) (by omega) ?_); intro v' w3 r3 g3 n3))
          go_roundw
          case measure => simp [intOf]; omega
          case rel => exact ⟨k + 1, _, _, _, _, by omega, by go_num, HV1.out, by omega, by first | omega | (simp; omega), by first | omega | (simp; omega), I1.num r3 g3, fun h => by
            refine HSTEP.out _ _ _ h ?_
            rw [HQ.out, HP1.out]
            exact rs_seek 0 rfl⟩
        · have hz : w.heap.size < wr.heap.size := HI.out.rd.lt
          have d2 : wr.cell? ⟨w.heap.size, 1, none⟩ = some (.int .i64 (p : Int)) := by rw [HI.out.rd.cell]; rfl
          have d3 : wr.cell? ⟨w.heap.size, 0, none⟩ = some (.slice a bs.length c) := by rw [HI.out.rd.cell]; rfl
          have hw1 : -5000000000 ≤ (p : Int) + x2 := by omega
          have hw2 : (p : Int) + x2 ≤ 5000000000 := by omega
          have hw3 : ns.length + 1 ≤ maxLen := by unfold maxLen; omega
          have hw4 : (ns.length + 1) * 8 ≤ 140737488355328 := by omega
          have hw5 : IntKind.i64.wrap ((p : Int) + x2) = (p : Int) + x2 := IntWalk.i64_in _ (by omega)
          go_wp2_with fail
          go_region_law (first
            | (go_simp; (go_at_call 53; go_must (refine (sSeekE a c bs.length w.heap.size p ok ((p : Int) + x2) _ (HI.out.alloc _).drew.rd hp hw1 hw2).mono ?_); rintro e w2' ⟨q, p', rfl, hb2, k2, hq, hp1, hp'⟩; have HQ := Lib.hid hq; have HP1 := Lib.hid hp1; clear hq hp1; have I1 := (HI.out.alloc _).drew.run0 k2 hb2))
            | (refine step_app (n := ns.length) (xs := U64 ns) (m := 1) sliceU64 rfl _ _ rfl rfl (Row.alloc I1.nums _) rfl (Reads.oneAt (by simp)) (by decide) (int_one _ _) hw3 hw4 ?_; intro v' w3 r3 g3))
          all_goals
            clear hw5
            go_wp2_with fail
            go_roundw
            case measure => simp [intOf]; omega
            case rel => exact ⟨k + 1, _, _, _, _, by omega, by go_num, HV1.out, by omega, by first | omega | (simp; omega), by first | omega | (simp; omega), I1.num r3 g3, fun h => by
            refine HSTEP.out _ _ _ h ?_
            rw [HQ.out, HP1.out]
            exact rs_seek 1 rfl⟩
        · have hz : w.heap.size < wr.heap.size := HI.out.rd.lt
          have d2 : wr.cell? ⟨w.heap.size, 1, none⟩ = some (.int .i64 (p : Int)) := by rw [HI.out.rd.cell]; rfl
          have d3 : wr.cell? ⟨w.heap.size, 0, none⟩ = some (.slice a bs.length c) := by rw [HI.out.rd.cell]; rfl
          have hw1 : -5000000000 ≤ (bs.length : Int) + x2 := by omega
          have hw2 : (bs.length : Int) + x2 ≤ 5000000000 := by omega
          have hw3 : ns.length + 1 ≤ maxLen := by unfold maxLen; omega
          have hw4 : (ns.length + 1) * 8 ≤ 140737488355328 := by omega
          have hw5 : IntKind.i64.wrap ((bs.length : Int) + x2) = (bs.length : Int) + x2 := IntWalk.i64_in _ (by omega)
          go_wp2_with fail
          go_region_law (first
            | (go_simp; (go_at_call 53; go_must (refine (sSeekE a c bs.length w.heap.size p ok ((bs.length : Int) + x2) _ (HI.out.alloc _).drew.rd hp hw1 hw2).mono ?_); rintro e w2' ⟨q, p', rfl, hb2, k2, hq, hp1, hp'⟩; have HQ := Lib.hid hq; have HP1 := Lib.hid hp1; clear hq hp1; have I1 := (HI.out.alloc _).drew.run0 k2 hb2))
            | (refine step_app (n := ns.length) (xs := U64 ns) (m := 1) sliceU64 rfl _ _ rfl rfl (Row.alloc I1.nums _) rfl (Reads.oneAt (by simp)) (by decide) (int_one _ _) hw3 hw4 ?_; intro v' w3 r3 g3))
          all_goals
            clear hw5
            go_wp2_with fail
            go_roundw
            case measure => simp [intOf]; omega
            case rel => exact ⟨k + 1, _, _, _, _, by omega, by go_num, HV1.out, by omega, by first | omega | (simp; omega), by first | omega | (simp; omega), I1.num r3 g3, fun h => by
            refine HSTEP.out _ _ _ h ?_
            rw [HQ.out, HP1.out]
            exact rs_seek 2 rfl⟩
        · have hz : w.heap.size < wr.heap.size := HI.out.rd.lt
          have d2 : wr.cell? ⟨w.heap.size, 1, none⟩ = some (.int .i64 (p : Int)) := by rw [HI.out.rd.cell]; rfl
          have d3 : wr.cell? ⟨w.heap.size, 0, none⟩ = some (.slice a bs.length c) := by rw [HI.out.rd.cell]; rfl
          by_cases b5 : x2 < 0
          · go_wp2
            go_ret3
            exact ⟨_, _, false, rfl, HK.out.alloc _, fun h => by cases h⟩
          · obtain ⟨nn, hif⟩ : ∃ nn, (if (bs.length : Int) - (p : Int) < x2 then (bs.length : Int) - (p : Int) else x2) = nn := ⟨_, rfl⟩
            have hn1 : nn ≤ x2 ∧ 0 ≤ nn ∧ nn.toNat = min x2.toNat (bs.length - p) := by
              rw [← hif]
              split <;> omega
            have HN1 := Lib.hid hn1
            clear hn1
            obtain ⟨p', ok', zs, hz8, hzl, hp', himp, T⟩ := take_any a c w.heap.size p ok nn bs hc hbl hp H8.out HNE.out
            have HZ8 := Lib.hid hz8
            have HIMP := Lib.hid himp
            clear hz8 himp
            have hw3 : ts.length + 1 ≤ maxLen := by unfold maxLen; omega
            have hw4 : (ts.length + 1) * 16 ≤ 140737488355328 := by omega
            have hw5 : IntKind.i64.wrap ((bs.length : Int) - (p : Int)) = (bs.length : Int) - (p : Int) := IntWalk.i64_in _ (by omega)
            go_wp2_with fail
            go_region_law (first
              | (go_simp; go_at_call 52; go_must (refine (T _ (HI.out.alloc _).drew.rd (HI.out.alloc _).drew.data).mono ?_); rintro e w2' ⟨v, rfl, r2, hb2, k2⟩; have I1 := (HI.out.alloc _).drew.run0 k2 hb2; have c4 := run_toString (P := Try.prog) Try.underlying28 Try.underlying5 Try.underlying9 (show Reads w2' 1 v zs.length (B (bytes8 zs)) by rw [← By_bytes8 HZ8.out]; exact r2))
              | (refine step_app (n := ts.length) (xs := Ts ts) (m := 1) sliceStr rfl _ _ rfl rfl (Row.alloc I1.texts _) rfl (Reads.oneAt (by simp)) (by decide) (str_one _) hw3 hw4 ?_; intro v' w3 r3 g3))
            all_goals
              clear hw5
              go_wp2_with fail
              go_roundw
              case measure => simp [intOf]; omega
              case rel => exact ⟨k + 1, _, _, _, _, by omega, by go_num, HV1.out, by omega, by first | omega | (simp; omega), by first | omega | (simp; omega), I1.text r3 g3, fun h => by
              obtain ⟨h1, h2, h3, h4, h5⟩ := HIMP.out h
              refine HSTEP.out _ _ _ h1 ?_
              rw [h4, h5]
              exact rs_into (by omega) HN1.out.2.2⟩
        · have hz : w.heap.size < wr.heap.size := HI.out.rd.lt
          have d2 : wr.cell? ⟨w.heap.size, 1, none⟩ = some (.int .i64 (p : Int)) := by rw [HI.out.rd.cell]; rfl
          have I1 := HI.out.alloc (.cells #[.int .i64 9, .int .i64 x2] 111)
          go_wp2_with (at_builtin; go_must (refine wpList_app (n := ns.length) (xs := U64 ns) (m := 1) sliceU64 rfl _ _ rfl rfl (Row.alloc I1.nums _) rfl (Reads.oneAt (by simp)) (int_one _ _) (by unfold maxLen; omega) (by omega) ?_); intro v' w3 r3 g3 n3)
          go_roundw
          case measure => simp [intOf]; omega
          case rel => exact ⟨k + 1, _, _, _, _, by omega, by go_num, HV1.out, by omega, by first | omega | (simp; omega), by first | omega | (simp; omega), I1.num r3 g3, fun h => HSTEP.out _ _ _ h rs_at⟩
      · have hkl : k = l.length := by omega
        subst hkl
        rw [List.take_of_length_le (Nat.le_refl _)] at hst hv
        have d4 : wr.cell? ⟨w.heap.size, 2, none⟩ = some (.bool ok) := by rw [hI.rd.cell]; rfl
        have HI := Lib.hid hI
        have HST := Lib.hid hst
        have HV := Lib.hid hv
        clear hI hst hv
        go_wp2
        go_quiet (fail)
        go_wp2
        go_ret3
        exact ⟨_, _, ok, rfl, (HI.out.drewN _).keep, fun h => ⟨(HOK0.out (HST.out h).1).1, (HOK0.out (HST.out h).1).2, HV.out, _, (HST.out h).2, (HI.out.drewN _).nums, (HI.out.drewN _).texts⟩⟩
end Go.Proofs.Ytfcdedcffmpjjaa
