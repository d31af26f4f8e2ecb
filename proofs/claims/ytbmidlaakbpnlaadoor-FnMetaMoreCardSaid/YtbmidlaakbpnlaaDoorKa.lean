/-
  WORDS without a program, and small laws. (taken by a program out of the texts of seat A.)
-/
import Derived.Test.YtbmidlaakbpnlaaDoorOpen2
import Derived.Test.YtbmidlaakbpnlaaDoorPlain
import Derived.Test.YtbmidlaakbpnlaaDoorMem
import Derived.Lib.AppendZerosOnto
import Derived.Laws.OwnMore
import Derived.Laws.CopyOwn
import Derived.Deep.RegionLaw
import Derived.Deep.QuietTactic
import Derived.BigQuiet
import Derived.Lib.ConvBytes
import Derived.Deep.OwnRows
namespace Go.Proofs.YtbmidlaakbpnlaaDoor
open Go.RowKit
open Go.ChangeShapes Go.WideShapes Go.ChangeAt Go.Deep
open Plain (M64)

theorem ret_int {k : IntKind} {a b : Int} (h : a = b) : Ending.returned (.int k a) = .returned (.int k b) := by rw [h]
theorem ret_bool {a b : Bool} (h : a = b) : Ending.returned (.bool a) = .returned (.bool b) := by rw [h]
/-- nil, or an error. -/
def ErrIf (ok : Bool) (r : Value) : Prop := if ok = true then r = .nilIface else ∃ t a, r = .iface t (.pointer (some a))
/-- Behind 'append([]T{}, xs...)'. -/
theorem Grew.copied {w w' : World} {v v' : Value} {T : TypeId} (g : Grew (w.alloc (.cells #[] T)) w' v v') (hv : v = .slice (some ⟨w.heap.size, 0, none⟩) 0 0) :
    Keep Non w w' ∧ ∀ g, v'.ownBlock = some g → w.heap.size ≤ g := by
  subst hv
  refine ⟨((Keep.refl _ _).alloc _).trans g.keep (fun i hi h => by simp [Own, Value.ownBlock] at h; omega), fun k hk => ?_⟩
  rcases g.lies hk with h | h
  · simp [Value.ownBlock] at h; omega
  · simp at h; omega
theorem Reads.two (w : World) (x y : Value) (T : TypeId) : Reads (w.alloc (.cells #[x, y] T)) 2 (.slice (some ⟨w.heap.size, 0, none⟩) 1 1) 1 [x, y] :=
  ⟨rfl, .inr ⟨_, 1, rfl, cell_two_new _ _ _ _⟩⟩
theorem ints2_one (k : IntKind) (x y : Int) : ∀ u ∈ [Value.int k x, .int k y], u.oneCell' = true := by
  intro u hu
  simp at hu
  rcases hu with rfl | rfl <;> rfl
theorem take_snoc_mem {α : Type} {l : List α} {k : Nat} (h : k < l.length) {Q : α → Prop} (h1 : ∀ x ∈ l.take k, Q x) (h2 : Q l[k]) : ∀ x ∈ l.take (k + 1), Q x := by
  intro x hx
  rw [List.take_succ_eq_append_getElem h] at hx
  rcases List.mem_append.1 hx with h | h
  · exact h1 x h
  · simp at h; subst h; exact h2
def Bs (l : List Bool) : List Value := l.map .bool
theorem Bs_append (a b : List Bool) : Bs (a ++ b) = Bs a ++ Bs b := by simp [Bs]
theorem bool_one (b : Bool) : ∀ u ∈ [Value.bool b], u.oneCell' = true := by
  intro u hu
  simp at hu
  subst hu; rfl
theorem Keep.setNew {S : Nat → Prop} {a w : World} (h : Keep S a w) {g : Nat} (hg : a.heap.size ≤ g) (o : Nat) (u : Value) : Keep S a (w.setCell ⟨g, o, none⟩ u) :=
  h.setCell (fun e => absurd e (Nat.not_lt.2 hg)) u
theorem Reads.oneAt {w : World} {u : Value} {T : TypeId} {g : Nat} (hg : g = w.heap.size) : Reads (w.alloc (.cells #[u] T)) 1 (.slice (some ⟨g, 0, none⟩) 1 1) 1 [u] := by
  subst hg; exact Reads.one _ _ _
theorem Row.setOther {w : World} {e : TypeId} {size : Nat} {v : Value} {n : Nat} {xs : List Value} (h : Row w e size v n xs) {g : Nat} (hg : v.ownBlock ≠ some g) (o : Nat) (u : Value) : Row (w.setCell ⟨g, o, none⟩ u) e size v n xs :=
  h.keep (Keep.one w g o u) (fun i hi e => hg (by rw [hi, e]))
def By (l : List Nat) : List Value := l.map fun x => Value.int .u8 (x : Nat)
def U64 (l : List Nat) : List Value := l.map fun x => Value.int .u64 (x : Nat)
def Ts (l : List ByteArray) : List Value := l.map .string
theorem U64_append (a b : List Nat) : U64 (a ++ b) = U64 a ++ U64 b := by simp [U64]
theorem Ts_append (a b : List ByteArray) : Ts (a ++ b) = Ts a ++ Ts b := by simp [Ts]
/-- The bytes of a number by seven bits, at the start of a list; at most so many. -/
def ulebAt : Nat → List Nat → Option (List Nat)
  | 0, _ => none
  | _, [] => none
  | n + 1, b :: l => if b < 128 then some [b] else (ulebAt n l).map (b :: ·)
theorem ulebAt_spec : ∀ n l ds, ulebAt n l = some ds → (∃ r, l = ds ++ r) ∧ 0 < ds.length ∧ ds.length ≤ n ∧ ∀ i (h : i < ds.length), (128 ≤ ds[i] ↔ i + 1 < ds.length)
  | 0, l, ds, h => by simp [ulebAt] at h
  | n + 1, [], ds, h => by simp [ulebAt] at h
  | n + 1, b :: l, ds, h => by
    rw [ulebAt] at h
    split at h
    · next hb =>
      simp only [Option.some.injEq] at h
      subst h
      refine ⟨⟨l, rfl⟩, by simp, by simp, fun i hi => ?_⟩
      have : i = 0 := by simpa using hi
      subst this
      simp; omega
    · next hb =>
      simp only [Option.map_eq_some_iff] at h
      obtain ⟨ds', h', rfl⟩ := h
      obtain ⟨⟨r, hr⟩, h0, hn, hh⟩ := ulebAt_spec n l ds' h'
      refine ⟨⟨r, by simp [hr]⟩, by simp, by simpa using hn, fun i hi => ?_⟩
      match i, hi with
      | 0, _ => simp; omega
      | i + 1, hi =>
        have := hh i (by simpa using hi)
        simpa using this
theorem drop_le {bs ds : List Nat} {p : Nat} (h : ∃ r, bs.drop p = ds ++ r) (h0 : 0 < ds.length) : p + ds.length ≤ bs.length := by
  obtain ⟨r, hr⟩ := h
  have := congrArg List.length hr
  simp at this
  omega
theorem drop_at {bs ds : List Nat} {p : Nat} (h : ∃ r, bs.drop p = ds ++ r) : ∀ i (hi : i < ds.length), bs[p + i]? = some ds[i] := by
  intro i hi
  obtain ⟨r, hr⟩ := h
  rw [← List.getElem?_drop, hr, List.getElem?_append_left hi, List.getElem?_eq_getElem hi]
theorem bytes_one (l : List Nat) : ∀ u ∈ By l, u.oneCell' = true := by
  intro u hu
  simp [By] at hu
  obtain ⟨x, _, rfl⟩ := hu
  rfl
theorem int_one (k : IntKind) (x : Int) : ∀ u ∈ [Value.int k x], u.oneCell' = true := by
  intro u hu
  simp at hu
  subst hu; rfl
/-- A number by seven bits, read. -/
def ulebVal : List Nat → Nat
  | [] => 0
  | b :: l => b % 128 + 128 * ulebVal l
theorem ulebVal_lt : ∀ l, ulebVal l < 2 ^ (7 * l.length)
  | [] => by simp [ulebVal]
  | b :: l => by
    have := ulebVal_lt l
    have e : 2 ^ (7 * (l.length + 1)) = 128 * 2 ^ (7 * l.length) := by rw [show 7 * (l.length + 1) = 7 * l.length + 7 by omega, Nat.pow_add]; omega
    simp only [ulebVal, List.length_cons, e]
    omega
theorem ulebVal_snoc (b : Nat) : ∀ l, ulebVal (l ++ [b]) = ulebVal l + b % 128 * 2 ^ (7 * l.length)
  | [] => by simp [ulebVal]
  | c :: l => by
    have e : 2 ^ (7 * (l.length + 1)) = 128 * 2 ^ (7 * l.length) := by rw [show 7 * (l.length + 1) = 7 * l.length + 7 by omega, Nat.pow_add]; omega
    rw [List.length_cons, e, List.cons_append, ulebVal, ulebVal_snoc b l, ulebVal, Nat.mul_left_comm (b % 128) 128]
    omega
theorem ulebVal_take_le : ∀ (l : List Nat) k, ulebVal (l.take k) ≤ ulebVal l
  | [], k => by simp [ulebVal]
  | b :: l, 0 => by simp [ulebVal]
  | b :: l, k + 1 => by
    have := ulebVal_take_le l k
    simp only [List.take_succ_cons, ulebVal]
    omega
theorem ulebVal_step {ds : List Nat} {k : Nat} (hk : k < ds.length) (hfit : ulebVal ds < M64) :
    bits .or .u64 ((ulebVal (ds.take k) : Nat) : Int) (IntKind.u64.wrap (((ds[k] : Nat) : Int) % 128 * 2 ^ (7 * k))) = ((ulebVal (ds.take (k + 1)) : Nat) : Int) := by
  have h1 := ulebVal_lt (ds.take k)
  have h2 := ulebVal_take_le ds (k + 1)
  have h3 := ulebVal_snoc ds[k] (ds.take k)
  rw [← List.take_succ_eq_append_getElem hk] at h3
  have hl : (ds.take k).length = k := by simp; omega
  rw [hl] at h1 h3
  generalize ulebVal (ds.take (k + 1)) = B at *
  generalize ulebVal (ds.take k) = A at *
  generalize ds[k] = x at *
  unfold M64 at hfit
  have e1 : ((x : Nat) : Int) % 128 * 2 ^ (7 * k) = ((x % 128 * 2 ^ (7 * k) : Nat) : Int) := by simp
  rw [e1]
  have e2 : IntKind.u64.wrap ((x % 128 * 2 ^ (7 * k) : Nat) : Int) = ((x % 128 * 2 ^ (7 * k) : Nat) : Int) := by
    simp [IntKind.wrap, IntKind.bits, IntKind.signed]
    omega
  rw [e2, u64_or_nat _ _ (by omega) (by omega)]
  have e3 := Nat.two_pow_add_eq_or_of_lt h1 (x % 128)
  rw [Nat.or_comm, Nat.mul_comm (x % 128), ← e3, h3, Nat.mul_comm (x % 128)]
  simp [Int.add_comm]
theorem addr_add (g o j : Nat) : (⟨g, o, none⟩ : Addr).add j = ⟨g, o + j, none⟩ := by
  unfold Addr.add
  split <;> simp_all
theorem Reads.sub {w : World} {g off n ca lo m c' : Nat} {xs : List Value} (h : Reads w 1 (.slice (some ⟨g, off, none⟩) n ca) n xs) (hm : lo + m ≤ n) : Reads w 1 (.slice (some ⟨g, off + lo, none⟩) m c') m ((xs.drop lo).take m) := by
  obtain ⟨hl, ⟨h, _⟩ | ⟨ad, c, h, hc⟩⟩ := h
  · cases h
  · cases h
    refine ⟨by simp; omega, .inr ⟨_, _, rfl, fun j u hj => ?_⟩⟩
    have hjm : j < m := by
      have := (List.getElem?_eq_some_iff.1 hj).1
      simp at this; omega
    rw [List.getElem?_take_of_lt hjm, List.getElem?_drop] at hj
    have := hc (lo + j) u hj
    rw [addr_add] at this ⊢
    rw [Nat.add_assoc]
    exact this
theorem By_get {l : List Nat} {i : Nat} (h : i < l.length) : (By l)[i]? = some (.int .u8 (l[i] : Nat)) := by simp [By, h]
theorem By_sub (l : List Nat) (p m : Nat) : ((By l).drop p).take m = By ((l.drop p).take m) := by simp [By, List.map_drop, List.map_take]
/-- A number, the least byte first. -/
def leVal : List Nat → Nat
  | [] => 0
  | b :: l => b + 256 * leVal l
theorem or_up (a b i : Nat) (h : a < 2 ^ i) : a ||| b * 2 ^ i = a + b * 2 ^ i := by
  rw [Nat.or_comm, Nat.mul_comm, ← Nat.two_pow_add_eq_or_of_lt h b, Nat.add_comm]
theorem or32 (a b i : Nat) (h : a < 2 ^ i) (hs : a + b * 2 ^ i < 4294967296) : bits .or .u32 (a : Int) ((b : Int) * ((2 ^ i : Nat) : Int)) = ((a + b * 2 ^ i : Nat) : Int) := by
  rw [show (b : Int) * ((2 ^ i : Nat) : Int) = ((b * 2 ^ i : Nat) : Int) by simp, u32_or_nat _ _ (by omega) (by omega), or_up a b i h]
theorem or64 (a b i : Nat) (h : a < 2 ^ i) (hs : a + b * 2 ^ i < 18446744073709551616) : bits .or .u64 (a : Int) ((b : Int) * ((2 ^ i : Nat) : Int)) = ((a + b * 2 ^ i : Nat) : Int) := by
  rw [show (b : Int) * ((2 ^ i : Nat) : Int) = ((b * 2 ^ i : Nat) : Int) by simp, u64_or_nat _ _ (by omega) (by omega), or_up a b i h]
theorem or4 {b0 b1 b2 b3 : Nat} (h0 : b0 < 256) (h1 : b1 < 256) (h2 : b2 < 256) (h3 : b3 < 256) :
    bits .or .u32 (bits .or .u32 (bits .or .u32 (b0 : Int) ((b1 : Int) * 256)) ((b2 : Int) * 65536)) ((b3 : Int) * 16777216) = ((leVal [b0, b1, b2, b3] : Nat) : Int) := by
  have e1 := or32 b0 b1 8 (by omega) (by omega)
  have e2 := or32 (b0 + b1 * 2 ^ 8) b2 16 (by omega) (by omega)
  have e3 := or32 (b0 + b1 * 2 ^ 8 + b2 * 2 ^ 16) b3 24 (by omega) (by omega)
  rw [show ((2 ^ 8 : Nat) : Int) = 256 from rfl] at e1
  rw [show ((2 ^ 16 : Nat) : Int) = 65536 from rfl] at e2
  rw [show ((2 ^ 24 : Nat) : Int) = 16777216 from rfl] at e3
  rw [e1, e2, e3]
  simp only [leVal]
  congr 1
  omega
theorem four {l : List Nat} (h : l.length = 4) : ∃ b0 b1 b2 b3, l = [b0, b1, b2, b3] := by
  match l, h with
  | [b0, b1, b2, b3], _ => exact ⟨b0, b1, b2, b3, rfl⟩
theorem eight {l : List Nat} (h : l.length = 8) : ∃ b0 b1 b2 b3 b4 b5 b6 b7, l = [b0, b1, b2, b3, b4, b5, b6, b7] := by
  match l, h with
  | [b0, b1, b2, b3, b4, b5, b6, b7], _ => exact ⟨b0, b1, b2, b3, b4, b5, b6, b7, rfl⟩
/-- Numbers of bytes, as bytes. -/
def bytes8 (l : List Nat) : List UInt8 := l.map UInt8.ofNat
theorem By_bytes8 {l : List Nat} (h : ∀ x ∈ l, x < 256) : By l = B (bytes8 l) := by
  simp only [By, B, bytes8, List.map_map]
  refine List.map_congr_left fun x hx => ?_
  have := h x hx
  simp
  omega
/-- 's[lo:lo+m]' of a slice of bytes. -/
def subV (bb lo m c : Nat) : Value := .slice (some ⟨bb, if c = lo then 0 else lo, none⟩) m (c - lo)
theorem subV_reads {w : World} {bb n c lo m : Nat} {bs : List Nat} (h : Reads w 1 (.slice (some ⟨bb, 0, none⟩) n c) n (By bs)) (hm : lo + m ≤ n) (hc : n ≤ c) : Reads w 1 (subV bb lo m c) m (By ((bs.drop lo).take m)) := by
  have h' := h.sub (lo := lo) (m := m) (c' := c - lo) hm
  rw [By_sub, Nat.zero_add] at h'
  unfold subV
  by_cases he : c = lo
  · have hm0 : m = 0 := by omega
    subst hm0
    exact ⟨by simp [By], .inr ⟨_, _, rfl, fun j u hj => by simp [By] at hj⟩⟩
  · rw [if_neg he]; exact h'
/-- A text of some bytes. -/
def txt (l : List Nat) : ByteArray := ⟨(bytes8 l).toArray⟩
theorem str_one (s : ByteArray) : ∀ u ∈ [Value.string s], u.oneCell' = true := by
  intro u hu
  simp at hu
  subst hu; rfl
theorem Keep.setRow (w : World) (g : Nat) (cs : Array Value) : Keep (At g) w (w.setRow g cs) :=
  ⟨rfl, rfl, rfl, by simp [World.setRow], fun k _ hk => setRow_other w g k cs (fun e => hk e)⟩
/-- copy: what is copied lies over the cells of the block. -/
theorem wpList_cp {P : Program} {w : World} {ops : Array Oper} {rest : List Oper} {o : Oper} {a : Act} {Q : Exit → Act → World → Prop} {t e : TypeId} (ht : P.underlying t = some (.slice e)) (hsz : (P.info? e).map (·.size) = some 1) (hgd : o.guard = none) (d s : Operand)
    (ho : o.op = .call { callee := .builtin .copy, args := #[d, s], argTypes := #[t, t] })
    {g off dLen dCap n : Nat} {sv : Value} {cur xs : List Value} {T : TypeId} (hd : a.eval d = .slice (some ⟨g, off, none⟩) dLen dCap) (hs : a.eval s = sv) (hb : Blk w g cur T) (hr : Reads w 1 sv n xs) (hfit : off + min n dLen ≤ cur.length) (h1 : ∀ v ∈ xs, v.oneCell' = true)
    (h : ∀ w', Blk w' g (splice cur off (xs.take (min n dLen))) T → Keep (At g) w w' → wpList P ops Q rest (a.put o.dst (goInt (min n dLen : Nat))) w') : wpList P ops Q (o :: rest) a w := by
  obtain ⟨hl, hv⟩ := hr
  have hxl : (xs.take (min n dLen)).length = min n dLen := by simp; omega
  by_cases h0 : min n dLen = 0
  · have hh := h w (by rw [h0]; simpa [splice] using hb) (Keep.refl _ _)
    rw [h0] at hh
    obtain ⟨sp, sc, rfl⟩ : ∃ sp sc, sv = .slice sp n sc := by
      rcases hv with ⟨rfl, rfl⟩ | ⟨ad, c, rfl, _⟩
      · exact ⟨none, 0, rfl⟩
      · exact ⟨some ad, c, rfl⟩
    exact wpList_copy_nothing hgd d s t t ho e ht hsz (some ⟨g, off, none⟩) sp dLen dCap n sc hd hs h0 hh
  · rcases hv with ⟨rfl, rfl⟩ | ⟨ad, c, rfl, hc⟩
    · simp at h0
    · refine wpList_copy_own hgd d s t t ho e ht hsz g off dLen dCap ad n c hd hs cur.toArray T hb (xs.take (min n dLen)) hxl (fun j v hj => hc j v ?_) (by rw [hxl]; simpa using hfit) (fun v hv => h1 v (List.mem_of_mem_take hv)) ?_
      · have hjl := (List.getElem?_eq_some_iff.1 hj).1
        rw [List.getElem?_take_of_lt (by omega)] at hj
        exact hj
      · rw [hxl]
        refine h _ ?_ (Keep.setRow _ _ _)
        have := setRow_heap w g cur.toArray (splice cur off (xs.take (min n dLen))).toArray T (0, 0) hb
        simpa [splice, hxl, Blk] using this
theorem Reads.keep0 {w w' : World} {size : Nat} {v : Value} {xs : List Value} (h : Reads w size v 0 xs) : Reads w' size v 0 xs := by
  obtain ⟨hl, h | ⟨ad, c, h, _⟩⟩ := h
  · exact ⟨hl, .inl h⟩
  · refine ⟨hl, .inr ⟨ad, c, h, fun j u hj => ?_⟩⟩
    have : xs = [] := List.eq_nil_of_length_eq_zero (by simpa using hl)
    subst this
    cases hj
theorem Reads.keepIf {S : Nat → Prop} {w w' : World} {size : Nat} {v : Value} {n : Nat} {xs : List Value} (h : Reads w size v n xs) (k : Keep S w w') (hs : 0 < n → ∀ g, v.ownBlock = some g → ¬ S g) : Reads w' size v n xs := by
  by_cases h0 : 0 < n
  · exact h.keep k (hs h0)
  · obtain rfl : n = 0 := by omega
    exact h.keep0
/-- Where there is an element the slice's block is there. -/
theorem Reads.blk {w : World} {size : Nat} {v : Value} {n : Nat} {xs : List Value} (h : Reads w size v n xs) (h0 : 0 < n) (hs : 0 < size) : ∀ g, v.ownBlock = some g → g < w.heap.size := by
  intro g hg
  obtain ⟨b, off, c, rfl, hc⟩ := h.at h0 hs
  have hl : 0 < xs.length := by rw [h.1]; exact Nat.mul_pos h0 hs
  have := hc 0 _ (List.getElem?_eq_getElem hl)
  have := World.block_lt_of_cell? w _ this
  simp [Value.ownBlock] at hg
  subst hg
  exact this
theorem Blk.drewN {w : World} {g : Nat} {cs : List Value} {T : TypeId} (h : Blk w g cs T) (n : Nat) : Blk (w.drewN n) g cs T := h.keep ((Keep.refl Non _).drewN n) (fun h => h)
theorem Reads.drewN {w : World} {size : Nat} {v : Value} {n : Nat} {xs : List Value} (h : Reads w size v n xs) (k : Nat) : Reads (w.drewN k) size v n xs := h.keep ((Keep.refl Non _).drewN k) (fun _ _ h => h)
theorem Row.drewN {w : World} {e : TypeId} {size : Nat} {v : Value} {n : Nat} {xs : List Value} (h : Row w e size v n xs) (k : Nat) : Row (w.drewN k) e size v n xs := h.keep ((Keep.refl Non _).drewN k) (fun _ _ h => h)
theorem step_app {P : Program} {w : World} {t e : TypeId} {z : Value} {size bytes : Nat} (T : SliceT P t e z size bytes)
    {ops : Array Oper} {o : Oper} {a : Act} {K : Act → World → Prop} {Q : Exit → Act → World → Prop} {E : Prop} (hgd : o.guard = none) (s x : Operand)
    (ho : o.op = .call { callee := .builtin .append, args := #[s, x], argTypes := #[t, t] })
    {v : Value} {n : Nat} {xs : List Value} (hs : a.eval s = v) (hown : Row w e size v n xs)
    {xv : Value} {m : Nat} {news : List Value} (hx : a.eval x = xv) (hr : Reads w size xv m news) (hm : 0 < m) (h1 : ∀ u ∈ news, u.oneCell' = true)
    (h63 : n + m ≤ maxLen) (hbytes : (n + m) * bytes ≤ 140737488355328)
    (h : ∀ v' w', Row w' e size v' (n + m) (xs ++ news) → Grew w w' v v' → K (a.put o.dst v') w') :
    if Region.wanted o (yielded ops a.tmps) = true then Oper.wp P o a w K Q else E := by
  obtain ⟨i, hi, hz, hsz, hb⟩ := info_parts T.row
  obtain ⟨hl, ⟨rfl, rfl⟩ | ⟨ad, c, rfl, hc⟩⟩ := hr
  · omega
  · have hw : Region.wanted o (yielded ops a.tmps) = true := by simp [Region.wanted, hgd]
    rw [if_pos hw]
    obtain ⟨v', w', hr, h2, h3, _, h5⟩ := run_append_own_at (P := P) w 0 t o.type e i z size bytes T.und hi hz hsz hb T.zs T.pos v n xs hown ad m c news hl hc h1 h63 hbytes (Nat.zero_le _)
    unfold Oper.wp execOp
    simp only [ho, resolve, invoke, builtin, Sem.run_bind, Sem.run_pure, Result.andThen_ok, List.map_toArray, List.map_cons, List.map_nil, hs, hx, hr]
    exact h v' w' h2 ⟨h3, h5⟩
theorem run_append_room_zeros {P : Program} (w : World) (t tn ty e : TypeId) (i : TypeInfo) (z : Value) (k kn : IntKind) (ht : P.underlying t = some (.slice e)) (htn : P.underlying tn = some (.int kn)) (hi : P.info? e = some i) (hz : i.zero = some z) (hsz : i.size = 1) (hz1 : z.cells = #[z]) (ho : z.oneCell' = true)
    (g sLen sCap : Nat) (cur : Array Value) (hg : w.heap[g]? = some (.cells cur e (0, 0))) (m : Nat) (hm : 0 < m) (h63 : (m : Int) ≤ 9223372036854775807) (h48 : m * i.bytes ≤ 281474976710656) (hroom : sLen + m ≤ sCap) (hfit : sLen + m ≤ cur.size) :
    (Builtin.append_ #[t, tn] ty #[.slice (some ⟨g, 0, none⟩) sLen sCap, .int k m]).run P w =
      .ok (.slice (some ⟨g, 0, none⟩) (sLen + m) sCap) (w.setRow g (cur.toList.take sLen ++ List.replicate m z ++ cur.toList.drop (sLen + m)).toArray) := by
  have hw : IntKind.i64.wrap (m : Int) = m := by rw [IntKind.wrap_i64]; omega
  have h48i : ¬ (281474976710656 < (m : Int) * (i.bytes : Int)) := by
    rw [← Int.natCast_mul]; omega
  have hneg : ¬ ((m : Int) < 0) := by omega
  have hzc : Builtin.zeroCells z.cells m = (List.replicate m z).toArray := by
    rw [hz1]
    apply Array.ext'
    simp only [Builtin.zeroCells, List.size_toArray, List.length_cons, List.length_nil]
    apply List.ext_getElem
    · simp
    · intro j h1 h2
      simp [Nat.mod_one]
  have hst := run_storeCells_at P g (sLen * i.size) e (List.replicate m z) 0 cur w hg (by rw [hsz]; simpa using hfit) (by intro u hu; rw [List.eq_of_mem_replicate hu]; exact ho)
  simp only [Nat.add_zero, hsz, Nat.mul_one, List.length_replicate] at hst
  have hm0 : m ≠ 0 := by omega
  simp [Builtin.append_, run_underlying ht, run_underlying htn, sizeOf, typeInfo, zeroValue, hi, hz, asInt, asIntOf, hw, hneg, h48i, hroom, hsz, hm0, hzc, Addr.add_lit, hst]
theorem wpList_appZ {P : Program} {w : World} {t tn e : TypeId} {z : Value} {bytes : Nat} {kn k : IntKind} (T : SliceT P t e z 1 bytes) (htn : P.underlying tn = some (.int kn)) (hz1 : z.cells = #[z]) (ho1 : z.oneCell' = true)
    {ops : Array Oper} {rest : List Oper} {o : Oper} {a : Act} {Q : Exit → Act → World → Prop} (hgd : o.guard = none) (s x : Operand)
    (ho : o.op = .call { callee := .builtin .append, args := #[s, x], argTypes := #[t, tn] })
    {v : Value} {n m : Nat} {xs : List Value} (hs : a.eval s = v) (hown : Row w e 1 v n xs) {mi : Int} (hx : a.eval x = .int k mi) (hmi : mi = (m : Int)) (hm : 0 < m)
    (h63 : n + m ≤ maxLen) (hbytes : (n + m) * bytes ≤ 140737488355328)
    (h : ∀ v' w', Row w' e 1 v' (n + m) (xs ++ List.replicate m z) → Grew w w' v v' → wpList P ops Q rest (a.put o.dst v') w') :
    wpList P ops Q (o :: rest) a w := by
  subst hmi
  obtain ⟨i, hi, hz, hsz, hb⟩ := info_parts T.row
  have h63' : n + m ≤ 9223372036854775807 := by unfold maxLen at h63; omega
  have hmb : m * i.bytes ≤ 281474976710656 := by
    have : m * bytes ≤ (n + m) * bytes := Nat.mul_le_mul_right _ (by omega)
    rw [hb]; omega
  have zc : ∀ m, Builtin.zeroCells z.cells m = (List.replicate m z).toArray := by
    intro m
    rw [hz1]
    apply Array.ext'
    simp only [Builtin.zeroCells, List.size_toArray, List.length_cons, List.length_nil]
    apply List.ext_getElem
    · simp
    · intro j h1 h2
      simp [Nat.mod_one]
  have hxl : xs.length = n := by simpa using hown.1
  -- the new row where it grows
  have grown : ∀ (old : Nat), old < n + m → ∀ (row : Option Nat),
      Row (w.drew.alloc (.cells (xs.toArray ++ (List.replicate m z).toArray ++ (List.replicate (grownCap w (n + m) old e - (n + m)) z).toArray) e)) e 1 (.slice (some ⟨w.heap.size, 0, none⟩) (n + m) (grownCap w (n + m) old e)) (n + m) (xs ++ List.replicate m z) ∧
      w.grownBy (w.drew.alloc (.cells (xs.toArray ++ (List.replicate m z).toArray ++ (List.replicate (grownCap w (n + m) old e - (n + m)) z).toArray) e)) row := by
    intro old ho' row
    have hge := grownCap_ge w (n + m) old e
    have hcm : grownCap w (n + m) old e ≤ maxLen := grownCap_le_maxLen w (n + m) old e h63
    refine ⟨⟨by simp [hxl], .inr ⟨w.heap.size, _, _, rfl, Nat.zero_le _, heap_alloc_new w.drew _, hge, hcm, ?_, ?_⟩⟩, ⟨rfl, rfl, rfl, by simp, fun k hk _ => Below.heap_alloc _ _ _ hk⟩⟩
    · simp [hxl]; omega
    · simp only [Array.toList_append, List.append_assoc, Nat.mul_one]
      rw [← List.append_assoc]
      have : (xs ++ List.replicate m z).length = n + m := by simp [hxl]
      rw [← this]
      exact List.take_left
  have key : ∃ v' w', (Builtin.append_ #[t, tn] o.type #[v, .int k m]).run P w = .ok v' w' ∧ Row w' e 1 v' (n + m) (xs ++ List.replicate m z) ∧ Grew w w' v v' := by
    rcases hown.2 with ⟨rfl, rfl⟩ | ⟨g, cap, cur, rfl, hbg, hg, hnc, hcm, hcs, htake⟩
    · have hx0 : xs = [] := List.eq_nil_of_length_eq_zero hxl
      subst hx0
      have hr := Lib.run_append_nil_zeros (P := P) w t tn o.type e i z k kn T.und htn hi hz m hm (by omega) (by omega) hmb
      rw [zc, zc] at hr
      have hgr := grown 0 (by omega) (Value.ownBlock (.slice none 0 0))
      simp only [Nat.zero_add, List.nil_append, Array.empty_append] at hgr hr ⊢
      exact ⟨_, _, hr, hgr.1, hgr.2, .inr rfl⟩
    · have hcs' : cur.size = cap := by simpa using hcs
      by_cases hroom : n + m ≤ cap
      · have hr := run_append_room_zeros (P := P) w t tn o.type e i z k kn T.und htn hi hz (by omega) hz1 ho1 g n cap cur hg m hm (by omega) hmb hroom (by omega)
        have ht : cur.toList.take n = xs := by simpa using htake
        rw [ht] at hr
        refine ⟨_, _, hr, ⟨by simp [hxl], .inr ⟨g, cap, _, rfl, Nat.zero_le _, setRow_heap w g cur _ e _ hg, hroom, hcm, ?_, ?_⟩⟩, ⟨rfl, rfl, rfl, by simp, fun k _ hk => setRow_other w g k _ (fun e => hk (by simp [Value.ownBlock, e]))⟩, .inl rfl⟩
        · simp [hxl]; omega
        · have : (xs ++ List.replicate m z).length = (n + m) * 1 := by simp [hxl]
          rw [← this]
          exact List.take_left
      · have holds : ∀ j u, xs[j]? = some u → w.cell? ((⟨g, 0, none⟩ : Addr).add j) = some u := World.ownsRow.cells hown (g := g) rfl
        have hfit : Builtin.nextslicecap (n + m) cap * i.bytes ≤ 281474976710656 := growslice_fits (by omega) (by rw [hb]; exact hbytes)
        have hr := Lib.run_append_grow_zeros (P := P) w t tn o.type e i z k kn T.und htn hi hz (some ⟨g, 0, none⟩) n cap xs (run_firstCells_some (P := P) w.drew i.size n ⟨g, 0, none⟩ n cap xs (by rw [hsz]; exact hown.1) (by simpa using holds)) m hm (by omega) (by omega) (by omega) hmb hfit
        rw [zc, zc] at hr
        have hgr := grown cap (by omega) (Value.ownBlock (.slice (some ⟨g, 0, none⟩) n cap))
        exact ⟨_, _, hr, hgr.1, hgr.2, .inr rfl⟩
  obtain ⟨v', w', hr, h2, h3⟩ := key
  refine wpList_plain hgd fun K hK => ?_
  unfold Oper.wp execOp
  simp only [ho, resolve, invoke, builtin, Sem.run_bind, Sem.run_pure, Result.andThen_ok, List.map_toArray, List.map_cons, List.map_nil, hs, hx, hr]
  exact hK _ _ (h v' w' h2 h3)
/-- What stands in a writer: the bytes, and the place. -/
def wcells (v : Value) (p : Nat) : List Value := [v, .int .i64 p]
/-- What writing over bytes makes of them. -/
def wrote (bs : List UInt8) (p : Nat) (ds : List UInt8) : List UInt8 := bs.take p ++ ds ++ bs.drop (p + ds.length)
theorem wrote_length {bs ds : List UInt8} {p : Nat} (hp : p ≤ bs.length) : (wrote bs p ds).length = max bs.length (p + ds.length) := by
  simp [wrote]; omega
/-- The row's whole block. -/
theorem Row.whole {w : World} {e : TypeId} {g n cap : Nat} {xs : List Value} (h : Row w e 1 (.slice (some ⟨g, 0, none⟩) n cap) n xs) : ∃ cur, Blk w g cur e ∧ cur.length = cap ∧ cur.take n = xs ∧ n ≤ cap ∧ cap ≤ maxLen := by
  rcases h.2 with ⟨h', _⟩ | ⟨g', cap', cur, h', _, hg, hnc, hcm, hcs, ht⟩
  · cases h'
  · cases h'
    exact ⟨cur.toList, by simpa [Blk] using hg, by simpa using hcs, by simpa using ht, hnc, hcm⟩
theorem Row.ofWhole {w : World} {e : TypeId} {g n cap : Nat} {cur : List Value} (h : Blk w g cur e) (hl : cur.length = cap) (hn : n ≤ cap) (hc : cap ≤ maxLen) : Row w e 1 (.slice (some ⟨g, 0, none⟩) n cap) n (cur.take n) :=
  ⟨by simp; omega, .inr ⟨g, cap, cur.toArray, rfl, Nat.zero_le _, h, hn, hc, by simpa using hl, by simp⟩⟩
theorem wrote_grow {bs ds : List UInt8} {p m : Nat} (hp : p ≤ bs.length) (hm : bs.length + m = p + ds.length) : (bs ++ List.replicate m 0).take p ++ ds = wrote bs p ds := by
  rw [wrote, List.drop_of_length_le (by omega), List.append_nil, List.take_append_of_le_length hp]
theorem splice_take {cur : List Value} {bs ds : List UInt8} {p : Nat} (ht : cur.take bs.length = B bs) (hl : bs.length ≤ cur.length) (hf : p + ds.length ≤ bs.length) : (splice cur p (B ds)).take bs.length = B (wrote bs p ds) := by
  have e1 : cur.take p = B (bs.take p) := by
    have : cur.take p = (cur.take bs.length).take p := by rw [List.take_take, Nat.min_eq_left (by omega)]
    rw [this, ht]; simp [B]
  have e2 : (cur.drop (p + ds.length)).take (bs.length - (p + ds.length)) = B (bs.drop (p + ds.length)) := by
    rw [← List.drop_take, ht]; simp [B]
  have hl1 : (cur.take p).length = p := by simp; omega
  have hl2 : (B ds).length = ds.length := B_length ds
  have e3 : splice cur p (B ds) = (cur.take p ++ B ds) ++ cur.drop (p + ds.length) := by rw [splice, hl2, List.append_assoc]
  have hl3 : (cur.take p ++ B ds).length = p + ds.length := by rw [List.length_append, hl1, hl2]
  rw [e3, List.take_append, List.take_of_length_le (l := cur.take p ++ B ds) (by omega), hl3, e2, e1]
  simp [wrote, B_append]
theorem wrote_zeros {bs ds : List UInt8} {p m : Nat} (hp : p ≤ bs.length) (hm : bs.length + m = p + ds.length) : wrote (bs ++ List.replicate m 0) p ds = wrote bs p ds := by
  rw [wrote, wrote, List.take_append_of_le_length hp, List.drop_of_length_le (by simp; omega), List.drop_of_length_le (by omega)]
theorem B_zeros (bs : List UInt8) (m : Nat) : B bs ++ List.replicate m (.int .u8 0) = B (bs ++ List.replicate m 0) := by simp [B]
def I64s (l : List Int) : List Value := l.map (.int .i64)
theorem I64s_append (a b : List Int) : I64s (a ++ b) = I64s a ++ I64s b := by simp [I64s]
/-- Writing one more byte. -/
theorem wrote_snoc {out ds : List UInt8} {p j : Nat} (hp : p ≤ out.length) (hj : j < ds.length) :
    wrote out p (ds.take (j + 1)) = if p + j < (wrote out p (ds.take j)).length then (wrote out p (ds.take j)).set (p + j) ds[j] else wrote out p (ds.take j) ++ [ds[j]] := by
  have hl : (ds.take j).length = j := by simp; omega
  have hl1 : (ds.take (j + 1)).length = j + 1 := by simp; omega
  have hw := wrote_length (ds := ds.take j) hp
  rw [hl] at hw
  have hpl : (out.take p ++ ds.take j).length = p + j := by rw [List.length_append, hl]; simp; omega
  split
  · next h =>
    rw [hw] at h
    have hlt : p + j < out.length := by omega
    have e1 : wrote out p (ds.take j) = (out.take p ++ ds.take j) ++ (out[p + j] :: out.drop (p + j + 1)) := by
      rw [wrote, hl, List.drop_eq_getElem_cons hlt]
    rw [e1, List.set_append_right _ _ (by omega), hpl, Nat.sub_self, List.set_cons_zero, wrote, hl1, List.take_succ_eq_append_getElem hj]
    simp only [List.append_assoc, List.cons_append, List.nil_append, Nat.add_assoc]
  · next h =>
    rw [hw] at h
    rw [wrote, wrote, hl, hl1, List.drop_of_length_le (by omega), List.drop_of_length_le (by omega), List.take_succ_eq_append_getElem hj]
    simp
theorem B_set (out : List UInt8) (i : Nat) (x : UInt8) : (B out).set i (.int .u8 (x.toNat : Int)) = B (out.set i x) := by simp [B, List.map_set]
theorem B_one1 (x : UInt8) : [Value.int .u8 (x.toNat : Int)] = B [x] := rfl
theorem Grew.undrew {w w' : World} {v v' : Value} (g : Grew w.drew w' v v') : Grew w w' v v' :=
  ⟨⟨g.grown.os, g.grown.tape, g.grown.output, g.grown.size, g.grown.block⟩, g.loc⟩
theorem Reads.threeAt {w : World} {x y z : Value} {T : TypeId} {g : Nat} (hg : g = w.heap.size) : Reads (w.alloc (.cells #[x, y, z] T)) 3 (.slice (some ⟨g, 0, none⟩) 1 1) 1 [x, y, z] := by
  subst hg
  refine ⟨rfl, .inr ⟨_, 1, rfl, fun j u hj => ?_⟩⟩
  have hb := Blk.new w [x, y, z] T
  rw [addr_add, Nat.zero_add, hb.cell]
  exact hj
theorem I64s_at {l : List Int} {k : Nat} (h : k < l.length) : (I64s l)[k]? = some (.int .i64 l[k]) := by simp [I64s, h]
def nat8 (l : List UInt8) : List Nat := l.map UInt8.toNat
theorem By_nat8 (l : List UInt8) : By (nat8 l) = B l := by simp [By, nat8, B]
theorem nat8_append (a b : List UInt8) : nat8 (a ++ b) = nat8 a ++ nat8 b := by simp [nat8]
theorem nat8_length (a : List UInt8) : (nat8 a).length = a.length := by simp [nat8]
theorem nat8_lt (l : List UInt8) : ∀ x ∈ nat8 l, x < 256 := by
  intro x hx
  simp [nat8] at hx
  obtain ⟨b, _, rfl⟩ := hx
  exact b.toNat_lt
theorem U64_at {l : List Nat} {k : Nat} (h : k < l.length) : (U64 l)[k]? = some (.int .u64 (l[k] : Nat)) := by simp [U64, h]
theorem Ts_at {l : List ByteArray} {k : Nat} (h : k < l.length) : (Ts l)[k]? = some (.string l[k]) := by simp [Ts, h]
theorem Reads.twoAt2 {w : World} {x y : Value} {T : TypeId} {g : Nat} (hg : g = w.heap.size) : Reads (w.alloc (.cells #[x, y] T)) 2 (.slice (some ⟨g, 0, none⟩) 1 1) 1 [x, y] := by
  subst hg; exact Reads.two _ _ _ _
end Go.Proofs.YtbmidlaakbpnlaaDoor
