/-
  THE CONTRACT of a new decoder of descriptions; what it tells.
-/
import Derived.Test.YtbmidlaakbpnlaaDoorRm5
import Derived.Test.YtbmidlaakbpnlaaDoorMe4
namespace Go.Proofs.YtbmidlaakbpnlaaDoor
open Go.RowKit
open Go.ChangeShapes Go.WideShapes Go.ChangeAt Go.Deep
open Plain (M64)

/-- A decoder's cells. -/
structure DCs (cs : List Value) (g gt len P N M nn : Nat) : Prop where
  l : cs.length = 30
  c0 : cs[0]? = some (.pointer (some ⟨g, 0, none⟩))
  h : H4 cs len P N M
  c26 : cs[26]? = some (.int .u32 (nn : Int))
  c27 : cs[27]? = some (.pointer (some ⟨gt, 0, none⟩))
/-- A decoder. -/
structure Dec (w : World) (gD gt g bb c p : Nat) (bs : List UInt8) (v : Value) (all : List ByteArray) (len P N M nn : Nat) : Prop where
  rt : RT w gt g bb c p bs v all
  blk : ∃ cs, Blk w gD cs 115 ∧ DCs cs g gt len P N M nn
  le : p ≤ bs.length
section
variable {w w' : World} {gD gt g bb c p q : Nat} {bs : List UInt8} {v : Value} {all : List ByteArray} {len P N M nn : Nat}
theorem Dec.ne (h : Dec w gD gt g bb c p bs v all len P N M nn) : gD ≠ g := by
  obtain ⟨cs, hb, _⟩ := h.blk
  exact fun e => hb.ne h.rt.rd.blk (by decide) e
theorem Dec.far (h : Dec w gD gt g bb c p bs v all len P N M nn) (k : Keep Non w w') : Dec w' gD gt g bb c p bs v all len P N M nn := by
  obtain ⟨cs, hb, hc⟩ := h.blk
  exact ⟨h.rt.far k, ⟨cs, hb.keep k (fun h => h), hc⟩, h.le⟩
theorem Dec.move (h : Dec w gD gt g bb c p bs v all len P N M nn) (k : Keep (At g) w w') (r : RR w' g bb c q bs) (hq : q ≤ bs.length) : Dec w' gD gt g bb c q bs v all len P N M nn := by
  obtain ⟨cs, hb, hc⟩ := h.blk
  exact ⟨h.rt.move k r, ⟨cs, hb.keep k h.ne, hc⟩, hq⟩
theorem Dec.drew (h : Dec w gD gt g bb c p bs v all len P N M nn) : Dec w.drew gD gt g bb c p bs v all len P N M nn := h.far (Keep.refl _ _).drew
theorem Dec.x0 (h : Dec w gD gt g bb c p bs v all len P N M nn) : w.cell? ⟨gD, 0, none⟩ = some (.pointer (some ⟨g, 0, none⟩)) := by
  obtain ⟨cs, hb, hc⟩ := h.blk
  exact cell_of hb hc.c0
theorem Dec.x1 (h : Dec w gD gt g bb c p bs v all len P N M nn) : w.cell? ⟨gD, 1, none⟩ = some (.int .u32 (len : Int)) := by
  obtain ⟨cs, hb, hc⟩ := h.blk
  exact cell_of hb hc.h.h1
theorem Dec.x2 (h : Dec w gD gt g bb c p bs v all len P N M nn) : w.cell? ⟨gD, 2, none⟩ = some (.int .u32 (N : Int)) := by
  obtain ⟨cs, hb, hc⟩ := h.blk
  exact cell_of hb hc.h.h2
theorem Dec.x3 (h : Dec w gD gt g bb c p bs v all len P N M nn) : w.cell? ⟨gD, 3, none⟩ = some (.int .u32 (P : Int)) := by
  obtain ⟨cs, hb, hc⟩ := h.blk
  exact cell_of hb hc.h.h3
theorem Dec.x4 (h : Dec w gD gt g bb c p bs v all len P N M nn) : w.cell? ⟨gD, 4, none⟩ = some (.int .u32 (M : Int)) := by
  obtain ⟨cs, hb, hc⟩ := h.blk
  exact cell_of hb hc.h.h4
theorem Dec.x26 (h : Dec w gD gt g bb c p bs v all len P N M nn) : w.cell? ⟨gD, 26, none⟩ = some (.int .u32 (nn : Int)) := by
  obtain ⟨cs, hb, hc⟩ := h.blk
  exact cell_of hb hc.c26
theorem Dec.x27 (h : Dec w gD gt g bb c p bs v all len P N M nn) : w.cell? ⟨gD, 27, none⟩ = some (.pointer (some ⟨gt, 0, none⟩)) := by
  obtain ⟨cs, hb, hc⟩ := h.blk
  exact cell_of hb hc.c27
end
/-- What the bytes are. -/
structure DBs (bs : List UInt8) (all : List ByteArray) (len P N M nn : Nat) : Prop where
  head : ∃ dig nf r, bs = mhead len P N M dig nf nn ++ r ∧ dig.length = 16 ∧ nf < 4294967296
  table : ∃ r, bs.drop (44 + 4 * nn) = tbytes all ++ r
  hl : bs.length ≤ 1000000
  at44 : 44 + 4 * nn ≤ bs.length
  all_le : all.length ≤ 900
  text_le : ∀ s ∈ all, s.size ≤ 1000
  l1 : len < 4294967296
  l2 : P < all.length
  l3 : N < all.length
  l4 : M < all.length
/-- The cells of a decoder that has read nothing. -/
def dec0 (g gb : Nat) : List Value := [.pointer (some ⟨g, 0, none⟩), .int .u32 0, .int .u32 0, .int .u32 0, .int .u32 0, .int .u8 0, .int .u8 0, .int .u8 0, .int .u8 0, .int .u8 0, .int .u8 0, .int .u8 0, .int .u8 0, .int .u8 0, .int .u8 0, .int .u8 0, .int .u8 0, .int .u8 0, .int .u8 0, .int .u8 0, .int .u8 0, .int .u8 0, .int .u8 0, .int .u8 0, .int .u8 0, .int .u32 0, .int .u32 0, .pointer none, .slice (some ⟨gb, 0, none⟩) 0 256, .bool false]
/-- Behind New. -/
def DecPost (bb c : Nat) (bs : List UInt8) (all : List ByteArray) (len P N M nn : Nat) (w : World) (e : Ending) (w' : World) : Prop :=
  ∃ gD gt g p v, e = .returned (.tuple #[.pointer (some ⟨gD, 0, none⟩), .nilIface]) ∧ Keep Non w w' ∧ Dec w' gD gt g bb c p bs v all len P N M nn ∧ w.heap.size ≤ g
set_option maxRecDepth 100000 in
set_option maxHeartbeats 4000000 in
theorem newDec (bb c : Nat) (bs : List UInt8) (all : List ByteArray) (len P N M nn : Nat) (w : World) (hs : Reads w 1 (.slice (some ⟨bb, 0, none⟩) bs.length c) bs.length (B bs)) (hc : bs.length ≤ c) (hb : DBs bs all len P N M nn) :
    Calls Tryd.prog 18 #[.slice (some ⟨bb, 0, none⟩) bs.length c, .bool false] w (DecPost bb c bs all len P N M nn w) := by
  have HS := Lib.hid hs
  have HB := Lib.hid hb
  have hbl : bb < w.heap.size := hs.blk (by have := hb.at44; omega) (by decide) bb rfl
  clear hs hb
  go_enter Tryd.func18, Tryd.ntmps18
  go_wp2_with (go_at_call 41; go_must (refine (newReader (some ⟨bb, 0, none⟩) bs.length c w).mono ?_); rintro e w2 ⟨rfl, b2, k2⟩; obtain ⟨wm, mk, rm, km⟩ := makeB w2)
  obtain ⟨W3, hW3⟩ : ∃ W3, W3 = wm.alloc (.cells #[.pointer (some ⟨w.heap.size, 0, none⟩), .int .u32 0, .int .u32 0, .int .u32 0, .int .u32 0, .int .u8 0, .int .u8 0, .int .u8 0, .int .u8 0, .int .u8 0, .int .u8 0, .int .u8 0, .int .u8 0, .int .u8 0, .int .u8 0, .int .u8 0, .int .u8 0, .int .u8 0, .int .u8 0, .int .u8 0, .int .u8 0, .int .u8 0, .int .u8 0, .int .u8 0, .int .u8 0, .int .u32 0, .int .u32 0, .pointer none, .slice (some ⟨w2.heap.size, 0, none⟩) 0 256, .bool false] 115) := ⟨_, rfl⟩
  have hb3 : Blk W3 wm.heap.size (dec0 w.heap.size w2.heap.size) 115 := by rw [hW3]; exact Blk.new wm (dec0 w.heap.size w2.heap.size) _
  have hk3 : Keep Non wm W3 := by rw [hW3]; exact (Keep.refl _ _).alloc _
  have hkA : Keep Non w W3 := (k2.trans' km).trans' hk3
  have hr3 : RR W3 w.heap.size bb c 0 bs := ⟨(b2.keep km (fun h => h)).keep hk3 (fun h => h), HS.out.keep hkA (fun _ _ h => h), hc, by omega⟩
  have s1 := k2.size
  have s2 := km.size
  have s3 := hk3.size
  have s4 := b2.lt
  rw [← hW3]
  have HB3 := Lib.hid hb3
  have HR3 := Lib.hid hr3
  have HKA := Lib.hid hkA
  obtain ⟨dig, nf, r, hbs, hdg, hnf⟩ := HB.out.head
  obtain ⟨r2, htb⟩ := HB.out.table
  have HBS := Lib.hid hbs
  have HTB := Lib.hid htb
  have hl := HB.out.hl
  have h44 := HB.out.at44
  have hal := HB.out.all_le
  have hl1 := HB.out.l1
  have hl2 := HB.out.l2
  have hl3 := HB.out.l3
  have hl4 := HB.out.l4
  clear hb3 hk3 hkA hr3 hbs htb hW3 mk rm km b2 k2
  generalize w2.heap.size = gb at *
  generalize wm.heap.size = gD at *
  obtain ⟨g, hg⟩ : ∃ g, g = w.heap.size := ⟨_, rfl⟩
  rw [← hg] at HB3 HR3 ⊢
  refine (decHeader gD g bb c (dec0 g gb) bs r len P N M nf nn dig W3 HR3.out HB3.out rfl rfl HBS.out hdg hl (by omega) hl1 (by omega) (by omega) (by omega) hnf (by omega)).mono ?_
  rintro e w4 ⟨rfl, r4, ⟨cs4, b4, c4, h4, n4⟩, k4⟩
  have R4 := Lib.hid r4
  have B4 := Lib.hid b4
  have C4 := Lib.hid c4
  have H4' := Lib.hid h4
  have N4 := Lib.hid n4
  have K4 : Hid (Keep Non w w4) := Lib.hid (HKA.out.trans k4 (fun i hi e => by rcases e with e | e <;> omega))
  clear r4 b4 c4 h4 n4 k4
  go_wp2_with fail
  refine (decTable gD g bb c 44 nn cs4 bs r2 all w4 R4.out B4.out (by rw [C4.out.c0]; rfl) N4.out HTB.out hl (by omega) h44 hal HB.out.text_le (by omega) C4.out.len).mono ?_
  rintro e w5 ⟨rfl, gt, p, v, t5, b5, p5, k5⟩
  have D5 : Dec w5 gD gt g bb c p bs v all len P N M nn := ⟨t5, ⟨_, b5, by simp [C4.out.len], by simpa using (by rw [C4.out.c0]; rfl : cs4[0]? = some (.pointer (some ⟨g, 0, none⟩))), ⟨by simpa using H4'.out.h1, by simpa using H4'.out.h2, by simpa using H4'.out.h3, by simpa using H4'.out.h4⟩, by simpa using N4.out, by simp [C4.out.len]⟩, p5⟩
  have K5 : Keep Non w w5 := K4.out.trans k5 (fun i hi e => by rcases e with e | e <;> omega)
  clear t5 b5 k5
  go_wp2
  go_ret2
  exact ⟨gD, gt, g, p, v, rfl, K5, D5, by omega⟩
set_option maxRecDepth 100000 in
theorem decPath (gD gt g bb c p : Nat) (bs : List UInt8) (v : Value) (all : List ByteArray) (len P N M nn : Nat) (s : ByteArray) (w : World) (h : Dec w gD gt g bb c p bs v all len P N M nn) (hl : all.length ≤ 900) (hk : P < all.length) (hs : all[P]? = some s) :
    Calls Tryd.prog 19 #[.pointer (some ⟨gD, 0, none⟩)] w fun e w' => e = .returned (.string s) ∧ ∃ m, w' = w.drewN m := by
  have x1 := h.x3
  have x27 := h.x27
  have H := Lib.hid h
  have HS : Hid (all[P] = s) := Lib.hid (by rw [List.getElem?_eq_getElem hk] at hs; exact Option.some.inj hs)
  clear h hs
  go_enter Tryd.func19, Tryd.ntmps19
  go_wp2
  go_quiet ((go_at_call 44; refine Calls.quiet_of_same (rtGet gt g bb c p bs v all P _ ?_ (by omega) hk); exact H.out.rt.far ((Keep.refl Non w).drewN _)))
  go_wp2
  go_ret
  exact ⟨by rw [HS.out]; rfl, _, rfl⟩
set_option maxRecDepth 100000 in
theorem decName (gD gt g bb c p : Nat) (bs : List UInt8) (v : Value) (all : List ByteArray) (len P N M nn : Nat) (s : ByteArray) (w : World) (h : Dec w gD gt g bb c p bs v all len P N M nn) (hl : all.length ≤ 900) (hk : N < all.length) (hs : all[N]? = some s) :
    Calls Tryd.prog 20 #[.pointer (some ⟨gD, 0, none⟩)] w fun e w' => e = .returned (.string s) ∧ ∃ m, w' = w.drewN m := by
  have x1 := h.x2
  have x27 := h.x27
  have H := Lib.hid h
  have HS : Hid (all[N] = s) := Lib.hid (by rw [List.getElem?_eq_getElem hk] at hs; exact Option.some.inj hs)
  clear h hs
  go_enter Tryd.func20, Tryd.ntmps20
  go_wp2
  go_quiet ((go_at_call 44; refine Calls.quiet_of_same (rtGet gt g bb c p bs v all N _ ?_ (by omega) hk); exact H.out.rt.far ((Keep.refl Non w).drewN _)))
  go_wp2
  go_ret
  exact ⟨by rw [HS.out]; rfl, _, rfl⟩
set_option maxRecDepth 100000 in
theorem decMod (gD gt g bb c p : Nat) (bs : List UInt8) (v : Value) (all : List ByteArray) (len P N M nn : Nat) (s : ByteArray) (w : World) (h : Dec w gD gt g bb c p bs v all len P N M nn) (hl : all.length ≤ 900) (hk : M < all.length) (hs : all[M]? = some s) :
    Calls Tryd.prog 21 #[.pointer (some ⟨gD, 0, none⟩)] w fun e w' => e = .returned (.string s) ∧ ∃ m, w' = w.drewN m := by
  have x1 := h.x4
  have x27 := h.x27
  have H := Lib.hid h
  have HS : Hid (all[M] = s) := Lib.hid (by rw [List.getElem?_eq_getElem hk] at hs; exact Option.some.inj hs)
  clear h hs
  go_enter Tryd.func21, Tryd.ntmps21
  go_wp2
  go_quiet ((go_at_call 44; refine Calls.quiet_of_same (rtGet gt g bb c p bs v all M _ ?_ (by omega) hk); exact H.out.rt.far ((Keep.refl Non w).drewN _)))
  go_wp2
  go_ret
  exact ⟨by rw [HS.out]; rfl, _, rfl⟩
set_option maxRecDepth 100000 in
theorem decNum (gD gt g bb c p : Nat) (bs : List UInt8) (v : Value) (all : List ByteArray) (len P N M nn : Nat) (w : World) (h : Dec w gD gt g bb c p bs v all len P N M nn) :
    Calls Tryd.prog 22 #[.pointer (some ⟨gD, 0, none⟩)] w fun e w' => e = .returned (.int .u32 nn) ∧ w' = w := by
  have x26 := h.x26
  clear h
  go_enter Tryd.func22, Tryd.ntmps22
  go_wp2
  go_ret
  exact ⟨rfl, rfl⟩
end Go.Proofs.YtbmidlaakbpnlaaDoor
