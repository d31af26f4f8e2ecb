/-
  CONTRACTS of a new decoder of descriptions.
-/
import Derived.Test.YtbmidlaakbpnlaaDoorRm3
import Derived.Test.YtbmidlaakbpnlaaDoorRm4
import Derived.Test.YtbmidlaakbpnlaaDoorKeD
import Derived.Test.YtbmidlaakbpnlaaDoorKd
namespace Go.Proofs.YtbmidlaakbpnlaaDoor
open Go.RowKit
open Go.ChangeShapes Go.WideShapes Go.ChangeAt Go.Deep
open Plain (M64)

theorem cell_of {w : World} {g i : Nat} {cs : List Value} {T : TypeId} {v : Value} (h : Blk w g cs T) (e : cs[i]? = some v) : w.cell? ⟨g, i, none⟩ = some v := by rw [h.cell]; exact e
set_option maxRecDepth 100000 in
set_option maxHeartbeats 2000000 in
theorem decHeader (gD g bb c : Nat) (cs : List Value) (bs r : List UInt8) (len p q m nf nn : Nat) (dig : List UInt8) (w : World) (hR : RR w g bb c 0 bs) (hD : Blk w gD cs 115) (hcs : cs.length = 30) (h0 : cs[0]? = some (.pointer (some ⟨g, 0, none⟩))) (hbs : bs = mhead len p q m dig nf nn ++ r) (hd : dig.length = 16) (hl : bs.length ≤ 1000000) (hbD : bb ≠ gD)
    (h1 : len < 4294967296) (h2 : p < 4294967296) (h3 : q < 4294967296) (h4 : m < 4294967296) (h5 : nf < 4294967296) (h6 : nn < 4294967296) :
    Calls Tryd.prog 42 #[.pointer (some ⟨gD, 0, none⟩)] w (HdrPost gD g bb c cs bs len p q m nn w) := by
  have x0 := cell_of hD h0
  have HR := Lib.hid hR
  have HD := Lib.hid hD
  have HBS := Lib.hid hbs
  clear hR hD hbs
  go_enter Tryd.func42, Tryd.ntmps42
  go_upto_region 1 with (fail)
  go_cut [3] from 4 to 14 (fun v3 wx => v3 = .nilIface ∧ RR wx g bb c 44 bs ∧ (∃ cs', Blk wx gD cs' 115 ∧ HC cs cs' ∧ H4 cs' len p q m ∧ cs'[26]? = some (.int .u32 (nn : Int))) ∧ Keep (fun i => i = g ∨ i = gD) w wx)
  case first =>
    go_region_with (go_at_call 54; go_must (refine (hdrRead gD g bb c cs bs r len p q m nf nn dig _ (HR.out.keep ((Keep.refl Non w).drew) (fun h => h) (fun h => h)) HD.out.drew hcs HBS.out hd hl hbD h1 h2 h3 h4 h5 h6).mono ?_); rintro e w2 ⟨rfl, r2, b2, k2⟩)
    all_goals
      go_wp2_with fail
      go_meet
      case rel => exact ⟨rfl, r2, b2, k2.undrew⟩
  case rest =>
    obtain ⟨rfl, r2, b2, k2⟩ := hcut
    go_wp2
    go_ret
    exact ⟨rfl, r2, b2, k2⟩
/-- A seek that goes well. -/
theorem seekR (g bb c p q : Nat) (n : Int) (bs : List UInt8) (w : World) (hn : n = (q : Int)) (h : RR w g bb c p bs) (hl : bs.length ≤ 1000000) (hp : p ≤ bs.length) (hq : q ≤ bs.length) :
    Calls Tryd.prog 45 #[.pointer (some ⟨g, 0, none⟩), .int .i64 n, .int .i64 0] w fun e w' => e = .returned (.tuple #[.int .i64 q, .nilIface]) ∧ RR w' g bb c q bs ∧ Keep (At g) w w' := by
  subst hn
  refine (seek (some ⟨bb, 0, none⟩) bs.length c g p q 0 w (by decide) h.blk hl hp (by omega) (by omega)).mono ?_
  rintro e w' ⟨at', r, rfl, he, hb, k, ha⟩
  have hT : seekTo 0 p bs.length (q : Int) = (q : Int) := by simp [seekTo]
  rw [hT] at he hb ha
  have hin : 0 ≤ (q : Int) ∧ (q : Int) ≤ (bs.length : Int) := by omega
  rw [decide_eq_true hin] at he
  rw [if_pos hin] at hb
  have e1 : r = .nilIface := he
  rw [e1, ha hin]
  refine ⟨rfl, ⟨by simpa using hb, h.data.keep k (fun b hb' e => ?_), h.cap, h.ne⟩, k⟩
  simp [Value.ownBlock] at hb'
  unfold At at e
  exact h.ne (hb'.trans e)
/-- Behind readStringTable. -/
def TblPost (gD g bb c : Nat) (cs : List Value) (bs : List UInt8) (all : List ByteArray) (w : World) (e : Ending) (w' : World) : Prop :=
  e = .returned .nilIface ∧ ∃ gt p v, RT w' gt g bb c p bs v all ∧ Blk w' gD (cs.set 27 (.pointer (some ⟨gt, 0, none⟩))) 115 ∧ p ≤ bs.length ∧ Keep (fun i => i = g ∨ i = gD) w w'
set_option maxRecDepth 100000 in
set_option maxHeartbeats 2000000 in
theorem decTable (gD g bb c p nn : Nat) (cs : List Value) (bs r : List UInt8) (all : List ByteArray) (w : World) (hR : RR w g bb c p bs) (hD : Blk w gD cs 115) (h0 : cs[0]? = some (.pointer (some ⟨g, 0, none⟩))) (h26 : cs[26]? = some (.int .u32 (nn : Int)))
    (hbs : bs.drop (44 + 4 * nn) = tbytes all ++ r) (hl : bs.length ≤ 1000000) (hp : p ≤ bs.length) (hq : 44 + 4 * nn ≤ bs.length) (hal : all.length ≤ 900) (hsz : ∀ s ∈ all, s.size ≤ 1000) (hbD : bb ≠ gD) (H27 : cs.length = 30) :
    Calls Tryd.prog 43 #[.pointer (some ⟨gD, 0, none⟩)] w (TblPost gD g bb c cs bs all w) := by
  have x0 := cell_of hD h0
  have x26 := cell_of hD h26
  have HR := Lib.hid hR
  have HD := Lib.hid hD
  have HBS := Lib.hid hbs
  have HSZ := Lib.hid hsz
  clear hR hD hbs hsz
  have hcs : 27 < cs.length := by omega
  have f27 := HD.out.free 27
  obtain ⟨v27, hv27⟩ : ∃ v, w.cell? ⟨gD, 27, none⟩ = some v := ⟨cs[27], by rw [HD.out.cell, List.getElem?_eq_getElem hcs]⟩
  go_enter Tryd.func43, Tryd.ntmps43
  go_wp2_with (go_at_call 45; go_must (refine (seekR g bb c p (44 + 4 * nn) _ bs _ (by omega) HR.out hl hp hq).mono ?_); rintro e w2 ⟨rfl, r2, k2⟩; have D2 := HD.out.keep k2 (fun e => HD.out.ne HR.out.blk (by decide) e); have y0 := cell_of D2 h0)
  have R2 := Lib.hid r2
  have HD2 := Lib.hid D2
  have K2 := Lib.hid k2
  have hgD : gD < w2.heap.size := D2.lt
  clear r2 D2 k2 f27 hv27 x0 x26
  obtain ⟨v27, hv27⟩ : ∃ v, cs[27]? = some v := ⟨cs[27], List.getElem?_eq_getElem hcs⟩
  go_wp2_with (go_at_call 55; go_must (refine (rtNew g w2).mono ?_); rintro e w3 ⟨rfl, b3, k3⟩; have D3 := HD2.out.keep k3 (fun h => h); have y1 := cell_of D3 h0; have y27 := cell_of D3 hv27; have f27 := D3.free 27)
  have hT : Hid (RT (w3.setCell ⟨gD, 27, none⟩ (.pointer (some ⟨w2.heap.size, 0, none⟩))) w2.heap.size g bb c (44 + 4 * nn) bs (.slice none 0 0) []) := Lib.hid
    { blk := b3.setOther (show w2.heap.size ≠ gD by omega) _
      rd := (R2.out.keep k3 (fun h => h) (fun h => h)).keep (Keep.one w3 gD 27 _) (fun e => HD2.out.ne R2.out.blk (by decide) (Eq.symm e)) (fun e => hbD e)
      row := World.ownsRow_nil _ 0 _ 1
      ne := by have := R2.out.blk.lt; omega
      nb := by
        have : bb < w2.heap.size := R2.out.data.blk (by omega) (by decide) bb rfl
        omega
      nv := by simp [Value.ownBlock]
      lt := by
        have : bb < w2.heap.size := R2.out.data.blk (by omega) (by decide) bb rfl
        have := k3.size
        have := (Keep.one w3 gD 27 (.pointer (some ⟨w2.heap.size, 0, none⟩))).size
        omega }
  have hB : Hid (Blk (w3.setCell ⟨gD, 27, none⟩ (.pointer (some ⟨w2.heap.size, 0, none⟩))) gD (cs.set 27 (.pointer (some ⟨w2.heap.size, 0, none⟩))) 115) := Lib.hid (D3.set 27 _)
  have hK : Hid (Keep (fun i => i = g ∨ i = gD) w (w3.setCell ⟨gD, 27, none⟩ (.pointer (some ⟨w2.heap.size, 0, none⟩)))) := Lib.hid (Keep.setAt ((K2.out.mono (fun _ _ e => .inl e)).trans k3 (fun _ _ h => h.elim)) _ _ _ (.inr rfl))
  have hgt : w.heap.size ≤ w2.heap.size := K2.out.size
  have hgl : g < w.heap.size := HR.out.blk.lt
  have hDl : gD < w.heap.size := HD.out.lt
  have hgg : gD ≠ g := fun e => HD2.out.ne R2.out.blk (by decide) e
  clear b3 k3 D3 y1 y27
  generalize w2.heap.size = gt at *
  go_wp2_with fail
  refine (rtReadAt gt g bb c (44 + 4 * nn) bs r all _ hT.out hal HSZ.out hl HBS.out).mono ?_
  rintro e w4 ⟨rfl, ⟨p', v, h4, hp'⟩, k4⟩
  have B4 := hB.out.keep k4 (fun e => by rcases e with e | e <;> omega)
  have K4 := hK.out.trans k4 (fun i hi e => by rcases e with e | e; omega; exact .inl e)
  go_wp2
  go_ret
  exact ⟨rfl, gt, p', v, h4, B4, hp', K4⟩
end Go.Proofs.YtbmidlaakbpnlaaDoor
