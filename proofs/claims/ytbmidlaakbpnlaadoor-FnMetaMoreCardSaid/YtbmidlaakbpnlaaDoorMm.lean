/-
  THE LAW FnMetaMore, of a package and a function that read as descriptions.
-/
import Derived.Test.YtbmidlaakbpnlaaDoorMl
namespace Go.Proofs.YtbmidlaakbpnlaaDoor
open Go.RowKit
open Go.Joins Go.ChangeShapes Go.WideShapes Go.ChangeAt Go.Deep
open Plain (M64)

section
variable {H : Type} {enc : TypeId × Value → H} {P : Program} {w : World} {base : Nat} {spare : Nat → Bool} {held : Bool}
theorem desc_open {t : TypeId} {f0 f1 f2 f3 : Field} {g0 g1 g2 g3 g4 : Field} {eu : TypeId} {r : Reach} {b0 : Nat} {v : Value} {d : DataW H} {ps : List MemPlace} (hs : P.underlying t = some (.struct #[f0, f1, f2, f3])) (hone : oneCellFields P #[f0, f1, f2, f3] = true) (hC : P.cellsOf t = 4)
    (h0 : P.underlying f0.type = some .string) (h1 : P.underlying f1.type = some .string) (h2 : P.underlying f2.type = some (.slice eu)) (h3 : P.underlying f3.type = some .bool) (heu : P.underlying eu = some (.struct #[g0, g1, g2, g3, g4])) (honeu : oneCellFields P #[g0, g1, g2, g3, g4] = true) (hCu : P.cellsOf eu = 5)
    (u0 : P.underlying g0.type = some (.int .u32)) (u1 : P.underlying g1.type = some (.int .u32)) (u2 : P.underlying g2.type = some (.int .u32)) (u3 : P.underlying g3.type = some (.int .u32)) (u4 : P.underlying g4.type = some (.int .u32))
    (hv : Value.okWide P w r b0 t v) (h : DataW.Trod enc P w base spare held t v d ps) :
    ∃ (d : Dsc) (uv : Value), v = .agg #[.string d.name, .string d.file, uv, .bool d.lit] ∧ Reads w 5 uv d.units.length (d.units.flatMap Ut.cells) ∧ d.wide := by
  obtain ⟨c0, c1, c2, c3, y0, y1, y2, y3, n, rfl, _, _, t0, t1, t2, t3⟩ := open_agg4 hs hone hC hv h
  obtain ⟨s0, e0, _, z0⟩ := DataW.trod_string h0 t0
  obtain ⟨s1, e1, _, z1⟩ := DataW.trod_string h1 t1
  obtain ⟨a2, l2, k2, rfl, t2'⟩ := slice_cell h2 t2
  obtain ⟨x3, e3, _⟩ := DataW.trod_bool h3 t3
  simp only [List.cons.injEq, and_true] at e0 e1 e3
  subst e0; subst e1; subst e3
  obtain ⟨us, hul, hur, huf⟩ := units_open h2 heu honeu hCu u0 u1 u2 u3 u4 t2'
  have hu2 := slice_len h2 t2'
  subst hul
  exact ⟨⟨s0, s1, us, x3⟩, _, rfl, hur, huf, z0, z1, hu2⟩
end
set_option maxRecDepth 100000 in
theorem descOpenT {H : Type} {enc : TypeId × Value → H} {w : World} {base : Nat} {v : Value} {d : DataW H} {ps : List MemPlace} (hv : Value.okWide Tryd.prog w .any base 40 v) (h : DataW.Trod enc Tryd.prog w 0 (fun _ => true) true 40 v d ps) :
    ∃ (d : Dsc) (uv : Value), v = .agg #[.string d.name, .string d.file, uv, .bool d.lit] ∧ Reads w 5 uv d.units.length (d.units.flatMap Ut.cells) ∧ d.wide :=
  desc_open (P := Tryd.prog) Tryd.underlying40 (by kernel_rfl) (by kernel_rfl) Tryd.underlying9 Tryd.underlying9 Tryd.underlying38 Tryd.underlying4 Tryd.underlying49 (by kernel_rfl) (by kernel_rfl) Tryd.underlying47 Tryd.underlying47 Tryd.underlying47 Tryd.underlying47 Tryd.underlying47 hv h
/-- A function more. -/
def Pkg.more (p : Pkg) (d : Dsc) (uv : Value) : Pkg := ⟨p.path, p.name, p.mod, p.ds ++ [(d, uv)]⟩
theorem Pkg.more_wide {p : Pkg} {d : Dsc} {uv : Value} (hw : p.wide) (hd : d.wide) (hl : p.ds.length + 1 ≤ maxLen) : (p.more d uv).wide := by
  obtain ⟨h1, h2, h3, h4, h5⟩ := hw
  refine ⟨h1, h2, h3, by simp [Pkg.more]; exact hl, fun x hx => ?_⟩
  simp [Pkg.more] at hx
  rcases hx with hx | rfl
  · exact h5 x hx
  · exact hd
theorem Pkg.more_fits {p : Pkg} {d : Dsc} {uv : Value} (hf : p.fits) (hd : d.fits) : (p.more d uv).fitsW := by
  obtain ⟨h1, h2⟩ := hf
  refine ⟨by simp [Pkg.more]; omega, fun x hx => ?_⟩
  simp [Pkg.more] at hx
  rcases hx with hx | rfl
  · exact h2 x hx
  · exact hd
/-- A step that appends, be it nothing. -/
theorem step_app0 {P : Program} {w : World} {t e : TypeId} {z : Value} {size bytes : Nat} (T : SliceT P t e z size bytes)
    {ops : Array Oper} {o : Oper} {a : Act} {K : Act → World → Prop} {Q : Exit → Act → World → Prop} {E : Prop} (hgd : o.guard = none) (s x : Operand)
    (ho : o.op = .call { callee := .builtin .append, args := #[s, x], argTypes := #[t, t] })
    {v : Value} {n : Nat} {xs : List Value} (hs : a.eval s = v) (hown : Row w e size v n xs)
    {xv : Value} {m : Nat} {news : List Value} (hx : a.eval x = xv) (hr : Reads w size xv m news) (h1 : ∀ u ∈ news, u.oneCell' = true)
    (h63 : n + m ≤ maxLen) (hbytes : (n + m) * bytes ≤ 140737488355328)
    (h : ∀ v' w', Row w' e size v' (n + m) (xs ++ news) → Grew w w' v v' → K (a.put o.dst v') w') :
    if Region.wanted o (yielded ops a.tmps) = true then Oper.wp P o a w K Q else E := by
  by_cases hm : 0 < m
  · exact step_app T hgd s x ho hs hown hx hr hm h1 h63 hbytes h
  · obtain rfl : m = 0 := by omega
    obtain ⟨i, hi, hz, hsz, hb⟩ := info_parts T.row
    obtain ⟨hl, ⟨rfl, _⟩ | ⟨ad, c, rfl, hc⟩⟩ := hr
    · have hn : news = [] := List.eq_nil_of_length_eq_zero (by simpa using hl)
      subst hn
      have hw : Region.wanted o (yielded ops a.tmps) = true := by simp [Region.wanted, hgd]
      rw [if_pos hw]
      have hrun := run_append_owned_none (P := P) (w := w) 0 t o.type e i size T.und hi v n xs hown
      unfold Oper.wp execOp
      simp only [ho, resolve, invoke, builtin, Sem.run_bind, Sem.run_pure, Result.andThen_ok, List.map_toArray, List.map_cons, List.map_nil, hs, hx, hrun]
      exact h v w (by simpa using hown) ⟨World.grownBy.refl _ _, .inl rfl⟩
    · have hw : Region.wanted o (yielded ops a.tmps) = true := by simp [Region.wanted, hgd]
      rw [if_pos hw]
      obtain ⟨v', w', hr, h2, h3, _, h5⟩ := run_append_own_at (P := P) w 0 t o.type e i z size bytes T.und hi hz hsz hb T.zs T.pos v n xs hown ad 0 c news hl hc h1 h63 hbytes (Nat.zero_le _)
      unfold Oper.wp execOp
      simp only [ho, resolve, invoke, builtin, Sem.run_bind, Sem.run_pure, Result.andThen_ok, List.map_toArray, List.map_cons, List.map_nil, hs, hx, hr]
      exact h v' w' h2 ⟨h3, h5⟩
/-- The first functions of a slice of them. -/
theorem DescR.take {w : World} {ad : Addr} {c : Nat} {L : List (Dsc × Value)} (h : DescR w (.slice (some ad) L.length c) L) {n : Nat} (hn : n ≤ L.length) : DescR w (.slice (some ad) n c) (L.take n) := by
  refine ⟨?_, fun x hx => h.units x (List.mem_of_mem_take hx)⟩
  have hr := h.reads
  obtain ⟨hl, ⟨h1, _⟩ | ⟨ad', c', h1, hc⟩⟩ := hr
  · simp at h1
  · simp only [Value.slice.injEq, Option.some.injEq, true_and] at h1
    obtain ⟨rfl, rfl⟩ := h1
    have hln : (L.take n).length = n := by simp; omega
    rw [hln]
    refine ⟨?_, .inr ⟨_, _, rfl, fun j u hj => hc j u ?_⟩⟩
    · have := flat_length dl4_length (L.take n)
      rw [hln] at this; exact this
    · rw [← List.take_append_drop n L, List.flatMap_append, List.getElem?_append_left (List.getElem?_eq_some_iff.1 hj).1]
      exact hj
set_option maxRecDepth 100000 in
set_option maxHeartbeats 8000000 in
theorem more_law (p : Pkg) (fv : Value) (d : Dsc) (uv : Value) (w : World) (h : DescR w fv p.ds) (hw : p.wide) (hu : Reads w 5 uv d.units.length (d.units.flatMap Ut.cells)) (hd : d.wide) :
    Calls Tryd.prog 4 #[.agg #[.string p.path, .string p.name, .string p.mod, fv], .agg #[.string d.name, .string d.file, uv, .bool d.lit]] w fun e w' => e = .returned (.bool true) ∧ Below w.heap.size w w' := by
  obtain ⟨fa, fc, rfl⟩ := h.reads.slice
  obtain ⟨ua, uc, rfl⟩ := hu.slice
  obtain ⟨W1, hW1⟩ : ∃ W1, W1 = (w.alloc (.cells #[.string p.path, .string p.name, .string p.mod, .slice fa p.ds.length fc] 24)).alloc (.cells #[.string d.name, .string d.file, .slice ua d.units.length uc, .bool d.lit] 40) := ⟨_, rfl⟩
  have hk1 : Keep Non w W1 := by rw [hW1]; exact ((Keep.refl _ _).alloc _).alloc _
  have hb1 : Blk W1 w.heap.size [.string p.path, .string p.name, .string p.mod, .slice fa p.ds.length fc] 24 := by rw [hW1]; exact (Blk.new w [.string p.path, .string p.name, .string p.mod, .slice fa p.ds.length fc] _).alloc _
  have hb2 : Blk W1 (w.heap.size + 1) [.string d.name, .string d.file, .slice ua d.units.length uc, .bool d.lit] 40 := by
    have := Blk.new (w.alloc (.cells #[.string p.path, .string p.name, .string p.mod, .slice fa p.ds.length fc] 24)) [.string d.name, .string d.file, .slice ua d.units.length uc, .bool d.lit] 40
    rw [hW1]
    simpa using this
  have HK1 := Lib.hid hk1
  have HB1 := Lib.hid hb1
  have HE1 := Lib.hid hb2
  have HH := Lib.hid h
  have HU := Lib.hid hu
  have HW := Lib.hid hw
  have HD := Lib.hid hd
  have x0 : W1.cell? ⟨w.heap.size, 0, none⟩ = some (.string p.path) := by rw [hb1.cell]; rfl
  have x1 : W1.cell? ⟨w.heap.size, 1, none⟩ = some (.string p.name) := by rw [hb1.cell]; rfl
  have x2 : W1.cell? ⟨w.heap.size, 2, none⟩ = some (.string p.mod) := by rw [hb1.cell]; rfl
  have x3 : W1.cell? ⟨w.heap.size, 3, none⟩ = some (.slice fa p.ds.length fc) := by rw [hb1.cell]; rfl
  clear h hu hk1 hb1 hb2 hw hd
  go_enter Tryd.func4, Tryd.ntmps4
  go_upto_region 1 with (fail)
  rw [← hW1]
  clear hW1
  obtain ⟨gp, hgp⟩ : ∃ g, g = w.heap.size := ⟨_, rfl⟩
  obtain ⟨gd, hgd⟩ : ∃ g, g = w.heap.size + 1 := ⟨_, rfl⟩
  rw [← hgd] at HE1 ⊢
  rw [← hgp] at HB1 x0 x1 x2 x3 ⊢
  have HGP := Lib.hid hgp
  clear hgp hgd
  go_wp2_with fail
  refine (fits8 p _ W1 (HH.out.far HK1.out) HW.out).mono ?_
  rintro e w2 ⟨ok1, rfl, k2, hok1⟩
  have HK2 := Lib.hid (HK1.out.trans' k2)
  have HB2 := Lib.hid (HB1.out.keep k2 (fun h => h))
  have HE2 := Lib.hid (HE1.out.keep k2 (fun h => h))
  clear x0 x1 x2 x3
  cases ok1 with
  | false =>
    clear hok1 k2
    go_wp2
    go_ret
    exact ⟨rfl, HK2.out.below (by have := HGP.out; omega) (fun _ _ h => h.elim)⟩
  | true =>
    have HF := Lib.hid (hok1 rfl)
    have y0 : w2.cell? ⟨gd, 0, none⟩ = some (.string d.name) := by rw [HE2.out.cell]; rfl
    have y1 : w2.cell? ⟨gd, 1, none⟩ = some (.string d.file) := by rw [HE2.out.cell]; rfl
    have y2 : w2.cell? ⟨gd, 2, none⟩ = some (.slice ua d.units.length uc) := by rw [HE2.out.cell]; rfl
    have y3 : w2.cell? ⟨gd, 3, none⟩ = some (.bool d.lit) := by rw [HE2.out.cell]; rfl
    clear hok1 k2
    go_wp2_with fail
    refine (fits10 d _ w2 (HU.out.keep HK2.out (fun _ _ h => h)) HD.out).mono ?_
    rintro e w3 ⟨ok2, rfl, k3, hok2⟩
    have HK3 := Lib.hid (HK2.out.trans' k3)
    have HB3 := Lib.hid (HB2.out.keep k3 (fun h => h))
    have HE3 := Lib.hid (HE2.out.keep k3 (fun h => h))
    clear y0 y1 y2 y3
    cases ok2 with
    | false =>
      clear hok2 k3
      go_wp2
      go_ret
      exact ⟨rfl, HK3.out.below (by have := HGP.out; omega) (fun _ _ h => h.elim)⟩
    | true =>
      have HFD := Lib.hid (hok2 rfl)
      clear hok2 k3
      obtain ⟨W4, hW4⟩ : ∃ W4, W4 = w3.alloc (.cells #[.string p.path, .string p.name, .string p.mod, .slice fa p.ds.length fc] 24) := ⟨_, rfl⟩
      have hk4 : Keep Non w3 W4 := by rw [hW4]; exact (Keep.refl _ _).alloc _
      have hm4 : Blk W4 w3.heap.size [.string p.path, .string p.name, .string p.mod, .slice fa p.ds.length fc] 24 := by rw [hW4]; exact Blk.new w3 [.string p.path, .string p.name, .string p.mod, .slice fa p.ds.length fc] _
      have HK34 := Lib.hid hk4
      have HK4 := Lib.hid (HK3.out.trans' hk4)
      have HB4 := Lib.hid (HB3.out.keep hk4 (fun h => h))
      have HE4 := Lib.hid (HE3.out.keep hk4 (fun h => h))
      have HM4 := Lib.hid hm4
      have x0 : w3.cell? ⟨gp, 0, none⟩ = some (.string p.path) := by rw [HB3.out.cell]; rfl
      have x1 : w3.cell? ⟨gp, 1, none⟩ = some (.string p.name) := by rw [HB3.out.cell]; rfl
      have x2 : w3.cell? ⟨gp, 2, none⟩ = some (.string p.mod) := by rw [HB3.out.cell]; rfl
      have x3 : w3.cell? ⟨gp, 3, none⟩ = some (.slice fa p.ds.length fc) := by rw [HB3.out.cell]; rfl
      clear hk4 hm4
      go_upto_region 4 with (fail)
      rw [← hW4]
      clear hW4 x0 x1 x2 x3
      obtain ⟨gm, hgm⟩ : ∃ g, g = w3.heap.size := ⟨_, rfl⟩
      rw [← hgm] at HM4 ⊢
      have HGM : Hid (w.heap.size ≤ gm) := Lib.hid (by have := HK3.out.size; omega)
      have HGE := Lib.hid hgm
      have hnp : ¬ gp = gm := fun e => by have := HB3.out.lt; omega
      have hnd : ¬ gd = gm := fun e => by have := HE3.out.lt; omega
      clear hgm
      have x3 : W4.cell? ⟨gp, 3, none⟩ = some (.slice fa p.ds.length fc) := by rw [HB4.out.cell]; rfl
      have y0 : W4.cell? ⟨gd, 0, none⟩ = some (.string d.name) := by rw [HE4.out.cell]; rfl
      have y1 : W4.cell? ⟨gd, 1, none⟩ = some (.string d.file) := by rw [HE4.out.cell]; rfl
      have y2 : W4.cell? ⟨gd, 2, none⟩ = some (.slice ua d.units.length uc) := by rw [HE4.out.cell]; rfl
      have y3 : W4.cell? ⟨gd, 3, none⟩ = some (.bool d.lit) := by rw [HE4.out.cell]; rfl
      have HR4 := Lib.hid (HH.out.far HK4.out).reads
      have hl1 : p.ds.length ≤ 2147483647 := HF.out.1
      have HONE : Hid (∀ u ∈ p.ds.flatMap dl4, u.oneCell' = true) := Lib.hid (fun u hu => by
        obtain ⟨x, hx, hux⟩ := List.mem_flatMap.1 hu
        obtain ⟨a2, c2, e2⟩ := (HH.out.units x hx).slice
        obtain ⟨d2, v2⟩ := x
        simp only at e2
        subst e2
        exact d_one d2 a2 d2.units.length c2 u hux)
      have HDO : Hid (∀ u ∈ dl4 (d, .slice ua d.units.length uc), u.oneCell' = true) := Lib.hid (d_one d ua d.units.length uc)
      have RA3 : Hid (Row ((W4.drew.alloc (.cells #[.string d.name, .string d.file, .slice ua d.units.length uc, .bool d.lit] 40)).alloc (.cells #[] 40)) 40 4 (.slice (some ⟨W4.heap.size + 1, 0, none⟩) 0 0) 0 []) := Lib.hid (by
        have := Row.lit (W4.drew.alloc (.cells #[.string d.name, .string d.file, .slice ua d.units.length uc, .bool d.lit] 40)) 40 4 [] 0 (by decide) rfl
        simpa using this)
      have DA2 : Hid (Reads ((W4.drew.alloc (.cells #[] 40)).alloc (.cells #[.string d.name, .string d.file, .slice ua d.units.length uc, .bool d.lit] 40)) 4 (.slice (some ⟨W4.heap.size + 1, 0, none⟩) 1 1) 1 (dl4 (d, .slice ua d.units.length uc))) := Lib.hid (Reads.fourAt (by simp))
      have DA3 : Hid (Reads ((W4.drew.alloc (.cells #[.string d.name, .string d.file, .slice ua d.units.length uc, .bool d.lit] 40)).alloc (.cells #[] 40)) 4 (.slice (some ⟨W4.heap.size, 0, none⟩) 1 1) 1 (dl4 (d, .slice ua d.units.length uc))) := Lib.hid ((Reads.fourAt (by simp)).alloc _)
      have h63 : 0 + p.ds.length ≤ maxLen := by unfold maxLen; omega
      have h64 : (0 + p.ds.length) * 64 ≤ 140737488355328 := by omega
      have h65 : p.ds.length + 1 ≤ maxLen := by unfold maxLen; omega
      have h66 : (p.ds.length + 1) * 64 ≤ 140737488355328 := by omega
      go_cut [] from 20 to 27 (fun wx => ∃ v6, Blk wx gm [.string p.path, .string p.name, .string p.mod, v6] 24 ∧ Reads wx 4 v6 (p.ds.length + 1) (p.ds.flatMap dl4 ++ dl4 (d, .slice ua d.units.length uc)) ∧ Keep (At gm) W4 wx)
      case first =>
        go_region_held3 (fun w' => w'.cell? ⟨gp, 3, none⟩ = some (.slice fa p.ds.length fc) ∧ w'.cell? ⟨gd, 0, none⟩ = some (.string d.name) ∧ w'.cell? ⟨gd, 1, none⟩ = some (.string d.file) ∧ w'.cell? ⟨gd, 2, none⟩ = some (.slice ua d.units.length uc) ∧ w'.cell? ⟨gd, 3, none⟩ = some (.bool d.lit))
          (first
            | exact ⟨x3, y0, y1, y2, y3⟩
            | exact ⟨(Keep.one w6 gm 3 _).cell x3 (fun e => hnp e), (Keep.one w6 gm 3 _).cell y0 (fun e => hnd e), (Keep.one w6 gm 3 _).cell y1 (fun e => hnd e), (Keep.one w6 gm 3 _).cell y2 (fun e => hnd e), (Keep.one w6 gm 3 _).cell y3 (fun e => hnd e)⟩
            | exact ⟨kk.out.cell x3 (fun h => h), kk.out.cell y0 (fun h => h), kk.out.cell y1 (fun h => h), kk.out.cell y2 (fun h => h), kk.out.cell y3 (fun h => h)⟩
            | go_keep)
          (first
            | (refine step_app (n := p.ds.length) (xs := p.ds.flatMap dl4) (m := 1) (news := dl4 (d, .slice ua d.units.length uc)) sliceID rfl _ _ rfl rfl R5.out rfl DD5.out (by decide) HDO.out h65 h66 ?_; intro v6 w6 r6 g6; have kk6 := Lib.hid (Keep.trans (S := Non) kk.out g6.keep (fun i hi e => by have := n5.out i e; omega)); clear kk; have kk := kk6; have M6 := Lib.hid (HM4.out.keep kk6.out (fun h => h)); have q3 : w6.cell? ⟨gm, 3, none⟩ = some (.slice fa p.ds.length fc) := (by rw [M6.out.cell]; rfl); have f3 := M6.out.free 3; obtain ⟨va, vc, rfl⟩ := r6.reads.slice; have x3 := kk6.out.cell x3 (fun h => h); have y0 := kk6.out.cell y0 (fun h => h); have y1 := kk6.out.cell y1 (fun h => h); have y2 := kk6.out.cell y2 (fun h => h); have y3 := kk6.out.cell y3 (fun h => h))
            | (refine step_app (n := p.ds.length) (xs := p.ds.flatMap dl4) (m := 1) (news := dl4 (d, .slice ua d.units.length uc)) sliceID rfl _ _ rfl rfl (R5.out.alloc (.cells #[.string d.name, .string d.file, .slice ua d.units.length uc, .bool d.lit] 40)) rfl (Reads.fourAt (by simp)) (by decide) HDO.out h65 h66 ?_; intro v6 w6 r6 g6; have kk6 := Lib.hid (Keep.trans (S := Non) (kk.out.alloc (.cells #[.string d.name, .string d.file, .slice ua d.units.length uc, .bool d.lit] 40)) g6.keep (fun i hi e => by have := n5.out i e; omega)); clear kk; have kk := kk6; have M6 := Lib.hid (HM4.out.keep kk6.out (fun h => h)); have q3 : w6.cell? ⟨gm, 3, none⟩ = some (.slice fa p.ds.length fc) := (by rw [M6.out.cell]; rfl); have f3 := M6.out.free 3; obtain ⟨va, vc, rfl⟩ := r6.reads.slice; have x3 := kk6.out.cell x3 (fun h => h); have y0 := kk6.out.cell y0 (fun h => h); have y1 := kk6.out.cell y1 (fun h => h); have y2 := kk6.out.cell y2 (fun h => h); have y3 := kk6.out.cell y3 (fun h => h))
            | (refine step_app0 (n := 0) (xs := []) (m := p.ds.length) (news := p.ds.flatMap dl4) sliceID rfl _ _ rfl rfl (Row.lit W4.drew 40 4 [] 0 (by decide) rfl) rfl (HR4.out.drew.alloc (.cells #[] 40)) HONE.out h63 h64 ?_; intro v5 w5 r5 g5; rw [Nat.zero_add, List.nil_append] at r5; have R5 := Lib.hid r5; have kk := Lib.hid (Keep.trans (S := Non) ((Keep.refl Non W4).drew.alloc (.cells #[] 40)) g5.keep (fun i hi e => by simp [Own, Value.ownBlock, Act.eval] at e; omega)); have n5 : Hid (∀ b, v5.ownBlock = some b → W4.heap.size ≤ b) := Lib.hid (fun b hb => by rcases g5.lies hb with e | e <;> (simp [Value.ownBlock, Act.eval] at e; omega)))
            | (refine step_app0 (n := 0) (xs := []) (m := p.ds.length) (news := p.ds.flatMap dl4) sliceID rfl _ _ rfl rfl ((Row.lit W4.drew 40 4 [] 0 (by decide) rfl).alloc (.cells #[.string d.name, .string d.file, .slice ua d.units.length uc, .bool d.lit] 40)) rfl ((HR4.out.drew.alloc (.cells #[] 40)).alloc (.cells #[.string d.name, .string d.file, .slice ua d.units.length uc, .bool d.lit] 40)) HONE.out h63 h64 ?_; intro v5 w5 r5 g5; rw [Nat.zero_add, List.nil_append] at r5; have R5 := Lib.hid r5; have kk := Lib.hid (Keep.trans (S := Non) (((Keep.refl Non W4).drew.alloc (.cells #[] 40)).alloc (.cells #[.string d.name, .string d.file, .slice ua d.units.length uc, .bool d.lit] 40)) g5.keep (fun i hi e => by simp [Own, Value.ownBlock, Act.eval] at e; omega)); have n5 : Hid (∀ b, v5.ownBlock = some b → W4.heap.size ≤ b) := Lib.hid (fun b hb => by rcases g5.lies hb with e | e <;> (simp [Value.ownBlock, Act.eval] at e; omega)); have DD5 := Lib.hid (DA2.out.keep g5.keep (fun b hb e => by simp [Own, Value.ownBlock, Act.eval] at e hb; omega)))
            | (refine step_app0 (n := 0) (xs := []) (m := p.ds.length) (news := p.ds.flatMap dl4) sliceID rfl _ _ rfl rfl RA3.out rfl ((HR4.out.drew.alloc (.cells #[.string d.name, .string d.file, .slice ua d.units.length uc, .bool d.lit] 40)).alloc (.cells #[] 40)) HONE.out h63 h64 ?_; intro v5 w5 r5 g5; rw [Nat.zero_add, List.nil_append] at r5; have R5 := Lib.hid r5; have kk := Lib.hid (Keep.trans (S := Non) (((Keep.refl Non W4).drew.alloc (.cells #[.string d.name, .string d.file, .slice ua d.units.length uc, .bool d.lit] 40)).alloc (.cells #[] 40)) g5.keep (fun i hi e => by simp [Own, Value.ownBlock, Act.eval] at e; omega)); have n5 : Hid (∀ b, v5.ownBlock = some b → W4.heap.size ≤ b) := Lib.hid (fun b hb => by rcases g5.lies hb with e | e <;> (simp [Value.ownBlock, Act.eval] at e; omega)); have DD5 := Lib.hid (DA3.out.keep g5.keep (fun b hb e => by simp [Own, Value.ownBlock, Act.eval] at e hb; omega))))
        all_goals
          go_wp2_with fail
          go_meet
          case rel =>
            refine ⟨_, M6.out.set 3 (.slice va (p.ds.length + 1) vc), r6.reads.keep (Keep.one w6 gm 3 _) (fun b hb e => r6.neBlk M6.out (by decide) (by rw [hb]; exact congrArg some e)), ?_⟩
            exact (kk.out.mono (fun _ _ h => h.elim)).setAt _ _ _ (atSelf _)
      case rest =>
        obtain ⟨v6, hm6, hr6, hk6⟩ := hcut
        have hkN : Keep Non w3 wc := HK34.out.trans hk6 (fun i hi e => by have e : i = gm := e; have := HGE.out; omega)
        have hu3 := HU.out.keep (HK3.out.trans' hkN) (fun _ _ h => h)
        have hh3 := HH.out.far (HK3.out.trans' hkN)
        have hdm : DescR wc v6 (p.more d (.slice ua d.units.length uc)).ds := by
          refine ⟨by simpa [Pkg.more, dl4] using hr6, fun x hx => ?_⟩
          simp only [Pkg.more, List.mem_append, List.mem_singleton] at hx
          rcases hx with hx | rfl
          · exact hh3.units x hx
          · exact hu3
        have hwm : (p.more d (.slice ua d.units.length uc)).wide := Pkg.more_wide HW.out HD.out (by unfold maxLen; omega)
        have hfm : (p.more d (.slice ua d.units.length uc)).fitsW := Pkg.more_fits HF.out HFD.out
        have hql : (p.more d (.slice ua d.units.length uc)).ds.length = p.ds.length + 1 := by simp [Pkg.more]
        have HQD : Hid ((p.more d (.slice ua d.units.length uc)).ds.map (·.1) = p.ds.map (·.1) ++ [d]) := Lib.hid (by simp [Pkg.more])
        have e1 : (p.more d (.slice ua d.units.length uc)).path = p.path := rfl
        have e2 : (p.more d (.slice ua d.units.length uc)).name = p.name := rfl
        have e3 : (p.more d (.slice ua d.units.length uc)).mod = p.mod := rfl
        generalize p.more d (.slice ua d.units.length uc) = q at *
        have HM6 := Lib.hid hm6
        have HKN := Lib.hid (HK3.out.trans' hkN)
        have HB6 := Lib.hid (HB3.out.keep hkN (fun h => h))
        have HDM := Lib.hid hdm
        have HWM := Lib.hid hwm
        have HFM := Lib.hid hfm
        have HQL := Lib.hid hql
        obtain ⟨va, vc, rfl⟩ := hdm.reads.slice
        rw [← e1, ← e2, ← e3] at HM6
        have HE1 := Lib.hid e1
        have HE2' := Lib.hid e2
        have HE3' := Lib.hid e3
        have z0 : wc.cell? ⟨gm, 0, none⟩ = some (.string q.path) := by rw [HM6.out.cell]; rfl
        have z1 : wc.cell? ⟨gm, 1, none⟩ = some (.string q.name) := by rw [HM6.out.cell]; rfl
        have z2 : wc.cell? ⟨gm, 2, none⟩ = some (.string q.mod) := by rw [HM6.out.cell]; rfl
        have z3 : wc.cell? ⟨gm, 3, none⟩ = some (.slice va q.ds.length vc) := by rw [HM6.out.cell]; rfl
        clear hm6 hr6 hk6 hkN hu3 hh3 hdm hwm hfm hql e1 e2 e3 x3 y0 y1 y2 y3 HM4 HR4 HK4 HB4 HE4 HONE HDO RA3 DA2 DA3 h63 h64 h65 h66
        go_wp2_with fail
        refine (packT q _ wc HDM.out HFM.out).mono ?_
        rintro e w7 ⟨fv7, L7, rfl, d7, m7, k7⟩
        have HK7 := Lib.hid (HKN.out.trans' k7)
        have HB7 := Lib.hid (HB6.out.keep k7 (fun h => h))
        have HM7 := Lib.hid (HM6.out.keep k7 (fun h => h))
        have HD7 := Lib.hid d7
        have HDM7 := Lib.hid (HDM.out.far k7)
        have HA7 := Lib.hid (Pkg.again m7 HWM.out)
        clear d7 m7 k7 z0 z1 z2 z3
        go_wp2_with fail
        refine (goodT ⟨q.path, q.name, q.mod, L7⟩ _ w7 HD7.out HA7.out.1).mono ?_
        rintro e w8 ⟨ok3, rfl, k8, hok3⟩
        have HK8 := Lib.hid (HK7.out.trans' k8)
        have HB8 := Lib.hid (HB7.out.keep k8 (fun h => h))
        have HM8 := Lib.hid (HM7.out.keep k8 (fun h => h))
        have HDM8 := Lib.hid (HDM7.out.far k8)
        cases ok3 with
        | false =>
          clear hok3 k8
          go_wp2
          go_ret
          exact ⟨rfl, HK8.out.below (by have := HGP.out; omega) (fun _ _ h => h.elim)⟩
        | true =>
          have HG := Lib.hid (HA7.out.2 (hok3 rfl))
          have z0 : w8.cell? ⟨gm, 0, none⟩ = some (.string q.path) := by rw [HM8.out.cell]; rfl
          have z1 : w8.cell? ⟨gm, 1, none⟩ = some (.string q.name) := by rw [HM8.out.cell]; rfl
          have z2 : w8.cell? ⟨gm, 2, none⟩ = some (.string q.mod) := by rw [HM8.out.cell]; rfl
          have z3 : w8.cell? ⟨gm, 3, none⟩ = some (.slice va q.ds.length vc) := by rw [HM8.out.cell]; rfl
          clear hok3 k8
          go_wp2_with fail
          refine (metaT q _ w8 HDM8.out HG.out HWM.out).mono ?_
          rintro e w9 ⟨v9, tv9, rfl, r9, _, k9, _, _⟩
          have hpos : 0 < mtotal (q.ms q.ds.length) := by simp only [mtotal, mbase]; omega
          have HK9 := Lib.hid (HK8.out.trans' k9)
          have HB9 := Lib.hid (HB8.out.keep k9 (fun h => h))
          have HM9 := Lib.hid (HM8.out.keep k9 (fun h => h))
          obtain ⟨ga, gc, rfl⟩ := r9.at hpos
          have R9 := Lib.hid r9.reads
          clear k9 r9 z0 z1 z2 z3
          go_wp2_with fail
          refine (readMeta q _ w9 HG.out HWM.out R9.out).mono ?_
          rintro e w10 ⟨fv10, L10, rfl, d10, m10, k10, r10⟩
          have hl10 : L10.length = q.ds.length := by simpa using congrArg List.length m10
          have hc10 : ∃ b10 c10, fv10 = .slice (some ⟨b10, 0, none⟩) L10.length c10 ∧ L10.length ≤ c10 := by
            have := HQL.out
            rcases r10.shape with ⟨h, h0⟩ | ⟨b, c, h, hc⟩
            · omega
            · exact ⟨b, c, h, hc⟩
          obtain ⟨b10, c10, rfl, hc10⟩ := hc10
          obtain ⟨W11, hW11⟩ : ∃ W, W = w10.alloc (.cells #[.string q.path, .string q.name, .string q.mod, .slice (some ⟨b10, 0, none⟩) L10.length c10] 24) := ⟨_, rfl⟩
          have hk11 : Keep Non w10 W11 := by rw [hW11]; exact (Keep.refl _ _).alloc _
          have hg11 : Blk W11 w10.heap.size [.string q.path, .string q.name, .string q.mod, .slice (some ⟨b10, 0, none⟩) L10.length c10] 24 := by rw [hW11]; exact Blk.new w10 [.string q.path, .string q.name, .string q.mod, .slice (some ⟨b10, 0, none⟩) L10.length c10] _
          have HK11 := Lib.hid ((HK9.out.trans' k10).trans' hk11)
          have HB11 := Lib.hid ((HB9.out.keep k10 (fun h => h)).keep hk11 (fun h => h))
          have HM11 := Lib.hid ((HM9.out.keep k10 (fun h => h)).keep hk11 (fun h => h))
          have HG11 := Lib.hid hg11
          have HR11 := Lib.hid (r10.keep hk11 (fun _ _ h => h))
          have HD10 := Lib.hid d10
          have HKN := Lib.hid hk11
          have HM10 := Lib.hid m10
          have HL10 := Lib.hid hl10
          have hgp11 : w.heap.size ≤ w10.heap.size := (HK9.out.trans' k10).size
          have HKS : Hid (w9.heap.size ≤ w10.heap.size) := Lib.hid k10.size
          clear hl10 m10 k10 r10 d10 hk11 hg11
          go_upto_region 9 with (fail)
          rw [← hW11]
          clear hW11
          obtain ⟨g11, hg11e⟩ : ∃ g, g = w10.heap.size := ⟨_, rfl⟩
          rw [← hg11e] at HG11 hgp11 ⊢
          have HGE11 := Lib.hid hg11e
          have HGP11 := Lib.hid hgp11
          clear hg11e hgp11
          have z3 : W11.cell? ⟨g11, 3, none⟩ = some (.slice (some ⟨b10, 0, none⟩) L10.length c10) := by rw [HG11.out.cell]; rfl
          have m3 : W11.cell? ⟨gm, 3, none⟩ = some (.slice va q.ds.length vc) := by rw [HM11.out.cell]; rfl
          have x3 : W11.cell? ⟨gp, 3, none⟩ = some (.slice fa p.ds.length fc) := by rw [HB11.out.cell]; rfl
          have f3 := HG11.out.free 3
          have hle := HL10.out
          have hi0 : (0 : Int) ≤ (p.ds.length : Int) := by omega
          have hi1 : (p.ds.length : Int) ≤ (c10 : Int) := by have := HQL.out; omega
          have hc0 : ¬ c10 = 0 := by have := HQL.out; omega
          rw [hle] at z3 hc10
          go_upto_region 12 with (fail)
          obtain ⟨W12, hW12⟩ : ∃ W, W = W11.setCell ⟨g11, 3, none⟩ (.slice (some ⟨b10, 0, none⟩) p.ds.length c10) := ⟨_, rfl⟩
          have hk12 : Keep Non w10 W12 := by rw [hW12]; exact HKN.out.setNew (Nat.le_of_eq HGE11.out.symm) 3 _
          have hg12 : Blk W12 g11 [.string p.path, .string p.name, .string p.mod, .slice (some ⟨b10, 0, none⟩) p.ds.length c10] 24 := by
            rw [hW12, ← HE1.out, ← HE2'.out, ← HE3'.out]; exact HG11.out.set 3 _
          have hkw : Keep Non w W12 := by rw [hW12]; exact HK11.out.setNew (HGP11.out) 3 _
          have hpg : gp ≠ g11 := fun e => by have := HB9.out.lt; have := HGE11.out; have := HKS.out; omega
          have hb12 : Blk W12 gp [.string p.path, .string p.name, .string p.mod, .slice fa p.ds.length fc] 24 := by
            rw [hW12]; exact HB11.out.setOther hpg _
          have hd12 := (HD10.out.take (n := p.ds.length) (by rw [HL10.out, HQL.out]; omega)).far hk12
          have hh12 := HH.out.far hkw
          have hmt : (L10.take p.ds.length).map (·.1) = p.ds.map (·.1) := by
            rw [List.map_take, HM10.out, HQD.out, List.take_left' (by simp)]
          have HK12 := Lib.hid hkw
          have HD12 := Lib.hid hd12
          have HH12 := Lib.hid hh12
          have HMT := Lib.hid hmt
          have HFG := Lib.hid (Pkg.fits_again hmt HF.out)
          have HUN : Hid (∀ L : List (Dsc × Value), L.map (·.1) = p.ds.map (·.1) → L.length ≤ 1000 ∧ ∀ x ∈ L, x.1.units.length ≤ 1000) := Lib.hid (fun L hL => by
            have h1 : L.length = p.ds.length := by simpa using congrArg List.length hL
            have h2 := HG.out.2.2.2.1
            have h3 := HQL.out
            refine ⟨by omega, fun x hx => ?_⟩
            have : x.1 ∈ q.ds.map (·.1) := by rw [HQD.out, ← hL]; exact List.mem_append_left _ (List.mem_map_of_mem hx)
            obtain ⟨y, hy, e⟩ := List.mem_map.1 this
            have := (HG.out.2.2.2.2 y hy).2.2
            rw [← e]; omega)
          have z0 : W12.cell? ⟨g11, 0, none⟩ = some (.string p.path) := by rw [hg12.cell]; rfl
          have z1 : W12.cell? ⟨g11, 1, none⟩ = some (.string p.name) := by rw [hg12.cell]; rfl
          have z2 : W12.cell? ⟨g11, 2, none⟩ = some (.string p.mod) := by rw [hg12.cell]; rfl
          clear z3 m3 x3
          have z3 : W12.cell? ⟨g11, 3, none⟩ = some (.slice (some ⟨b10, 0, none⟩) p.ds.length c10) := by rw [hg12.cell]; rfl
          have u0 : W12.cell? ⟨gp, 0, none⟩ = some (.string p.path) := by rw [hb12.cell]; rfl
          have u1 : W12.cell? ⟨gp, 1, none⟩ = some (.string p.name) := by rw [hb12.cell]; rfl
          have u2 : W12.cell? ⟨gp, 2, none⟩ = some (.string p.mod) := by rw [hb12.cell]; rfl
          have u3 : W12.cell? ⟨gp, 3, none⟩ = some (.slice fa p.ds.length fc) := by rw [hb12.cell]; rfl
          rw [← hW12]
          clear hW12 hk12 hg12 hkw hpg hb12 hd12 hh12 hmt f3 hle hi0 hi1 hc0 hc10 HG11 HK11 HB11 HM11 HR11
          go_region_held3 (fun w' => w'.cell? ⟨g11, 0, none⟩ = some (.string p.path) ∧ w'.cell? ⟨g11, 1, none⟩ = some (.string p.name) ∧ w'.cell? ⟨g11, 2, none⟩ = some (.string p.mod) ∧ w'.cell? ⟨g11, 3, none⟩ = some (.slice (some ⟨b10, 0, none⟩) p.ds.length c10) ∧ w'.cell? ⟨gp, 0, none⟩ = some (.string p.path) ∧ w'.cell? ⟨gp, 1, none⟩ = some (.string p.name) ∧ w'.cell? ⟨gp, 2, none⟩ = some (.string p.mod) ∧ w'.cell? ⟨gp, 3, none⟩ = some (.slice fa p.ds.length fc))
            (first
              | go_keep
              | exact ⟨kk.out.cell z0 (fun h => h), kk.out.cell z1 (fun h => h), kk.out.cell z2 (fun h => h), kk.out.cell z3 (fun h => h), kk.out.cell u0 (fun h => h), kk.out.cell u1 (fun h => h), kk.out.cell u2 (fun h => h), kk.out.cell u3 (fun h => h)⟩)
            (first
              | (go_at_call_of 6 b10; refine (packT ⟨p.path, p.name, p.mod, L10.take p.ds.length⟩ _ _ (HD12.out.far kk.out) HFG.out.w).mono ?_; rintro e w7 ⟨fv7, L7, rfl, d7, m7, k7⟩; obtain ⟨v7, c7, rfl⟩ := d7.reads.slice; have D8 := Lib.hid (D8.out.far k7); have kk := Lib.hid (kk.out.trans' k7); have D7 := Lib.hid d7; have M7 := Lib.hid (m7.trans HMT.out); clear d7 m7 k7)
              | (go_at_call_of 6 fa; refine (packT p _ _ (HH12.out.far kk.out) HF.out.w).mono ?_; rintro e w7 ⟨fv8, L8, rfl, d7, m7, k7⟩; obtain ⟨v8, c8, rfl⟩ := d7.reads.slice; have D7 := Lib.hid (D7.out.far k7); have kk := Lib.hid (kk.out.trans' k7); have D8 := Lib.hid d7; have M8 := Lib.hid m7; clear d7 m7 k7)
              | (go_at_call_of 6 b10; refine (packT ⟨p.path, p.name, p.mod, L10.take p.ds.length⟩ _ _ (HD12.out.far ((Keep.refl Non W12).drew)) HFG.out.w).mono ?_; rintro e w7 ⟨fv7, L7, rfl, d7, m7, k7⟩; obtain ⟨v7, c7, rfl⟩ := d7.reads.slice; have kk := Lib.hid k7.undrew; have D7 := Lib.hid d7; have M7 := Lib.hid (m7.trans HMT.out); clear d7 m7 k7)
              | (go_at_call_of 6 fa; refine (packT p _ _ (HH12.out.far ((Keep.refl Non W12).drew)) HF.out.w).mono ?_; rintro e w7 ⟨fv8, L8, rfl, d7, m7, k7⟩; obtain ⟨v8, c8, rfl⟩ := d7.reads.slice; have kk := Lib.hid k7.undrew; have D8 := Lib.hid d7; have M8 := Lib.hid m7; clear d7 m7 k7)
              | (go_at_call 10; refine (samePkg p.path p.name p.mod _ _ L7 L8 _ D7.out D8.out (M7.out.trans M8.out.symm) (HUN.out L7 M7.out).1 (HUN.out L7 M7.out).2).mono ?_; rintro e w8 ⟨rfl, k8⟩; have kk := Lib.hid (kk.out.trans' k8); clear k8))
          all_goals
            go_wp2_with fail
            go_ret
            exact ⟨rfl, (HK12.out.trans' kk.out).below (by have := HGP.out; omega) (fun _ _ h => h.elim)⟩
end Go.Proofs.YtbmidlaakbpnlaaDoor
