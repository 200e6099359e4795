import Derived.Test.YtghmajlfmoggfaaGreatMS5
import Derived.Test.YtghmajlfmoggfaaGreatMJ6
import Derived.Test.YtghmajlfmoggfaaGreatMG3
set_option linter.unusedSimpArgs false
set_option linter.unusedVariables false
namespace Go.Proofs.YtghmajlfmoggfaaGreat
open Go.RowKit Go.Proofs.YtghmajlfmoggfaaGreatW.PrintWords Go.Proofs.YtghmajlfmoggfaaGreatW.PrintLast PFnMerge
def allNm (l : List S25) : Prop := ∀ y ∈ l, ∃ v, fieldO y nameKey = some v
def ClearP : Nat → S25 → Prop
 | 0, _ => True
 | d + 1, x => (∀ y ∈ x.f4, ClearP d y) ∧ (x.f0 = 3 → allNm x.f4 → named x)
def ClearQ (d : Nat) (x : S25) (w : World) (e : Ending) (w' : World) : Prop := ∃ b : Bool, e = .returned (.bool b) ∧ (b = true → ClearP d x) ∧ Below w.heap.size w w'
def ClearC (d : Nat) : Prop := ∀ x : S25, TreeB d x → ∀ (w : World) (A3 A4 : Option Addr) (c3 c4 : Nat), NdR w x A3 c3 A4 c4 → Calls Tryz.prog 9 #[ndV x A3 c3 A4 c4] w fun e w' => ClearQ d x w e w'
structure BX (w : World) (cs : Array Value) (f0 : Int) (l : List S25) (d : Nat) (q : Bool) (wr : World) : Prop where
 below : Below w.heap.size w wr
 box : wr.heap[w.heap.size]? = some (.cells cs 25 (0, 0))
 all : q = true ↔ f0 = 3 ∧ allNm l
 ok : ∀ y ∈ l, ClearP d y
theorem BX.under {w : World} {cs : Array Value} {f0 : Int} {l : List S25} {d : Nat} {q : Bool} {wr wr' : World} (h : BX w cs f0 l d q wr) (hb : Below wr.heap.size wr wr') : BX w cs f0 l d q wr' :=
 ⟨h.below.trans (hb.mono h.below.size), (hb.block _ (lt_of_block h.box)).trans h.box, h.all, h.ok⟩
theorem BX.more_yes {q : Bool} {f0 : Int} {l : List S25} {y : S25} (hy : ∃ v, fieldO y nameKey = some v) : (q = true ↔ f0 = 3 ∧ allNm (l ++ [y])) ↔ (q = true ↔ f0 = 3 ∧ allNm l) := by
 have : allNm (l ++ [y]) ↔ allNm l := by
  constructor
  ·intro h z hz
   exact h z (by simp [hz])
  ·intro h z hz
   rcases List.mem_append.1 hz with hz | hz
   ·exact h z hz
   ·rw [List.mem_singleton.1 hz]
    exact hy
 rw [this]
set_option maxRecDepth 20000 in
set_option maxHeartbeats 4000000 in
theorem areClear9 : ∀ d, ClearC d := by
 intro d
 induction d with
 | zero => intro x hx; exact hx.1.elim
 | succ d ih =>
  intro x hx w A3 A4 c3 c4 h
  have hitem := hx.item
  have hlen := hx.len
  have hTP := hx.1.item
  obtain ⟨f0, f1, f2, f3, f4⟩ := x
  obtain ⟨L, hL⟩ : ∃ L, L = f4.length := ⟨_, rfl⟩
  have hargs : ndV ⟨f0, f1, f2, f3, f4⟩ A3 c3 A4 c4 = .agg #[.int .i64 f0, .string f1, .string f2, .slice A3 f3.length c3, .slice A4 L c4] := by rw [hL]
  rw [hargs]
  clear hargs
  have hNb : (L : Int) ≤ 1000000 := by simp only at hlen; omega
  have hb1 := below_alloc (Below.refl w.heap.size w) (.cells #[.int .i64 f0, .string f1, .string f2, .slice A3 f3.length c3, .slice A4 L c4] 25)
  have HB := Lib.hid hb1
  have H := Lib.hid (And.intro h (And.intro hitem (And.intro hL (And.intro ih hTP))))
  clear hb1 h hitem hL hlen hx ih hTP
  obtain ⟨q0, hq0⟩ : ∃ q0, q0 = (f0 == 3) := ⟨_, rfl⟩
  have HQ0 := Lib.hid hq0
  have hai : BX w #[.int .i64 f0, .string f1, .string f2, .slice A3 f3.length c3, .slice A4 L c4] f0 [] d q0 (w.alloc (.cells #[.int .i64 f0, .string f1, .string f2, .slice A3 f3.length c3, .slice A4 L c4] 25)) :=
   ⟨HB.out, blk_new rfl _, by rw [hq0]; simp [allNm], by simp⟩
  have HAI := Lib.hid hai
  have hq1 : (f0 == 3) = q0 := hq0.symm
  clear hai hq0
  go_enter Tryz.func9, Tryz.ntmps9
  go_wp2_with fail
  clear hq1
  go_loopg [14, 3] L (fun k i v3 wr => ∃ (j : Nat) (q : Bool), j + k = L ∧ i = .int .i64 (j : Int) ∧ v3 = .bool q ∧ Hid (BX w #[.int .i64 f0, .string f1, .string f2, .slice A3 f3.length c3, .slice A4 L c4] f0 (f4.take j) d q wr))
  case atStart => exact ⟨0, q0, by omega, rfl, rfl, HAI⟩
  case round =>
   obtain ⟨j, q, hj, rfl, rfl, hI⟩ := hrel
   by_cases hlt : 1 ≤ gk
   ·have hj2 : (j : Int) < (L : Int) := by omega
    have hj3 : j < L := by omega
    obtain ⟨y, hy⟩ : ∃ y, f4[j]? = some y := ⟨_, List.getElem?_eq_getElem (by have := H.out.2.2.1; omega)⟩
    obtain ⟨ad4, B3, d3, B4, d4, rfl, y0, y1, y2, y3, y4, hnd⟩ := (H.out.1.below hI.out.below).frame.item j y hy
    have HY := Lib.hid (And.intro hnd.now (And.intro hy (List.mem_of_getElem? hy)))
    clear hnd hy
    go_wp2_with fail
    have hcall := fieldX (wr.alloc (.cells #[.int .i64 y.f0, .string y.f1, .string y.f2, .slice B3 y.f3.length d3, .slice B4 y.f4.length d4] 25)) y nameKey B3 B4 d3 d4 (HY.out.1.below (below_alloc (Below.refl _ _) _)) (H.out.2.2.2.2 y HY.out.2.2).nd
    refine hcall.mono ?_
    clear hcall
    rintro e w' ⟨hb, ⟨v, E3, e3, E4, e4, rfl, h0, _⟩ | ⟨rfl, h0⟩⟩
    all_goals have HB1 := Lib.hid hb
    ·have HA1 := Lib.hid ((hI.out.under (below_alloc (Below.refl _ _) (.cells #[.int .i64 y.f0, .string y.f1, .string y.f2, .slice B3 y.f3.length d3, .slice B4 y.f4.length d4] 25))).under hb)
     have HX1 := Lib.hid ((hb.block wr.heap.size (by simp)).trans (blk_new rfl (w := wr) (.cells #[.int .i64 y.f0, .string y.f1, .string y.f2, .slice B3 y.f3.length d3, .slice B4 y.f4.length d4] 25)))
     have HV := Lib.hid h0
     clear h0 hb
     obtain ⟨W, hW⟩ : ∃ W, W = w'.alloc (.cells #[.int .i64 v.f0, .string v.f1, .string v.f2, .slice E3 v.f3.length e3, .slice E4 v.f4.length e4] 25) := ⟨_, rfl⟩
     have hbW : Below w'.heap.size w' W := hW ▸ below_alloc (Below.refl _ _) _
     have HA2 := Lib.hid (HA1.out.under hbW)
     have hx2 := (hbW.block _ (lt_of_block HX1.out)).trans HX1.out
     have z0 : (w'.alloc (.cells #[.int .i64 v.f0, .string v.f1, .string v.f2, .slice E3 v.f3.length e3, .slice E4 v.f4.length e4] 25)).cell? ⟨wr.heap.size, 0, none⟩ = some (.int .i64 y.f0) := hW ▸ (blk_cell hx2 0).trans rfl
     have z1 : (w'.alloc (.cells #[.int .i64 v.f0, .string v.f1, .string v.f2, .slice E3 v.f3.length e3, .slice E4 v.f4.length e4] 25)).cell? ⟨wr.heap.size, 1, none⟩ = some (.string y.f1) := hW ▸ (blk_cell hx2 1).trans rfl
     have z2 : (w'.alloc (.cells #[.int .i64 v.f0, .string v.f1, .string v.f2, .slice E3 v.f3.length e3, .slice E4 v.f4.length e4] 25)).cell? ⟨wr.heap.size, 2, none⟩ = some (.string y.f2) := hW ▸ (blk_cell hx2 2).trans rfl
     have z3 : (w'.alloc (.cells #[.int .i64 v.f0, .string v.f1, .string v.f2, .slice E3 v.f3.length e3, .slice E4 v.f4.length e4] 25)).cell? ⟨wr.heap.size, 3, none⟩ = some (.slice B3 y.f3.length d3) := hW ▸ (blk_cell hx2 3).trans rfl
     have z4 : (w'.alloc (.cells #[.int .i64 v.f0, .string v.f1, .string v.f2, .slice E3 v.f3.length e3, .slice E4 v.f4.length e4] 25)).cell? ⟨wr.heap.size, 4, none⟩ = some (.slice B4 y.f4.length d4) := hW ▸ (blk_cell hx2 4).trans rfl
     have hcall := H.out.2.2.2.1 y (H.out.2.1 y HY.out.2.2) W B3 B4 d3 d4 (HY.out.1.below (show Below wr.heap.size wr W from (below_alloc (Below.refl _ _) _).trans ((HB1.out.trans (hbW.mono HB1.out.size)).mono (by simp))))
     have HC := Lib.hid hcall
     have HW := Lib.hid hW
     clear hcall hx2 hW hbW
     cases q
     all_goals
      go_wp2_with fail
      rw [← HW.out]
      clear z0 z1 z2 z3 z4
      refine HC.out.mono ?_
      rintro e w'' ⟨b9, rfl, hcl, hb⟩
      have HA3 := Lib.hid (HA2.out.under hb)
      have HCL := Lib.hid hcl
      clear hcl hb
      cases b9 with
      | false =>
       go_wp2_with fail
       exact bodyPost_ret (v := .bool false) (by simp [results, Tryz.results9, go_sem]) rfl ⟨false, rfl, (fun h => nomatch h), HA3.out.below⟩
      | true =>
       go_wp2_with fail
       go_roundg (gk - 1)
       case measure => omega
       case rel =>
        refine ⟨j + 1, _, by omega, by go_num, rfl, Lib.hid ⟨HA3.out.below, HA3.out.box, ?_, ?_⟩⟩
        ·have hall := HA3.out.all
         rw [take_succ HY.out.2.1]
         exact (BX.more_yes (l := f4.take j) ⟨_, HV.out⟩).2 hall
        ·intro z hz
         rw [take_succ HY.out.2.1] at hz
         rcases List.mem_append.1 hz with hz | hz
         ·exact HA3.out.ok z hz
         ·rw [List.mem_singleton.1 hz]
          exact HCL.out trivial
    ·have HA1 := Lib.hid ((hI.out.under (below_alloc (Below.refl _ _) (.cells #[.int .i64 y.f0, .string y.f1, .string y.f2, .slice B3 y.f3.length d3, .slice B4 y.f4.length d4] 25))).under hb)
     have HX1 := Lib.hid ((hb.block wr.heap.size (by simp)).trans (blk_new rfl (w := wr) (.cells #[.int .i64 y.f0, .string y.f1, .string y.f2, .slice B3 y.f3.length d3, .slice B4 y.f4.length d4] 25)))
     have HV := Lib.hid h0
     clear h0 hb
     obtain ⟨W, hW⟩ : ∃ W, W = w'.alloc (.cells #[.int .i64 0, .string noStr, .string noStr, nilS, nilS] 25) := ⟨_, rfl⟩
     have hbW : Below w'.heap.size w' W := hW ▸ below_alloc (Below.refl _ _) _
     have HA2 := Lib.hid (HA1.out.under hbW)
     have hx2 := (hbW.block _ (lt_of_block HX1.out)).trans HX1.out
     have z0 : (w'.alloc (.cells #[.int .i64 0, .string noStr, .string noStr, nilS, nilS] 25)).cell? ⟨wr.heap.size, 0, none⟩ = some (.int .i64 y.f0) := hW ▸ (blk_cell hx2 0).trans rfl
     have z1 : (w'.alloc (.cells #[.int .i64 0, .string noStr, .string noStr, nilS, nilS] 25)).cell? ⟨wr.heap.size, 1, none⟩ = some (.string y.f1) := hW ▸ (blk_cell hx2 1).trans rfl
     have z2 : (w'.alloc (.cells #[.int .i64 0, .string noStr, .string noStr, nilS, nilS] 25)).cell? ⟨wr.heap.size, 2, none⟩ = some (.string y.f2) := hW ▸ (blk_cell hx2 2).trans rfl
     have z3 : (w'.alloc (.cells #[.int .i64 0, .string noStr, .string noStr, nilS, nilS] 25)).cell? ⟨wr.heap.size, 3, none⟩ = some (.slice B3 y.f3.length d3) := hW ▸ (blk_cell hx2 3).trans rfl
     have z4 : (w'.alloc (.cells #[.int .i64 0, .string noStr, .string noStr, nilS, nilS] 25)).cell? ⟨wr.heap.size, 4, none⟩ = some (.slice B4 y.f4.length d4) := hW ▸ (blk_cell hx2 4).trans rfl
     have hcall := H.out.2.2.2.1 y (H.out.2.1 y HY.out.2.2) W B3 B4 d3 d4 (HY.out.1.below (show Below wr.heap.size wr W from (below_alloc (Below.refl _ _) _).trans ((HB1.out.trans (hbW.mono HB1.out.size)).mono (by simp))))
     have HC := Lib.hid hcall
     have HW := Lib.hid hW
     clear hcall hx2 hW hbW
     cases q
     all_goals
      go_wp2_with fail
      rw [← HW.out]
      clear z0 z1 z2 z3 z4
      refine HC.out.mono ?_
      rintro e w'' ⟨b9, rfl, hcl, hb⟩
      have HA3 := Lib.hid (HA2.out.under hb)
      have HCL := Lib.hid hcl
      clear hcl hb
      cases b9 with
      | false =>
       go_wp2_with fail
       exact bodyPost_ret (v := .bool false) (by simp [results, Tryz.results9, go_sem]) rfl ⟨false, rfl, (fun h => nomatch h), HA3.out.below⟩
      | true =>
       go_wp2_with fail
       go_roundg (gk - 1)
       case measure => omega
       case rel =>
        refine ⟨j + 1, _, by omega, by go_num, rfl, Lib.hid ⟨HA3.out.below, HA3.out.box, ?_, ?_⟩⟩
        ·have hall := HA3.out.all
         rw [take_succ HY.out.2.1]
         simp only [Bool.false_eq_true, false_iff]
         rintro ⟨_, h⟩
         obtain ⟨v, hv⟩ := h y (by simp)
         rw [HV.out] at hv
         cases hv
        ·intro z hz
         rw [take_succ HY.out.2.1] at hz
         rcases List.mem_append.1 hz with hz | hz
         ·exact HA3.out.ok z hz
         ·rw [List.mem_singleton.1 hz]
          exact HCL.out trivial
   ·have hqe : ¬ ((j : Int) < (L : Int)) := by omega
    have hqe' : ¬ (j < L) := by omega
    obtain ⟨x0, x1, x2, x3, x4⟩ := cl5 hI.out.box
    have htk : f4.take j = f4 := List.take_of_length_le (by have := H.out.2.2.1; omega)
    have hall := hI.out.all
    have hok := hI.out.ok
    rw [htk] at hall hok
    have HF := Lib.hid (And.intro hall hok)
    clear hall hok htk
    cases q with
    | false =>
     go_wp2_with fail
     exact bodyPost_ret (v := .bool true) (by simp [results, Tryz.results9, go_sem]) rfl ⟨true, rfl, fun _ => ⟨HF.out.2, fun h1 h2 => by have := HF.out.1.2 ⟨h1, h2⟩; cases this⟩, hI.out.below⟩
    | true =>
     go_wp2_with fail
     have hcall := areNamed21 wr ⟨f0, f1, f2, f3, f4⟩ A3 A4 c3 c4 (H.out.1.below hI.out.below) (fun y hy => (H.out.2.2.2.2 y hy).nd) (by have := H.out.2.2.1; simp only; omega)
     have hargs : ndV ⟨f0, f1, f2, f3, f4⟩ A3 c3 A4 c4 = .agg #[.int .i64 f0, .string f1, .string f2, .slice A3 f3.length c3, .slice A4 L c4] := by rw [H.out.2.2.1]
     rw [hargs] at hcall
     have HC := Lib.hid hcall
     clear hargs hcall
     refine HC.out.mono ?_
     rintro e w' ⟨rfl, hb⟩
     have HB2 := Lib.hid hb
     clear hb
     obtain ⟨nb, hnb⟩ : ∃ nb, nb = namedB ⟨f0, f1, f2, f3, f4⟩ := ⟨_, rfl⟩
     have HNB := Lib.hid hnb
     rw [← hnb]
     clear hnb
     cases nb
     all_goals
      go_wp2_with fail
      refine bodyPost_ret (v := .bool _) (by simp [results, Tryz.results9, go_sem]; rfl) rfl ⟨_, rfl, fun h => ?_, hI.out.below.trans (HB2.out.mono hI.out.below.size)⟩
      first
       | (cases h; done)
       | exact ⟨HF.out.2, fun _ _ => by have h := HNB.out.symm; simpa [namedB] using h⟩
theorem named_v : ∀ {d : Nat} {z v : S25}, TreeP d z → fieldO z nameKey = some v → v.f0 = 1 → v.f2 = strTag → NamedB z (nmo z) ∧ (nmo z).toList.isEmpty = false
 | 0, _, _, h, _, _, _ => h.elim
 | d + 1, z, v, hz, h, h1, h2 => by
  obtain ⟨h0, i, hi, hv⟩ := fieldO_inv h
  have hn : nmo z = v.f1 := by rw [nmo, h]; rfl
  have hp := hz.item v (List.mem_of_getElem? hv)
  cases d with
  | zero => exact hp.elim
  | succ d =>
   rcases hp with ⟨_, h3, h4, h5⟩ | ⟨h3, _⟩ | ⟨h3, _⟩
   ·rw [hn]
    refine ⟨⟨h0, v.f2, ?_⟩, ?_⟩
    ·have e : (⟨1, v.f1, v.f2, [], []⟩ : S25) = v := by
      obtain ⟨a, b, c, e, f⟩ := v
      simp only at h1 h3 h4
      subst h1; subst h3; subst h4
      rfl
     rw [e]
     exact fld_mk hi hv
    ·rcases h5 with ⟨_, h5⟩ | ⟨h5, _⟩
     ·exact h5.good.1
     ·rw [h2, ByteArray.toList_eq] at h5
      exact absurd h5 (by decide)
   ·omega
   ·omega
theorem named_names {d : Nat} {x : S25} (hx : TreeP (d + 1) x) (h : named x) : NamesL x.f4 (x.f4.map nmo) := by
 refine ⟨by simp, h.2.2, fun s hs => ?_, fun i z s hz hs => ?_⟩
 ·obtain ⟨z, hz, rfl⟩ := List.mem_map.1 hs
  obtain ⟨v, h1, h2, h3⟩ := h.2.1 z hz
  exact (named_v (hx.item z hz) h1 h2 h3).2
 ·rw [List.getElem?_map, hz] at hs
  injection hs with hs
  subst hs
  have hm := List.mem_of_getElem? hz
  obtain ⟨v, h1, h2, h3⟩ := h.2.1 z hm
  exact (named_v (hx.item z hm) h1 h2 h3).1
theorem hasNm_field : ∀ {d : Nat} {z : S25}, TreeP d z → hasNm z → ∃ v, fieldO z nameKey = some v := by
 intro d z hz h
 obtain ⟨h0, hm⟩ := h
 obtain ⟨h1, h2⟩ := hz.nd
 obtain ⟨i, hi⟩ := List.getElem?_of_mem hm
 have hlt := (List.getElem?_eq_some_iff.1 hi).1
 exact ⟨z.f4[i]'(by rw [← h2 h0]; exact hlt), fieldO_some h1 ⟨h0, i, hi, List.getElem?_eq_getElem _⟩⟩
theorem clear_good {inf : Bool} : ∀ {d : Nat} {x : S25}, TreeB d x → (inf = true → ClearP d x) → GoodI inf d x := by
 intro d
 induction d with
 | zero => intro x h; exact h.1.elim
 | succ d ih =>
  intro x h hc
  have hl := h.len
  have hit : ∀ z ∈ x.f4, GoodI inf d z := fun z hz => ih (h.item z hz) fun e => (hc e).1 z hz
  rcases h.1 with ⟨h1, _, _, h2⟩ | ⟨h1, _, _, h2, h3, h4, h5, h6⟩ | ⟨h1, _, _, _, h2, h3⟩
  ·exact .inl ⟨h1, h2.tag_ne.1⟩
  ·exact .inr (.inr ⟨h1, fun e => h5 (List.eq_nil_of_length_eq_zero (by rw [← h2, e]; rfl)), by omega, h3, fun k hk => (h4 k hk).good, hit⟩)
  ·refine .inr (.inl ⟨h1, h2, by omega, fun e => ?_⟩)
   by_cases hp : ∃ z ∈ x.f4, ¬ hasNm z
   ·exact .inl hp
   ·have hall : allNm x.f4 := fun y hy => hasNm_field (h3 y hy) (Classical.byContradiction fun hn => hp ⟨y, hy, hn⟩)
    exact .inr ⟨⟨_, named_names h.1 ((hc e).2 h1 hall)⟩, hit⟩
end Go.Proofs.YtghmajlfmoggfaaGreat
