import Derived.Test.YtghmajlfmoggfaaGreatMS1
set_option linter.unusedSimpArgs false
set_option linter.unusedVariables false
namespace Go.Proofs.YtghmajlfmoggfaaGreat
open Go.RowKit Go.Proofs.YtghmajlfmoggfaaGreatW.PrintWords Go.Proofs.YtghmajlfmoggfaaGreatW.PrintLast PFnMerge
theorem TreeP.nd : ∀ {d : Nat} {x : S25}, TreeP d x → x.f3.Nodup ∧ (x.f0 = 2 → x.f3.length = x.f4.length)
 | 0, _, h => h.elim
 | d + 1, x, h => by
  rcases h with ⟨h1, h2, _⟩ | ⟨h1, _, _, h2, h3, _⟩ | ⟨h1, _, _, h2, _⟩
  ·rw [h2]; exact ⟨List.nodup_nil, fun e => by omega⟩
  ·exact ⟨h3, fun _ => h2⟩
  ·rw [h2]; exact ⟨List.nodup_nil, fun e => by omega⟩
theorem TreeP.item : ∀ {d : Nat} {x : S25}, TreeP (d + 1) x → ∀ z ∈ x.f4, TreeP d z := by
 intro d x h z hz
 rcases h with ⟨_, _, h2, _⟩ | ⟨_, _, _, _, _, _, _, h2⟩ | ⟨_, _, _, _, _, h2⟩
 ·rw [h2] at hz; cases hz
 ·exact h2 z hz
 ·exact h2 z hz
def fieldP (x : S25) (name : ByteArray) (y : S25) : Prop := x.f0 = 2 ∧ ∃ i : Nat, x.f3[i]? = some name ∧ x.f4[i]? = some y
open Classical in
noncomputable def fieldO (x : S25) (name : ByteArray) : Option S25 := if h : ∃ y, fieldP x name y then some h.choose else none
theorem fieldO_inv {x : S25} {name : ByteArray} {y : S25} (h : fieldO x name = some y) : fieldP x name y := by
 unfold fieldO at h
 split at h
 ·rename_i hx
  injection h with h
  rw [← h]
  exact hx.choose_spec
 ·cases h
theorem fieldO_some {x : S25} {name : ByteArray} {y : S25} (hn : x.f3.Nodup) (h : fieldP x name y) : fieldO x name = some y := by
 have hx : ∃ y, fieldP x name y := ⟨y, h⟩
 obtain ⟨h0, i, hi, hy⟩ := h
 unfold fieldO
 rw [dif_pos hx]
 obtain ⟨_, j, hj, hz⟩ := hx.choose_spec
 have hlt := (List.getElem?_eq_some_iff.1 hi).1
 have : i = j := (List.getElem?_inj hlt hn).1 (hi.trans hj.symm)
 subst this
 rw [hy] at hz
 exact hz.symm
theorem fieldO_none {x : S25} {name : ByteArray} (h : ¬ (x.f0 = 2 ∧ name ∈ x.f3)) : fieldO x name = none := by
 unfold fieldO
 rw [dif_neg]
 rintro ⟨y, h0, i, hi, _⟩
 exact h ⟨h0, List.mem_of_getElem? hi⟩
def FieldQ (x : S25) (name : ByteArray) (w : World) (e : Ending) (w' : World) : Prop := Below w.heap.size w w' ∧
 ((∃ y B3 d3 B4 d4, e = .returned (.tuple #[ndV y B3 d3 B4 d4, .bool true]) ∧ fieldO x name = some y ∧ NdR w' y B3 d3 B4 d4) ∨ (e = .returned (.tuple #[zeroV, .bool false]) ∧ fieldO x name = none))
theorem fieldX (w : World) (x : S25) (name : ByteArray) (A3 A4 : Option Addr) (c3 c4 : Nat) (h : NdR w x A3 c3 A4 c4) (hn : x.f3.Nodup ∧ (x.f0 = 2 → x.f3.length = x.f4.length)) : Calls Tryz.prog 20 #[ndV x A3 c3 A4 c4, .string name] w fun e w' => FieldQ x name w e w' := by
 refine (field20 w x name A3 A4 c3 c4 h (fun e => Nat.le_of_eq (hn.2 e))).mono ?_
 rintro e w' ⟨hb, ⟨y, B3, d3, B4, d4, rfl, h0, h1, h2⟩ | ⟨rfl, h0⟩⟩
 ·exact ⟨hb, .inl ⟨y, B3, d3, B4, d4, rfl, fieldO_some hn.1 ⟨h0, h1⟩, h2⟩⟩
 ·exact ⟨hb, .inr ⟨rfl, fieldO_none h0⟩⟩
def nameKey : ByteArray := ⟨#[110, 97, 109, 101]⟩
def strTag : ByteArray := ⟨#[33, 33, 115, 116, 114]⟩
noncomputable def nmo (x : S25) : ByteArray := ((fieldO x nameKey).map (·.f1)).getD noStr
def NameQ (x : S25) (w : World) (e : Ending) (w' : World) : Prop := e = .returned (.string (nmo x)) ∧ Below w.heap.size w w'
set_option maxRecDepth 20000 in
set_option maxHeartbeats 4000000 in
theorem nameOf25 (w : World) (x : S25) (A3 A4 : Option Addr) (c3 c4 : Nat) (h : NdR w x A3 c3 A4 c4) (hn : x.f3.Nodup ∧ (x.f0 = 2 → x.f3.length = x.f4.length)) : Calls Tryz.prog 25 #[ndV x A3 c3 A4 c4] w fun e w' => NameQ x w e w' := by
 have hb1 := below_alloc (Below.refl w.heap.size w) (.cells #[.int .i64 x.f0, .string x.f1, .string x.f2, .slice A3 x.f3.length c3, .slice A4 x.f4.length c4] 25)
 have HB := Lib.hid hb1
 have H := Lib.hid (And.intro h hn)
 clear hb1 h hn
 go_enter Tryz.func25, Tryz.ntmps25
 go_wp2_with fail
 refine (fieldX _ x nameKey A3 A4 c3 c4 (H.out.1.below HB.out) H.out.2).mono ?_
 rintro e w' ⟨hb, ⟨y, B3, d3, B4, d4, rfl, h0, h1⟩ | ⟨rfl, h0⟩⟩
 ·have HY := Lib.hid (And.intro h0 (And.intro h1 hb))
  clear h0 h1 hb
  go_wp2_with fail
  refine bodyPost_ret (v := .string y.f1) (by simp [results, Tryz.results25, go_sem]) rfl ⟨by rw [nmo, HY.out.1]; rfl, below_alloc (HB.out.trans (HY.out.2.2.mono HB.out.size)) _⟩
 ·have HY := Lib.hid (And.intro h0 hb)
  clear h0 hb
  go_wp2_with fail
  refine bodyPost_ret (v := .string noStr) (by simp [results, Tryz.results25, go_sem]) rfl ⟨by rw [nmo, HY.out.1]; rfl, below_alloc (HB.out.trans (HY.out.2.mono HB.out.size)) _⟩
theorem R_empty {α : Type} (d : Kd α) (W : World) (e : TypeId) (ok : Nat → Prop) (h : ok W.heap.size) : d.R e (W.alloc (.cells #[] e)) W.heap.size ok (.slice (some ⟨W.heap.size, 0, none⟩) 0 0) [] := by
 refine ⟨fun k hk => ?_, [], ?_, Reps.none _ _⟩
 ·have : W.heap.size = k := by simpa [Value.ownBlock] using hk
  rw [← this]; exact h
 ·have h := World.ownsRow_lit (base := W.heap.size) (e := e) (size := d.sz) W #[] 0 (Nat.le_refl _) (by simp) (by simp)
  simpa using h
def named (x : S25) : Prop := x.f0 = 3 ∧ (∀ y ∈ x.f4, ∃ v, fieldO y nameKey = some v ∧ v.f0 = 1 ∧ v.f2 = strTag) ∧ (x.f4.map nmo).Nodup
open Classical in
noncomputable def namedB (x : S25) : Bool := decide (named x)
def NamedQ (x : S25) (w : World) (e : Ending) (w' : World) : Prop := e = .returned (.bool (namedB x)) ∧ Below w.heap.size w w'
open Classical in
theorem NamedQ.no {x : S25} {w w' : World} (h : ¬ named x) (hb : Below w.heap.size w w') : NamedQ x w (.returned (.bool false)) w' := ⟨by rw [show namedB x = false from decide_eq_false h], hb⟩
open Classical in
theorem NamedQ.yes {x : S25} {w w' : World} (h : named x) (hb : Below w.heap.size w w') : NamedQ x w (.returned (.bool true)) w' := ⟨by rw [show namedB x = true from decide_eq_true h], hb⟩
structure AI (w : World) (x : S25) (cs : Array Value) (j : Nat) (v3 : Value) (wr : World) : Prop where
 below : Below w.heap.size w wr
 box : wr.heap[w.heap.size]? = some (.cells cs 25 (0, 0))
 row : Kd.R Kd.string 9 wr w.heap.size (fun k => w.heap.size < k) v3 ((x.f4.take j).map nmo)
 ok : ∀ y ∈ x.f4.take j, ∃ v, fieldO y nameKey = some v ∧ v.f0 = 1 ∧ v.f2 = strTag
 nd : ((x.f4.take j).map nmo).Nodup
theorem AI.under {w : World} {x : S25} {cs : Array Value} {j : Nat} {v3 : Value} {wr wr' : World} (h : AI w x cs j v3 wr) (hb : Below wr.heap.size wr wr') : AI w x cs j v3 wr' :=
 ⟨h.below.trans (hb.mono h.below.size), (hb.block _ (lt_of_block h.box)).trans h.box, Kd.R_below h.row hb, h.ok, h.nd⟩
set_option maxRecDepth 20000 in
set_option maxHeartbeats 8000000 in
theorem areNamed21 (w : World) (x : S25) (A3 A4 : Option Addr) (c3 c4 : Nat) (h : NdR w x A3 c3 A4 c4) (hn : ∀ y ∈ x.f4, y.f3.Nodup ∧ (y.f0 = 2 → y.f3.length = y.f4.length)) (hlen : x.f4.length ≤ 1000000) : Calls Tryz.prog 21 #[ndV x A3 c3 A4 c4] w fun e w' => NamedQ x w e w' := by
 obtain ⟨f0, f1, f2, f3, f4⟩ := x
 obtain ⟨L, hL⟩ : ∃ L, L = f4.length := ⟨_, rfl⟩
 have hargs : ndV ⟨f0, f1, f2, f3, f4⟩ A3 c3 A4 c4 = .agg #[.int .i64 f0, .string f1, .string f2, .slice A3 f3.length c3, .slice A4 L c4] := by rw [hL]
 rw [hargs]
 clear hargs
 have hNb : (L : Int) ≤ 1000000 := by simp only at hlen; omega
 have hb1 := below_alloc (Below.refl w.heap.size w) (.cells #[.int .i64 f0, .string f1, .string f2, .slice A3 f3.length c3, .slice A4 L c4] 25)
 have HB := Lib.hid hb1
 have H := Lib.hid (And.intro h (And.intro hn hL))
 clear hb1 h hn hL hlen
 go_enter Tryz.func21, Tryz.ntmps21
 go_wp2_with fail
 have hai : AI w ⟨f0, f1, f2, f3, f4⟩ #[.int .i64 f0, .string f1, .string f2, .slice A3 f3.length c3, .slice A4 L c4] 0 (.slice (some ⟨w.heap.size + 1, 0, none⟩) 0 0) ((w.alloc (.cells #[.int .i64 f0, .string f1, .string f2, .slice A3 f3.length c3, .slice A4 L c4] 25)).alloc (.cells #[] 9)) := by
  refine ⟨below_alloc HB.out _, blk_old _ (blk_new rfl _), ?_, by simp, by simp⟩
  have h0 := R_empty Kd.string (w.alloc (.cells #[.int .i64 f0, .string f1, .string f2, .slice A3 f3.length c3, .slice A4 L c4] 25)) 9 (fun k => w.heap.size < k) (by simp)
  simp only [World.size_alloc] at h0
  exact Kd.R_lower h0 (Nat.le_succ _)
 have HAI := Lib.hid hai
 clear hai
 go_loopg [12, 3] L (fun k i v3 wr => ∃ j : Nat, j + k = L ∧ i = .int .i64 (j : Int) ∧ Hid (AI w ⟨f0, f1, f2, f3, f4⟩ #[.int .i64 f0, .string f1, .string f2, .slice A3 f3.length c3, .slice A4 L c4] j v3 wr))
 case atStart => exact ⟨0, by omega, rfl, HAI⟩
 case round =>
  obtain ⟨j, hj, rfl, hI⟩ := hrel
  by_cases hlt : 1 ≤ gk
  ·have hj2 : (j : Int) < (L : Int) := by omega
   have hj3 : j < L := by omega
   obtain ⟨y, hy⟩ : ∃ y, f4[j]? = some y := ⟨_, List.getElem?_eq_getElem (by have := H.out.2.2; omega)⟩
   obtain ⟨ad4, B3, d3, B4, d4, rfl, y0, y1, y2, y3, y4, hnd⟩ := (H.out.1.below hI.out.below).frame.item j y hy
   have HY := Lib.hid (And.intro hnd.now (And.intro hy (List.mem_of_getElem? hy)))
   clear hnd hy
   go_wp2_with fail
   obtain ⟨A, nN, cN, rfl, hnN⟩ : ∃ A n c, u3 = .slice A n c ∧ n = ((f4.take j).map nmo).length := by obtain ⟨A, c, e⟩ := Kd.R_slice hI.out.row; exact ⟨A, _, c, e, rfl⟩
   have HN := Lib.hid hnN
   clear hnN
   have hcall := fieldX (wr.alloc (.cells #[.int .i64 y.f0, .string y.f1, .string y.f2, .slice B3 y.f3.length d3, .slice B4 y.f4.length d4] 25)) y nameKey B3 B4 d3 d4 (HY.out.1.below (below_alloc (Below.refl _ _) _)) (H.out.2.1 y HY.out.2.2)
   refine hcall.mono ?_
   clear hcall
   rintro e w' ⟨hb, ⟨v, E3, e3, E4, e4, rfl, h0, h1⟩ | ⟨rfl, h0⟩⟩
   ·have HA1 := Lib.hid ((hI.out.under (below_alloc (Below.refl _ _) (.cells #[.int .i64 y.f0, .string y.f1, .string y.f2, .slice B3 y.f3.length d3, .slice B4 y.f4.length d4] 25))).under hb)
    have HV := Lib.hid (And.intro h0 h1)
    clear h0 h1 hb
    by_cases hk : v.f0 = 1
    ·have hkb : (v.f0 == 1) = true := beq_iff_eq.2 hk
     have HK := Lib.hid hk
     clear hk
     cases ht : (v.f2.toList == ([33, 33, 115, 116, 114] : List UInt8)) with
     | true =>
      go_wp2_with fail
      obtain ⟨W, hW⟩ : ∃ W, W = w'.alloc (.cells #[.int .i64 1, .string v.f1, .string v.f2, .slice E3 v.f3.length e3, .slice E4 v.f4.length e4] 25) := ⟨_, rfl⟩
      have HA2 := Lib.hid (show AI w ⟨f0, f1, f2, f3, f4⟩ #[.int .i64 f0, .string f1, .string f2, .slice A3 f3.length c3, .slice (some ad4) L c4] j (.slice A nN cN) W from hW ▸ HA1.out.under (below_alloc (Below.refl _ _) _))
      have hz1 : W.cell? ⟨w'.heap.size, 1, none⟩ = some (.string v.f1) := by rw [hW]; exact (blk_cell (blk_new rfl _) 1).trans rfl
      rw [← hW]
      clear hW
      obtain ⟨k2, r2, hk2, hr2⟩ := place_some ((f4.take j).map nmo) v.f1 (by simp only [List.length_map, List.length_take]; omega)
      have HP := Lib.hid (And.intro hk2 hr2)
      clear hk2 hr2
      have hrd := Kd.R_reads' HA2.out.row
      have hcall := spec_Place.calls k2 A cN ((f4.take j).map nmo) v.f1 r2 W hrd.2.2 (by rw [← HN.out]; exact hrd.2.1) HP.out.1
      rw [← HN.out] at hcall
      refine hcall.mono ?_
      clear hcall hrd
      rintro e w'' ⟨rfl, nd, rfl⟩
      have hz1' : (W.drewN nd).cell? ⟨w'.heap.size, 1, none⟩ = some (.string v.f1) := hz1
      have HA3 := Lib.hid (HA2.out.under (pw_below_drewN (Below.refl _ _) nd))
      have hnm : nmo y = v.f1 := by rw [nmo, HV.out.1]; rfl
      have HNM := Lib.hid hnm
      clear hnm hz1
      rcases HP.out.2 with ⟨rfl, hno⟩ | ⟨i, rfl, hi, hfi⟩
      ·have HNO := Lib.hid hno
       clear hno
       go_wp2_with (at_builtin; refine Kd.R_append Kd.string (w0 := w) (W := W.drewN nd) w.heap.size rfl _ _ 22 9 (.string ⟨#[]⟩) 16 rfl Tryz.underlying22 info9 rfl (by decide) (by omega) (.slice A nN cN) _ v.f1 [.string v.f1] (fun k => w.heap.size < k) (fun _ => False) (by rfl) (by rfl) (by rfl) (fun _ h => h.elim) (fun k hk => Nat.lt_of_lt_of_le (lt_of_block HA3.out.box) hk) HA3.out.row HA3.out.below HA3.out.below.size (by simp only [List.length_map, List.length_take]; omega) ?_; intro v1 w1 hr1 hb1 hg1 hat1; have HR1 := Lib.hid (And.intro hr1 (And.intro hb1 hg1)); clear hr1 hb1 hg1 hat1)
       go_roundg (gk - 1)
       case measure => omega
       case rel =>
        refine ⟨j + 1, by omega, by go_num, Lib.hid ⟨HR1.out.2.1, ?_, ?_, ?_, ?_⟩⟩
        ·exact (HR1.out.2.2.block _ (lt_of_block HA3.out.box) (fun e => Nat.lt_irrefl _ (HA3.out.row.1 _ e.symm))).trans HA3.out.box
        ·rw [take_succ HY.out.2.1, List.map_append, List.map_singleton, HNM.out]; exact HR1.out.1
        ·intro z hz
         rw [take_succ HY.out.2.1] at hz
         rcases List.mem_append.1 hz with hz | hz
         ·exact HA3.out.ok z hz
         ·rw [List.mem_singleton.1 hz]
          exact ⟨v, HV.out.1, HK.out, toList_inj (by rw [eq_of_beq ht, ByteArray.toList_eq]; rfl)⟩
        ·rw [take_succ HY.out.2.1, List.map_append, List.map_singleton, HNM.out]
         exact List.nodup_append.2 ⟨HA3.out.nd, by simp, fun a ha b hb => by rw [List.mem_singleton.1 hb]; rintro rfl; exact HNO.out ha⟩
      ·have HFI := Lib.hid (And.intro hi hfi)
       clear hi hfi
       go_wp2_with fail
       refine bodyPost_ret (v := .bool false) (by simp [results, Tryz.results21, go_sem]) rfl (NamedQ.no (fun hnm => ?_) HA3.out.below)
       have hnd := hnm.2.2
       simp only at hnd
       rw [← List.take_append_drop (j + 1) f4, take_succ HY.out.2.1, List.map_append, List.map_append, List.map_singleton, HNM.out] at hnd
       have h1 := (List.nodup_append.1 hnd).1
       exact (List.nodup_append.1 h1).2.2 _ (List.mem_of_getElem? HFI.out.2) _ (List.mem_singleton.2 rfl) rfl
     | false =>
      go_wp2_with fail
      refine bodyPost_ret (v := .bool false) (by simp [results, Tryz.results21, go_sem]) rfl (NamedQ.no (fun hnm => ?_) (below_alloc HA1.out.below _))
      obtain ⟨v', h1, h2, h3⟩ := hnm.2.1 y HY.out.2.2
      rw [HV.out.1] at h1
      injection h1 with h1
      subst h1
      rw [h3, ByteArray.toList_eq] at ht
      exact absurd ht (by decide)
    ·have hkb : (v.f0 == 1) = false := beq_false_of_ne hk
     have HK := Lib.hid hk
     clear hk
     go_wp2_with fail
     refine bodyPost_ret (v := .bool false) (by simp [results, Tryz.results21, go_sem]) rfl (NamedQ.no (fun hnm => ?_) (below_alloc HA1.out.below _))
     obtain ⟨v', h1, h2, h3⟩ := hnm.2.1 y HY.out.2.2
     rw [HV.out.1] at h1
     injection h1 with h1
     subst h1
     exact HK.out h2
   ·have HA1 := Lib.hid ((hI.out.under (below_alloc (Below.refl _ _) (.cells #[.int .i64 y.f0, .string y.f1, .string y.f2, .slice B3 y.f3.length d3, .slice B4 y.f4.length d4] 25))).under hb)
    have HV := Lib.hid h0
    clear h0 hb
    go_wp2_with fail
    refine bodyPost_ret (v := .bool false) (by simp [results, Tryz.results21, go_sem]) rfl (NamedQ.no (fun hnm => ?_) (below_alloc HA1.out.below _))
    obtain ⟨v', h1, h2, h3⟩ := hnm.2.1 y HY.out.2.2
    rw [HV.out] at h1
    cases h1
  ·have hqe : ¬ ((j : Int) < (L : Int)) := by omega
   have hqe' : ¬ (j < L) := by omega
   have x0 : wr.cell? ⟨w.heap.size, 0, none⟩ = some (.int .i64 f0) := (blk_cell hI.out.box 0).trans rfl
   have HJ := Lib.hid (show j = f4.length by have := H.out.2.2; omega)
   by_cases hf : f0 = 3
   ·have hfb : (f0 == 3) = true := beq_iff_eq.2 hf
    have HF := Lib.hid hf
    clear hf
    go_wp2_with fail
    refine bodyPost_ret (v := .bool true) (by simp [results, Tryz.results21, go_sem]) rfl (NamedQ.yes ⟨HF.out, ?_, ?_⟩ hI.out.below)
    ·have := hI.out.ok
     rwa [HJ.out, List.take_of_length_le (Nat.le_refl _)] at this
    ·have := hI.out.nd
     rwa [HJ.out, List.take_of_length_le (Nat.le_refl _)] at this
   ·have hfb : (f0 == 3) = false := beq_false_of_ne hf
    have HF := Lib.hid hf
    clear hf
    go_wp2_with fail
    exact bodyPost_ret (v := .bool false) (by simp [results, Tryz.results21, go_sem]) rfl (NamedQ.no (fun hnm => HF.out hnm.1) hI.out.below)
structure NdG (w : World) (P : Nat → Prop) (x : S25) (A3 : Option Addr) (c3 : Nat) (A4 : Option Addr) (c4 : Nat) : Prop where
 keys : Kd.F Kd.string w P A3 x.f3.length x.f3
 kcap : x.f3.length ≤ c3
 items : Kd.F k25 w P A4 x.f4.length x.f4
 icap : x.f4.length ≤ c4
section
variable {w w' : World} {P Q : Nat → Prop} {x : S25} {A3 A4 : Option Addr} {c3 c4 : Nat}
theorem NdG.now (h : NdG w P x A3 c3 A4 c4) : NdR w x A3 c3 A4 c4 := ⟨Kd.F_now h.keys, h.kcap, Kd.F_now h.items, h.icap⟩
theorem NdG.mono (h : NdG w P x A3 c3 A4 c4) (hpq : ∀ k, P k → Q k) : NdG w Q x A3 c3 A4 c4 := ⟨Kd.F_mono h.keys hpq, h.kcap, Kd.F_mono h.items hpq, h.icap⟩
theorem NdG.bound (h : NdG w P x A3 c3 A4 c4) : NdG w (fun k => P k ∧ k < w.heap.size) x A3 c3 A4 c4 := ⟨Kd.F_bound h.keys, h.kcap, Kd.F_bound h.items, h.icap⟩
theorem NdG.keep (h : NdG w P x A3 c3 A4 c4) {T : Nat → Prop} (hk : Keep T w w') (ht : ∀ k, P k → ¬ T k) : NdG w' P x A3 c3 A4 c4 :=
 ⟨Kd.F_step h.keys fun k h1 h2 => hk.block k h2 (ht k h1), h.kcap, Kd.F_step h.items fun k h1 h2 => hk.block k h2 (ht k h1), h.icap⟩
theorem NdG.below (h : NdG w P x A3 c3 A4 c4) (hb : Below w.heap.size w w') : NdG w' P x A3 c3 A4 c4 := h.keep (Keep.of_below hb fun _ => False) fun _ _ h => h
theorem NdF.g {base : Nat} (h : NdF w base x A3 c3 A4 c4) : NdG w (fun k => k < base) x A3 c3 A4 c4 := ⟨h.keys, h.kcap, h.items, h.icap⟩
theorem NdG.item (h : NdG w P x A3 c3 A4 c4) (j : Nat) (y : S25) (hk : x.f4[j]? = some y) : ∃ ad B3 d3 B4 d4, A4 = some ad ∧ w.cell? (ad.add (j * 5)) = some (.int .i64 y.f0) ∧ w.cell? ⟨(ad.add (j * 5)).block, (ad.add (j * 5)).off + 1, none⟩ = some (.string y.f1) ∧ w.cell? ⟨(ad.add (j * 5)).block, (ad.add (j * 5)).off + 2, none⟩ = some (.string y.f2) ∧
  w.cell? ⟨(ad.add (j * 5)).block, (ad.add (j * 5)).off + 3, none⟩ = some (.slice B3 y.f3.length d3) ∧ w.cell? ⟨(ad.add (j * 5)).block, (ad.add (j * 5)).off + 4, none⟩ = some (.slice B4 y.f4.length d4) ∧ NdG w P y B3 d3 B4 d4 := by
 have hj : j < x.f4.length := (List.getElem?_eq_some_iff.1 hk).1
 obtain ⟨ad, B3, d3, B4, d4, e1, y0, y1, y2, y3, y4, z1, z2, z3, z4⟩ := nd_at (Kd.F_now h.items) j y hj hk
 subst e1
 obtain ⟨ad', c, he, hcl, hFK, hcc, _⟩ := Kd.F_get h.items z25 (j : Int) (by omega) (by omega)
 injection he with he
 subst he
 have e : x.f4.getD (j : Int).toNat z25 = y := by simp [List.getD, hk]
 rw [e] at hFK
 obtain ⟨B3', d3', B4', d4', rfl, l3, F3, l4, F4⟩ := k25_openF hFK
 have g3 := hcc 3 _ rfl
 have g4 := hcc 4 _ rfl
 have es : k25.sz = 5 := rfl
 simp only [Int.toNat_natCast, es] at g3 g4
 have q3 : w.cell? (ad.add (j * 5 + 3)) = some (.slice B3 y.f3.length d3) := by rw [add_field _ _ 3 (by omega)]; exact y3
 have q4 : w.cell? (ad.add (j * 5 + 4)) = some (.slice B4 y.f4.length d4) := by rw [add_field _ _ 4 (by omega)]; exact y4
 rw [q3] at g3
 rw [q4] at g4
 injection g3 with g3
 injection g4 with g4
 injection g3 with g3 _ g3'
 injection g4 with g4 _ g4'
 subst g3; subst g4; subst g3'; subst g4'
 exact ⟨ad, _, _, _, _, rfl, y0, y1, y2, y3, y4, ⟨F3, l3, F4, l4⟩⟩
end
def FieldG (P : Nat → Prop) (x : S25) (name : ByteArray) (w : World) (e : Ending) (w' : World) : Prop := Below w.heap.size w w' ∧
 ((∃ y B3 d3 B4 d4, e = .returned (.tuple #[ndV y B3 d3 B4 d4, .bool true]) ∧ fieldP x name y ∧ NdG w' P y B3 d3 B4 d4) ∨ (e = .returned (.tuple #[zeroV, .bool false]) ∧ ¬ (x.f0 = 2 ∧ name ∈ x.f3)))
set_option maxRecDepth 20000 in
set_option maxHeartbeats 4000000 in
theorem fieldG20 (w : World) (P : Nat → Prop) (x : S25) (name : ByteArray) (A3 A4 : Option Addr) (c3 c4 : Nat) (h : NdG w P x A3 c3 A4 c4) (hlen : x.f0 = 2 → x.f3.length ≤ x.f4.length) :
  Calls Tryz.prog 20 #[ndV x A3 c3 A4 c4, .string name] w fun e w' => FieldG P x name w e w' := by
 obtain ⟨k, r, hk, hr⟩ := place_some x.f3 name h.now.klen
 have hb0 := below_alloc (below_alloc (Below.refl w.heap.size w) (.cells #[.int .i64 x.f0, .string x.f1, .string x.f2, .slice A3 x.f3.length c3, .slice A4 x.f4.length c4] 25)) (.cells #[.int .i64 0, .string noStr, .string noStr, nilS, nilS] 25)
 have HB := Lib.hid hb0
 have H := Lib.hid h
 have HL := Lib.hid hlen
 have HK := Lib.hid hk
 have HR := Lib.hid hr
 clear hb0 h hlen hk hr
 obtain ⟨f0, f1, f2, f3, f4⟩ := x
 go_enter Tryz.func20, Tryz.ntmps20
 go_wp2_with fail
 refine (spec_Place.calls k A3 c3 f3 name r _ (Kd.C_below H.out.now.keys HB.out) H.out.kcap HK.out).mono ?_
 rintro e w' ⟨rfl, nd, rfl⟩
 have HRB := Lib.hid (show ((((w.alloc (.cells #[.int .i64 f0, .string f1, .string f2, .slice A3 f3.length c3, .slice A4 f4.length c4] 25)).alloc (.cells #[.int .i64 0, .string noStr, .string noStr, nilS, nilS] 25))).drewN nd).heap[w.heap.size + 1]? = some (.cells #[.int .i64 0, .string noStr, .string noStr, nilS, nilS] 25 (0, 0)) from blk_drewN (blk_new (by simp) _))
 have HBN := Lib.hid (pw_below_drewN HB.out nd)
 by_cases hf : f0 = 2
 ·subst hf
  rcases HR.out with ⟨rfl, hno⟩ | ⟨i, rfl, hi, hfi⟩
  ·have HNO := Lib.hid hno
   clear hno
   go_wp2_with fail
   refine bodyPost_ret (results_ct rfl _ _ (w.heap.size + 1) 25 #[.int .i64 0, .string noStr, .string noStr, nilS, nilS] (0, 0) _ rfl ?_ Tryz.underlying25 rfl (by kernel_rfl)) rfl ?_
   ·exact put5_blk HRB.out _ _ _ _ _
   ·exact ⟨put5_below HBN.out (Nat.le_succ _) _ _ _ _ _, .inr ⟨rfl, fun h => HNO.out h.2⟩⟩
  ·have hfl := HL.out rfl
   have hi4 : i < f4.length := by omega
   obtain ⟨y, hy⟩ : ∃ y, f4[i]? = some y := ⟨_, List.getElem?_eq_getElem hi4⟩
   obtain ⟨ad4, B3, d3, B4, d4, e4_, y0, y1, y2, y3, y4, hng⟩ := H.out.item i y hy
   subst e4_
   have HY := Lib.hid (And.intro hfi (And.intro hy hng))
   have y0' := (HBN.out.cell (World.block_lt_of_cell? w _ y0)).trans y0
   have y1' := (HBN.out.cell (World.block_lt_of_cell? w _ y1)).trans y1
   have y2' := (HBN.out.cell (World.block_lt_of_cell? w _ y2)).trans y2
   have y3' := (HBN.out.cell (World.block_lt_of_cell? w _ y3)).trans y3
   have y4' := (HBN.out.cell (World.block_lt_of_cell? w _ y4)).trans y4
   clear y0 y1 y2 y3 y4 hng hfi hy
   go_wp2_with fail
   refine bodyPost_ret (results_ct rfl _ _ (w.heap.size + 1) 25 #[.int .i64 y.f0, .string y.f1, .string y.f2, .slice B3 y.f3.length d3, .slice B4 y.f4.length d4] (0, 0) _ rfl ?_ Tryz.underlying25 rfl (by kernel_rfl)) rfl ?_
   ·exact put5_blk HRB.out _ _ _ _ _
   ·have hbl := put5_below (g := w.heap.size + 1) HBN.out (Nat.le_succ _) (.int .i64 y.f0) (.string y.f1) (.string y.f2) (.slice B3 y.f3.length d3) (.slice B4 y.f4.length d4)
    exact ⟨hbl, .inl ⟨y, B3, d3, B4, d4, rfl, ⟨rfl, i, HY.out.1, HY.out.2.1⟩, HY.out.2.2.below hbl⟩⟩
 ·have hb : (f0 == 2) = false := beq_false_of_ne hf
  have HF := Lib.hid hf
  clear hf
  go_wp2_with fail
  refine bodyPost_ret (results_ct rfl _ _ (w.heap.size + 1) 25 #[.int .i64 0, .string noStr, .string noStr, nilS, nilS] (0, 0) _ rfl ?_ Tryz.underlying25 rfl (by kernel_rfl)) rfl ?_
  ·exact put5_blk HRB.out _ _ _ _ _
  ·exact ⟨put5_below HBN.out (Nat.le_succ _) _ _ _ _ _, .inr ⟨rfl, fun h => HF.out h.1⟩⟩
end Go.Proofs.YtghmajlfmoggfaaGreat
