import Derived.Test.YtghmajlfmoggfaaGreatMS5
set_option linter.unusedSimpArgs false
set_option linter.unusedVariables false
namespace Go.Proofs.YtghmajlfmoggfaaGreat
open Go.RowKit Go.Proofs.YtghmajlfmoggfaaGreatW.PrintWords Go.Proofs.YtghmajlfmoggfaaGreatW.PrintLast PFnMerge
def AlikeM : Nat → S25 → S25 → Prop
 | 0, _, _ => False
 | n + 1, x, y => x.f0 = y.f0 ∧ (x.f0 = 2 → ∀ key a b, fld x key a → fld y key b → AlikeM n a b) ∧ (x.f0 = 3 → (named x ↔ named y) ∧ (named x → ∀ a ∈ x.f4, ∀ b ∈ y.f4, nmo a = nmo b → AlikeM n a b))
def AlikeQM (d : Nat) (x y : S25) (w : World) (e : Ending) (w' : World) : Prop := ∃ b : Bool, e = .returned (.bool b) ∧ (b = true → AlikeM d x y) ∧ Below w.heap.size w w'
def AlikeCM (d : Nat) : Prop := ∀ (x y : S25), TreeB d x → TreeB d y → ∀ (w : World) (A3 A4 B3 B4 : Option Addr) (c3 c4 d3 d4 : Nat), NdR w x A3 c3 A4 c4 → NdR w y B3 d3 B4 d4 → Calls Tryz.prog 22 #[ndV x A3 c3 A4 c4, ndV y B3 d3 B4 d4] w fun e w' => AlikeQM d x y w e w'
open Classical in
theorem named_true {x : S25} (h : named x) : namedB x = true := decide_eq_true h
open Classical in
theorem named_iff {x y : S25} (h : namedB x = namedB y) : named x ↔ named y := decide_eq_decide.1 h
set_option maxRecDepth 20000 in
set_option maxHeartbeats 8000000 in
theorem alike22m : ∀ d, AlikeCM d := by
 intro d
 induction d with
 | zero => intro x y hx; exact hx.1.elim
 | succ d ih =>
  intro x y hx hy w A3 A4 B3 B4 c3 c4 d3 d4 ha hb
  obtain ⟨f0, f1, f2, f3, f4⟩ := x
  obtain ⟨g0, g1, g2, g3, g4⟩ := y
  obtain ⟨L3, hL3⟩ : ∃ L3, L3 = f3.length := ⟨_, rfl⟩
  obtain ⟨L4, hL4⟩ : ∃ L4, L4 = f4.length := ⟨_, rfl⟩
  obtain ⟨M3, hM3⟩ : ∃ M3, M3 = g3.length := ⟨_, rfl⟩
  obtain ⟨M4, hM4⟩ : ∃ M4, M4 = g4.length := ⟨_, rfl⟩
  have hargs : ndV ⟨f0, f1, f2, f3, f4⟩ A3 c3 A4 c4 = .agg #[.int .i64 f0, .string f1, .string f2, .slice A3 L3 c3, .slice A4 L4 c4] := by rw [hL3, hL4]
  have hargs2 : ndV ⟨g0, g1, g2, g3, g4⟩ B3 d3 B4 d4 = .agg #[.int .i64 g0, .string g1, .string g2, .slice B3 M3 d3, .slice B4 M4 d4] := by rw [hM3, hM4]
  rw [hargs, hargs2]
  clear hargs hargs2
  have HX := Lib.hid (And.intro hx (And.intro hy (And.intro ha hb)))
  have HL := Lib.hid (And.intro hL3 (And.intro hL4 (And.intro hM3 hM4)))
  have HI := Lib.hid ih
  have hn3 : (L3 : Int) ≤ 9223372036854775807 := by have := ha.klen; simp only at this; omega
  have hn4 : (L4 : Int) ≤ 1000000 := by have := hx.len; simp only at this; omega
  have hm4 : (M4 : Int) ≤ 1000000 := by have := hy.len; simp only at this; omega
  have HAK := Lib.hid (show AK w #[.int .i64 f0, .string f1, .string f2, .slice A3 L3 c3, .slice A4 L4 c4] #[.int .i64 g0, .string g1, .string g2, .slice B3 M3 d3, .slice B4 M4 d4] ((w.alloc (.cells #[.int .i64 f0, .string f1, .string f2, .slice A3 L3 c3, .slice A4 L4 c4] 25)).alloc (.cells #[.int .i64 g0, .string g1, .string g2, .slice B3 M3 d3, .slice B4 M4 d4] 25)) from ⟨below_alloc (below_alloc (Below.refl _ _) _) _, blk_old _ (blk_new rfl _), blk_new (by simp) _⟩)
  clear hx hy ha hb ih hL3 hL4 hM3 hM4
  by_cases hk : f0 = g0
  ·subst hk
   go_enter Tryz.func22, Tryz.ntmps22
   go_wp2_with fail
   go_loopg [21] L3 (fun k i wr => ∃ j : Nat, j + k = L3 ∧ i = .int .i64 (j : Int) ∧ Hid (AK w #[.int .i64 f0, .string f1, .string f2, .slice A3 L3 c3, .slice A4 L4 c4] #[.int .i64 f0, .string g1, .string g2, .slice B3 M3 d3, .slice B4 M4 d4] wr ∧ ∀ (i : Nat) key a b, i < j → f3[i]? = some key → f4[i]? = some a → fieldO ⟨f0, g1, g2, g3, g4⟩ key = some b → AlikeM d a b))
   case atStart => exact ⟨0, by omega, rfl, Lib.hid ⟨HAK.out, fun i _ _ _ h => by omega⟩⟩
   case round =>
    obtain ⟨j, hj, rfl, hI⟩ := hrel
    by_cases hlt : 1 ≤ gk
    ·have hj2 : (j : Int) < (L3 : Int) := by omega
     have hj3 : j < L3 := by omega
     have hjl : j < f3.length := by have := HL.out.1; omega
     obtain ⟨key, hkey⟩ : ∃ key, f3[j]? = some key := ⟨_, List.getElem?_eq_getElem hjl⟩
     have hf2 : f0 = 2 := by
      rcases HX.out.1.1 with ⟨_, h, _⟩ | ⟨h, _⟩ | ⟨_, _, _, h, _⟩
      ·simp only at h; rw [h] at hjl; simp at hjl
      ·exact h
      ·simp only at h; rw [h] at hjl; simp at hjl
     have hl34 : f3.length = f4.length := HX.out.1.1.nd.2 hf2
     obtain ⟨a, haj⟩ : ∃ a, f4[j]? = some a := ⟨_, List.getElem?_eq_getElem (by omega)⟩
     have hj4 : (j : Int) < (L4 : Int) := by have := HL.out.2.1; omega
     have hj4' : j < L4 := by omega
     obtain ⟨ad3, rfl, x3⟩ := str_at (HX.out.2.2.1.keys) j key hjl hkey
     have x3' := (hI.out.1.below.cell (World.block_lt_of_cell? w _ x3)).trans x3
     obtain ⟨b0, b1, b2, b3, b4⟩ := cl5 hI.out.1.boxb
     have HK := Lib.hid (And.intro hkey (And.intro haj (List.mem_of_getElem? haj)))
     clear hjl hkey hf2 hl34 haj x3
     go_wp2_with fail
     have hcall := fieldX wr ⟨f0, g1, g2, g3, g4⟩ key B3 B4 d3 d4 (HX.out.2.2.2.below hI.out.1.below) HX.out.2.1.1.nd
     simp only [ndV, ← HL.out.2.2.1, ← HL.out.2.2.2] at hcall
     refine hcall.mono ?_
     clear hcall
     rintro e w' ⟨hb, ⟨v, E3, e3, E4, e4, rfl, h0, h1⟩ | ⟨rfl, h0⟩⟩
     ·have HA1 := Lib.hid (hI.out.1.under hb)
      have HV := Lib.hid (And.intro h0 (And.intro h1 (And.intro hb (fieldO_inv h0))))
      clear h0 h1 hb b0 b1 b2 b3 b4
      go_wp2_with fail
      obtain ⟨W, hW⟩ : ∃ W, W = w'.alloc (.cells #[.int .i64 v.f0, .string v.f1, .string v.f2, .slice E3 v.f3.length e3, .slice E4 v.f4.length e4] 25) := ⟨_, rfl⟩
      have HA2 := Lib.hid (show AK w #[.int .i64 f0, .string f1, .string f2, .slice (some ad3) L3 c3, .slice A4 L4 c4] #[.int .i64 f0, .string g1, .string g2, .slice B3 M3 d3, .slice B4 M4 d4] W from hW ▸ HA1.out.under (below_alloc (Below.refl _ _) _))
      have HVW := Lib.hid (show NdR W v E3 e3 E4 e4 from hW ▸ HV.out.2.1.below (below_alloc (Below.refl _ _) _))
      have HBX := Lib.hid (show W.heap[w'.heap.size]? = some (.cells #[.int .i64 v.f0, .string v.f1, .string v.f2, .slice E3 v.f3.length e3, .slice E4 v.f4.length e4] 25 (0, 0)) from hW ▸ blk_new rfl _)
      rw [← hW]
      clear hW x3'
      obtain ⟨ad4, C3, cc3, C4, cc4, e4_, y0, y1, y2, y3, y4, hnd⟩ := (HX.out.2.2.1.below HA2.out.below).frame.item j a HK.out.2.1
      subst e4_
      have HND := Lib.hid hnd.now
      have x4 : W.cell? ⟨w.heap.size, 4, none⟩ = some (.slice (some ad4) L4 c4) := (blk_cell HA2.out.boxa 4).trans rfl
      obtain ⟨v0, v1, v2, v3, v4⟩ := cl5 HBX.out
      clear hnd
      obtain ⟨vb, hvb⟩ : ∃ vb, vb = w'.heap.size := ⟨_, rfl⟩
      rw [← hvb] at v0 v1 v2 v3 v4
      rw [← hvb]
      clear hvb
      refine start_ (n := 11) (S := fun w' => w'.cell? ⟨w.heap.size, 4, none⟩ = some (.slice (some ad4) L4 c4) ∧ w'.cell? (ad4.add (j * 5)) = some (.int .i64 a.f0) ∧ w'.cell? ⟨(ad4.add (j * 5)).block, (ad4.add (j * 5)).off + 1, none⟩ = some (.string a.f1) ∧ w'.cell? ⟨(ad4.add (j * 5)).block, (ad4.add (j * 5)).off + 2, none⟩ = some (.string a.f2) ∧ w'.cell? ⟨(ad4.add (j * 5)).block, (ad4.add (j * 5)).off + 3, none⟩ = some (.slice C3 a.f3.length cc3) ∧ w'.cell? ⟨(ad4.add (j * 5)).block, (ad4.add (j * 5)).off + 4, none⟩ = some (.slice C4 a.f4.length cc4) ∧ w'.cell? ⟨vb, 0, none⟩ = some (.int .i64 v.f0) ∧ w'.cell? ⟨vb, 1, none⟩ = some (.string v.f1) ∧ w'.cell? ⟨vb, 2, none⟩ = some (.string v.f2) ∧ w'.cell? ⟨vb, 3, none⟩ = some (.slice E3 v.f3.length e3) ∧ w'.cell? ⟨vb, 4, none⟩ = some (.slice E4 v.f4.length e4)) (ds := []) #[false, false, false, false, false, false, false, false, false, false, false] (by kernel_rfl) rfl rfl ⟨x4, y0, y1, y2, y3, y4, v0, v1, v2, v3, v4⟩ (fun hHeld => ?_)
      refine pu 0 (some 32) (bl 11 1) ?_
      refine pu 1 (some 33) (bl 11 3) ?_
      refine pu 2 (some 34) (bl 11 7) ?_
      refine pu 4 (some 36) (bl 11 23) ?_
      refine tk 3 (some 35) (bl 11 31) hHeld ?_
      refine pu 5 (some 37) (bl 11 63) ?_
      refine tk 6 (some 38) (bl 11 127) hHeld ?_
      refine tk 7 (some 39) (bl 11 255) hHeld ?_
      refine on_ 8 (some 40) (bl 11 511) fun K hK => ?_
      refine gs_ Tryz.func22 #[ndV a C3 cc3 C4 cc4, ndV v E3 e3 E4 e4] ?_
      refine (HI.out a v (HX.out.1.item a HK.out.2.2) (HX.out.2.1.item v (by obtain ⟨_, i, _, h⟩ := HV.out.2.2.2; exact List.mem_of_getElem? h)) _ C3 C4 E3 E4 cc3 cc4 e3 e4 (HND.out.below (below_drew (Below.refl _ _))) (HVW.out.below (below_drew (Below.refl _ _)))).mono ?_
      rintro e w9 ⟨bq, rfl, hq, hbc⟩
      have HQ := Lib.hid (And.intro hq hbc)
      have HBC := Lib.hid hbc
      clear hq hbc
      refine ⟨_, rfl, ?_⟩
      refine hK.out _ _ (he11 HBC.out hHeld) (fun hHeld => ?_)
      clear hK K
      refine nr (some 40) ?_
      refine pu 9 (some 41) (bl 11 1023) ?_
      refine pu 10 (some 42) (bl 11 2047) ?_
      refine done_ (by kernel_rfl) ?_
      cases bq with
      | true =>
       go_wp2_with fail
       go_roundg (gk - 1)
       case measure => omega
       case rel =>
        refine ⟨j + 1, by omega, by go_num, Lib.hid ⟨HA2.out.under ((below_drew (Below.refl _ _)).trans HQ.out.2), fun i key' a' b' hi h1 h2 h3 => ?_⟩⟩
        rcases Nat.lt_or_ge i j with h4 | h4
        ·exact hI.out.2 i key' a' b' h4 h1 h2 h3
        ·obtain rfl : i = j := by omega
         rw [HK.out.1] at h1
         rw [HK.out.2.1] at h2
         injection h1 with h1
         injection h2 with h2
         subst h1; subst h2
         rw [HV.out.1] at h3
         injection h3 with h3
         subst h3
         exact HQ.out.1 (by first | trivial | rfl)
      | false =>
       go_wp2_with fail
       exact bodyPost_ret (v := .bool false) (by simp [results, Tryz.results22, go_sem]) rfl ⟨false, rfl, by simp, (HA2.out.under ((below_drew (Below.refl _ _)).trans HQ.out.2)).below⟩
     ·have HA1 := Lib.hid (hI.out.1.under hb)
      have HV := Lib.hid h0
      clear h0 hb b0 b1 b2 b3 b4
      go_wp2_with fail
      obtain ⟨W, hW⟩ : ∃ W, W = w'.alloc (.cells #[.int .i64 0, .string noStr, .string noStr, nilS, nilS] 25) := ⟨_, rfl⟩
      have HA2 := Lib.hid (show AK w #[.int .i64 f0, .string f1, .string f2, .slice (some ad3) L3 c3, .slice A4 L4 c4] #[.int .i64 f0, .string g1, .string g2, .slice B3 M3 d3, .slice B4 M4 d4] W from hW ▸ HA1.out.under (below_alloc (Below.refl _ _) _))
      rw [← hW]
      clear hW x3'
      refine start_ (n := 11) (S := fun w' => True) (ds := []) #[false, false, false, false, false, false, false, false, false, false, false] (by kernel_rfl) rfl rfl trivial (fun hHeld => ?_)
      refine pu 0 (some 32) (bl 11 1) ?_
      refine pu 1 (some 33) (bl 11 3) ?_
      refine pd 2 (some 34) (bl 11 7) ?_
      refine pd 3 (some 35) (bl 11 15) ?_
      refine pd 4 (some 36) (bl 11 31) ?_
      refine pd 5 (some 37) (bl 11 63) ?_
      refine pd 6 (some 38) (bl 11 127) ?_
      refine pd 7 (some 39) (bl 11 255) ?_
      refine pd 8 (some 40) (bl 11 511) ?_
      refine pd 9 (some 41) (bl 11 1023) ?_
      refine pu 10 (some 42) (bl 11 2047) ?_
      refine done_ (by kernel_rfl) ?_
      go_wp2_with fail
      go_roundg (gk - 1)
      case measure => omega
      case rel =>
       refine ⟨j + 1, by omega, by go_num, Lib.hid ⟨HA2.out.under (below_drew (Below.refl _ _)), fun i key' a' b' hi h1 h2 h3 => ?_⟩⟩
       rcases Nat.lt_or_ge i j with h4 | h4
       ·exact hI.out.2 i key' a' b' h4 h1 h2 h3
       ·obtain rfl : i = j := by omega
        rw [HK.out.1] at h1
        injection h1 with h1
        subst h1
        rw [HV.out] at h3
        cases h3
    ·have hqe : ¬ ((j : Int) < (L3 : Int)) := by omega
     have hqe' : ¬ (j < L3) := by omega
     have HAL := Lib.hid (show f0 = 2 → ∀ key a b, fld ⟨f0, f1, f2, f3, f4⟩ key a → fld ⟨f0, g1, g2, g3, g4⟩ key b → AlikeM d a b from fun h2 key a b ha hb => by
      obtain ⟨i, h1, h3⟩ := fld_at' ha
      obtain ⟨i', h1', h3'⟩ := fld_at' hb
      exact hI.out.2 i key a b (by have := (List.getElem?_eq_some_iff.1 h1).1; have := HL.out.1; simp only at *; omega) h1 h3 (fieldO_some HX.out.2.1.1.nd.1 ⟨h2, i', h1', h3'⟩))
     have HA0 := Lib.hid hI.out.1
     have a0 : wr.cell? ⟨w.heap.size, 0, none⟩ = some (.int .i64 f0) := (blk_cell hI.out.1.boxa 0).trans rfl
     clear hI hj
     by_cases hf3 : f0 = 3
     ·subst hf3
      obtain ⟨nx, hnx⟩ : ∃ b, b = namedB ⟨3, f1, f2, f3, f4⟩ := ⟨_, rfl⟩
      obtain ⟨ny, hny⟩ : ∃ b, b = namedB ⟨3, g1, g2, g3, g4⟩ := ⟨_, rfl⟩
      have HNX := Lib.hid (And.intro hnx hny)
      clear hnx hny
      have a1 : wr.cell? ⟨w.heap.size, 1, none⟩ = some (.string f1) := (blk_cell HA0.out.boxa 1).trans rfl
      have a2 : wr.cell? ⟨w.heap.size, 2, none⟩ = some (.string f2) := (blk_cell HA0.out.boxa 2).trans rfl
      have a3 : wr.cell? ⟨w.heap.size, 3, none⟩ = some (.slice A3 L3 c3) := (blk_cell HA0.out.boxa 3).trans rfl
      have a4 : wr.cell? ⟨w.heap.size, 4, none⟩ = some (.slice A4 L4 c4) := (blk_cell HA0.out.boxa 4).trans rfl
      obtain ⟨b0, b1, b2, b3, b4⟩ := cl5 HA0.out.boxb
      go_wp2_with fail
      refine start_ (n := 5) (S := fun w' => w'.cell? ⟨w.heap.size, 0, none⟩ = some (.int .i64 3) ∧ w'.cell? ⟨w.heap.size, 1, none⟩ = some (.string f1) ∧ w'.cell? ⟨w.heap.size, 2, none⟩ = some (.string f2) ∧ w'.cell? ⟨w.heap.size, 3, none⟩ = some (.slice A3 L3 c3) ∧ w'.cell? ⟨w.heap.size, 4, none⟩ = some (.slice A4 L4 c4) ∧ w'.cell? ⟨w.heap.size + 1, 0, none⟩ = some (.int .i64 3) ∧ w'.cell? ⟨w.heap.size + 1, 1, none⟩ = some (.string g1) ∧ w'.cell? ⟨w.heap.size + 1, 2, none⟩ = some (.string g2) ∧ w'.cell? ⟨w.heap.size + 1, 3, none⟩ = some (.slice B3 M3 d3) ∧ w'.cell? ⟨w.heap.size + 1, 4, none⟩ = some (.slice B4 M4 d4)) (ds := []) #[false, false, false, false, false] (by kernel_rfl) rfl rfl ⟨a0, a1, a2, a3, a4, b0, b1, b2, b3, b4⟩ (fun hHeld => ?_)
      refine tk 0 (some 47) (bl 5 1) hHeld ?_
      refine tk 2 (some 49) (bl 5 5) hHeld ?_
      refine on_ 1 (some 48) (bl 5 7) fun K hK => ?_
      refine gs_ Tryz.func21 #[.agg #[.int .i64 3, .string f1, .string f2, .slice A3 L3 c3, .slice A4 L4 c4]] ?_
      have hcall := areNamed21 wr.drew ⟨3, f1, f2, f3, f4⟩ A3 A4 c3 c4 (HX.out.2.2.1.below (below_drew HA0.out.below)) (fun z hz => (HX.out.1.item z hz).1.nd) (by have := HX.out.1.len; simp only at *; omega)
      simp only [ndV, ← HL.out.1, ← HL.out.2.1] at hcall
      refine hcall.mono ?_
      clear hcall
      rintro e w7 ⟨e7, hbc⟩
      rw [← HNX.out.1] at e7
      subst e7
      have HB7 := Lib.hid hbc
      clear hbc
      refine ⟨_, rfl, ?_⟩
      refine hK.out _ _ (he10 HB7.out hHeld) (fun hHeld => ?_)
      clear hK K
      refine nr (some 48) ?_
      refine on_ 3 (some 50) (bl 5 15) fun K hK => ?_
      refine gs_ Tryz.func21 #[.agg #[.int .i64 3, .string g1, .string g2, .slice B3 M3 d3, .slice B4 M4 d4]] ?_
      have hcall := areNamed21 w7 ⟨3, g1, g2, g3, g4⟩ B3 B4 d3 d4 (HX.out.2.2.2.below (HA0.out.under ((below_drew (Below.refl wr.heap.size wr)).trans HB7.out)).below) (fun z hz => (HX.out.2.1.item z hz).1.nd) (by have := HX.out.2.1.len; simp only at *; omega)
      simp only [ndV, ← HL.out.2.2.1, ← HL.out.2.2.2] at hcall
      refine hcall.mono ?_
      clear hcall
      rintro e w8 ⟨e7, hbc⟩
      rw [← HNX.out.2] at e7
      subst e7
      have HB8 := Lib.hid hbc
      clear hbc
      refine ⟨_, rfl, ?_⟩
      refine hK.out _ _ (he10 HB8.out hHeld) (fun hHeld => ?_)
      clear hK K
      refine nr (some 50) ?_
      refine pu 4 (some 51) (bl 5 31) ?_
      refine done_ (by kernel_rfl) ?_
      clear a0 a1 a2 a3 a4 b0 b1 b2 b3 b4
      have HA8 := Lib.hid ((HA0.out.under ((below_drew (Below.refl wr.heap.size wr)).trans HB7.out)).under HB8.out)
      have a4 : w8.cell? ⟨w.heap.size, 4, none⟩ = some (.slice A4 L4 c4) := (blk_cell HA8.out.boxa 4).trans rfl
      by_cases hxy : nx = ny
      ·subst hxy
       have hxb : (nx != nx) = false := by cases nx <;> rfl
       have hxc : (!(nx == nx)) = false := by cases nx <;> rfl
       first | rw [hxb] | rw [hxc] | trace_state
       go_wp2_with fail
       clear a4 hxb hxc
       go_loopg [55] L4 (fun k i wr => ∃ j : Nat, j + k = L4 ∧ i = .int .i64 (j : Int) ∧ Hid (AK w #[.int .i64 3, .string f1, .string f2, .slice A3 L3 c3, .slice A4 L4 c4] #[.int .i64 3, .string g1, .string g2, .slice B3 M3 d3, .slice B4 M4 d4] wr) ∧ Hid (∀ (i q : Nat) a b, i < j → f4[i]? = some a → g4[q]? = some b → nx = true → nmo a = nmo b → AlikeM d a b))
       case atStart => exact ⟨0, by omega, rfl, HA8, Lib.hid fun i _ _ _ h => by omega⟩
       case round =>
        obtain ⟨j, hj, rfl, hI, hIF⟩ := hrel
        obtain ⟨gk0, hgk0⟩ : ∃ g, g = gk := ⟨_, rfl⟩
        by_cases hlt : 1 ≤ gk
        ·have hj2 : (j : Int) < (L4 : Int) := by omega
         have hj3 : j < L4 := by omega
         obtain ⟨a, haj⟩ : ∃ a, f4[j]? = some a := ⟨_, List.getElem?_eq_getElem (by have := HL.out.2.1; omega)⟩
         obtain ⟨ad4, C3, cc3, C4, cc4, e4_, y0, y1, y2, y3, y4, hnd⟩ := (HX.out.2.2.1.below hI.out.below).frame.item j a haj
         subst e4_
         have b4 : wr.cell? ⟨w.heap.size + 1, 4, none⟩ = some (.slice B4 M4 d4) := (blk_cell hI.out.boxb 4).trans rfl
         have b4' : (wr.alloc (.cells #[.int .i64 a.f0, .string a.f1, .string a.f2, .slice C3 a.f3.length cc3, .slice C4 a.f4.length cc4] 25)).cell? ⟨w.heap.size + 1, 4, none⟩ = some (.slice B4 M4 d4) := (blk_cell (blk_old _ hI.out.boxb) 4).trans rfl
         have HND := Lib.hid (And.intro hnd.now (List.mem_of_getElem? haj))
         have HAJ := Lib.hid haj
         clear hnd haj
         go_wp2_with fail
         obtain ⟨W, hW⟩ : ∃ W, W = wr.alloc (.cells #[.int .i64 a.f0, .string a.f1, .string a.f2, .slice C3 a.f3.length cc3, .slice C4 a.f4.length cc4] 25) := ⟨_, rfl⟩
         obtain ⟨ab, hab⟩ : ∃ ab, ab = wr.heap.size := ⟨_, rfl⟩
         have HAW := Lib.hid (show AK w #[.int .i64 3, .string f1, .string f2, .slice A3 L3 c3, .slice (some ad4) L4 c4] #[.int .i64 3, .string g1, .string g2, .slice B3 M3 d3, .slice B4 M4 d4] W ∧ W.heap[ab]? = some (.cells #[.int .i64 a.f0, .string a.f1, .string a.f2, .slice C3 a.f3.length cc3, .slice C4 a.f4.length cc4] 25 (0, 0)) ∧ NdR W a C3 cc3 C4 cc4 from hW ▸ ⟨hI.out.under (below_alloc (Below.refl _ _) _), hab ▸ blk_new rfl _, HND.out.1.below (below_alloc (Below.refl _ _) _)⟩)
         rw [← hW, ← hab]
         clear hW hab y0 y1 y2 y3 y4 b4 b4'
         go_loopg [62] M4 (fun k i wr => ∃ q : Nat, q + k = M4 ∧ i = .int .i64 (q : Int) ∧ Hid (AK w #[.int .i64 3, .string f1, .string f2, .slice A3 L3 c3, .slice (some ad4) L4 c4] #[.int .i64 3, .string g1, .string g2, .slice B3 M3 d3, .slice B4 M4 d4] wr ∧ wr.heap[ab]? = some (.cells #[.int .i64 a.f0, .string a.f1, .string a.f2, .slice C3 a.f3.length cc3, .slice C4 a.f4.length cc4] 25 (0, 0)) ∧ NdR wr a C3 cc3 C4 cc4) ∧ Hid (∀ (q' : Nat) b, q' < q → g4[q']? = some b → nx = true → nmo a = nmo b → AlikeM d a b))
         case atStart => exact ⟨0, by omega, rfl, HAW, Lib.hid fun _ _ h => by omega⟩
         case round =>
          obtain ⟨q, hq, rfl, hJ, hJF⟩ := hrel
          by_cases hlt2 : 1 ≤ gk
          ·have hq2 : (q : Int) < (M4 : Int) := by omega
           have hq3 : q < M4 := by omega
           obtain ⟨v, hvq⟩ : ∃ v, g4[q]? = some v := ⟨_, List.getElem?_eq_getElem (by have := HL.out.2.2.2; omega)⟩
           obtain ⟨bd4, E3, e3, E4, e4, e4_, y0, y1, y2, y3, y4, hnd⟩ := (HX.out.2.2.2.below hJ.out.1.below).frame.item q v hvq
           subst e4_
           have HVD := Lib.hid (And.intro hnd.now (List.mem_of_getElem? hvq))
           have HVQ := Lib.hid hvq
           clear hnd hvq
           go_wp2_with fail
           obtain ⟨Z, hZ⟩ : ∃ Z, Z = wr.alloc (.cells #[.int .i64 v.f0, .string v.f1, .string v.f2, .slice E3 v.f3.length e3, .slice E4 v.f4.length e4] 25) := ⟨_, rfl⟩
           obtain ⟨vb, hvb⟩ : ∃ vb, vb = wr.heap.size := ⟨_, rfl⟩
           have HZ := Lib.hid (show (AK w #[.int .i64 3, .string f1, .string f2, .slice A3 L3 c3, .slice (some ad4) L4 c4] #[.int .i64 3, .string g1, .string g2, .slice B3 M3 d3, .slice (some bd4) M4 d4] Z ∧ Z.heap[ab]? = some (.cells #[.int .i64 a.f0, .string a.f1, .string a.f2, .slice C3 a.f3.length cc3, .slice C4 a.f4.length cc4] 25 (0, 0)) ∧ NdR Z a C3 cc3 C4 cc4) ∧ Z.heap[vb]? = some (.cells #[.int .i64 v.f0, .string v.f1, .string v.f2, .slice E3 v.f3.length e3, .slice E4 v.f4.length e4] 25 (0, 0)) ∧ NdR Z v E3 e3 E4 e4 from hZ ▸ ⟨⟨hJ.out.1.under (below_alloc (Below.refl _ _) _), blk_old _ hJ.out.2.1, hJ.out.2.2.below (below_alloc (Below.refl _ _) _)⟩, hvb ▸ blk_new rfl _, HVD.out.1.below (below_alloc (Below.refl _ _) _)⟩)
           rw [← hZ, ← hvb]
           clear hZ hvb y0 y1 y2 y3 y4
           obtain ⟨s0, s1, s2, s3, s4⟩ := cl5 HZ.out.1.1.boxa
           obtain ⟨t0, t1, t2, t3, t4⟩ := cl5 HZ.out.1.2.1
           obtain ⟨r0, r1, r2, r3, r4⟩ := cl5 HZ.out.2.1
           cases nx with
           | false =>
            refine start_ (n := 15) (S := fun w' => w'.cell? ⟨w.heap.size, 0, none⟩ = some (.int .i64 3) ∧ w'.cell? ⟨w.heap.size, 1, none⟩ = some (.string f1) ∧ w'.cell? ⟨w.heap.size, 2, none⟩ = some (.string f2) ∧ w'.cell? ⟨w.heap.size, 3, none⟩ = some (.slice A3 L3 c3) ∧ w'.cell? ⟨w.heap.size, 4, none⟩ = some (.slice (some ad4) L4 c4) ∧ w'.cell? ⟨ab, 0, none⟩ = some (.int .i64 a.f0) ∧ w'.cell? ⟨ab, 1, none⟩ = some (.string a.f1) ∧ w'.cell? ⟨ab, 2, none⟩ = some (.string a.f2) ∧ w'.cell? ⟨ab, 3, none⟩ = some (.slice C3 a.f3.length cc3) ∧ w'.cell? ⟨ab, 4, none⟩ = some (.slice C4 a.f4.length cc4) ∧ w'.cell? ⟨vb, 0, none⟩ = some (.int .i64 v.f0) ∧ w'.cell? ⟨vb, 1, none⟩ = some (.string v.f1) ∧ w'.cell? ⟨vb, 2, none⟩ = some (.string v.f2) ∧ w'.cell? ⟨vb, 3, none⟩ = some (.slice E3 v.f3.length e3) ∧ w'.cell? ⟨vb, 4, none⟩ = some (.slice E4 v.f4.length e4)) (ds := []) #[false, false, false, false, false, false, false, false, false, false, false, false, false, false, false] (by kernel_rfl) rfl rfl ⟨s0, s1, s2, s3, s4, t0, t1, t2, t3, t4, r0, r1, r2, r3, r4⟩ (fun hHeld => ?_)
            refine tk 0 (some 66) (bl 15 1) hHeld ?_
            refine on_ 1 (some 67) (bl 15 3) fun K hK => ?_
            refine gs_ Tryz.func21 #[.agg #[.int .i64 3, .string f1, .string f2, .slice A3 L3 c3, .slice (some ad4) L4 c4]] ?_
            have hcall := areNamed21 Z.drew ⟨3, f1, f2, f3, f4⟩ A3 (some ad4) c3 c4 (HX.out.2.2.1.below (below_drew HZ.out.1.1.below)) (fun z hz => (HX.out.1.item z hz).1.nd) (by have := HX.out.1.len; simp only at *; omega)
            simp only [ndV, ← HL.out.1, ← HL.out.2.1] at hcall
            refine hcall.mono ?_
            clear hcall
            rintro e w7 ⟨e7, hbc⟩
            rw [← HNX.out.1] at e7
            subst e7
            have HB7 := Lib.hid hbc
            clear hbc
            refine ⟨_, rfl, ?_⟩
            refine hK.out _ _ (he15 HB7.out hHeld) (fun hHeld => ?_)
            clear hK K
            refine nr (some 67) ?_
            refine pu 2 (some 68) (bl 15 7) ?_
            refine pd 3 (some 69) (bl 15 15) ?_
            refine pd 4 (some 70) (bl 15 31) ?_
            refine pd 5 (some 71) (bl 15 63) ?_
            refine pd 6 (some 72) (bl 15 127) ?_
            refine pd 7 (some 73) (bl 15 255) ?_
            refine pu 8 (some 74) (bl 15 511) ?_
            refine pu 9 (some 75) (bl 15 1023) ?_
            refine pd 10 (some 76) (bl 15 2047) ?_
            refine pd 11 (some 77) (bl 15 4095) ?_
            refine pd 12 (some 78) (bl 15 8191) ?_
            refine pd 13 (some 79) (bl 15 16383) ?_
            refine pu 14 (some 80) (bl 15 32767) ?_
            refine done_ (by kernel_rfl) ?_
            go_wp2_with fail
            go_roundg (gk - 1)
            case measure => omega
            case rel => exact ⟨q + 1, by omega, by go_num, Lib.hid ⟨(HZ.out.1.1.under (below_drew (Below.refl _ _))).under HB7.out, (HB7.out.block _ (lt_of_block HZ.out.1.2.1)).trans HZ.out.1.2.1, (HZ.out.1.2.2.below (below_drew (Below.refl _ _))).below HB7.out⟩, Lib.hid fun _ _ _ _ h => absurd h (by decide)⟩
           | true =>
            cases hnn : ((nmo a).toList == (nmo v).toList) with
            | false =>
             have HNN := Lib.hid hnn
             refine start_ (n := 15) (S := fun w' => w'.cell? ⟨w.heap.size, 0, none⟩ = some (.int .i64 3) ∧ w'.cell? ⟨w.heap.size, 1, none⟩ = some (.string f1) ∧ w'.cell? ⟨w.heap.size, 2, none⟩ = some (.string f2) ∧ w'.cell? ⟨w.heap.size, 3, none⟩ = some (.slice A3 L3 c3) ∧ w'.cell? ⟨w.heap.size, 4, none⟩ = some (.slice (some ad4) L4 c4) ∧ w'.cell? ⟨ab, 0, none⟩ = some (.int .i64 a.f0) ∧ w'.cell? ⟨ab, 1, none⟩ = some (.string a.f1) ∧ w'.cell? ⟨ab, 2, none⟩ = some (.string a.f2) ∧ w'.cell? ⟨ab, 3, none⟩ = some (.slice C3 a.f3.length cc3) ∧ w'.cell? ⟨ab, 4, none⟩ = some (.slice C4 a.f4.length cc4) ∧ w'.cell? ⟨vb, 0, none⟩ = some (.int .i64 v.f0) ∧ w'.cell? ⟨vb, 1, none⟩ = some (.string v.f1) ∧ w'.cell? ⟨vb, 2, none⟩ = some (.string v.f2) ∧ w'.cell? ⟨vb, 3, none⟩ = some (.slice E3 v.f3.length e3) ∧ w'.cell? ⟨vb, 4, none⟩ = some (.slice E4 v.f4.length e4)) (ds := []) #[false, false, false, false, false, false, false, false, false, false, false, false, false, false, false] (by kernel_rfl) rfl rfl ⟨s0, s1, s2, s3, s4, t0, t1, t2, t3, t4, r0, r1, r2, r3, r4⟩ (fun hHeld => ?_)
             refine tk 0 (some 66) (bl 15 1) hHeld ?_
             refine on_ 1 (some 67) (bl 15 3) fun K hK => ?_
             refine gs_ Tryz.func21 #[.agg #[.int .i64 3, .string f1, .string f2, .slice A3 L3 c3, .slice (some ad4) L4 c4]] ?_
             have hcall := areNamed21 Z.drew ⟨3, f1, f2, f3, f4⟩ A3 (some ad4) c3 c4 (HX.out.2.2.1.below (below_drew HZ.out.1.1.below)) (fun z hz => (HX.out.1.item z hz).1.nd) (by have := HX.out.1.len; simp only at *; omega)
             simp only [ndV, ← HL.out.1, ← HL.out.2.1] at hcall
             refine hcall.mono ?_
             clear hcall
             rintro e w7 ⟨e7, hbc⟩
             rw [← HNX.out.1] at e7
             subst e7
             have HB7 := Lib.hid hbc
             clear hbc
             refine ⟨_, rfl, ?_⟩
             refine hK.out _ _ (he15 HB7.out hHeld) (fun hHeld => ?_)
             clear hK K
             refine nr (some 67) ?_
             refine pu 2 (some 68) (bl 15 7) ?_
             refine tk 3 (some 69) (bl 15 15) hHeld ?_
             refine tk 5 (some 71) (bl 15 47) hHeld ?_
             refine on_ 4 (some 70) (bl 15 63) fun K hK => ?_
             refine gs_ Tryz.func25 #[ndV a C3 cc3 C4 cc4] ?_
             refine (nameOf25 w7 a C3 C4 cc3 cc4 (HZ.out.1.2.2.below ((below_drew (Below.refl Z.heap.size Z)).trans HB7.out)) ((HX.out.1.item a HND.out.2).1.nd)).mono ?_
             rintro e w8 ⟨rfl, hbc⟩
             have HB8 := Lib.hid hbc
             clear hbc
             refine ⟨_, rfl, ?_⟩
             refine hK.out _ _ (he15 HB8.out hHeld) (fun hHeld => ?_)
             clear hK K
             refine nr (some 70) ?_
             refine on_ 6 (some 72) (bl 15 127) fun K hK => ?_
             refine gs_ Tryz.func25 #[ndV v E3 e3 E4 e4] ?_
             refine (nameOf25 w8 v E3 E4 e3 e4 ((HZ.out.2.2.below ((below_drew (Below.refl Z.heap.size Z)).trans HB7.out)).below HB8.out) ((HX.out.2.1.item v HVD.out.2).1.nd)).mono ?_
             rintro e w9 ⟨rfl, hbc⟩
             have HB9_ := Lib.hid hbc
             clear hbc
             have HB9 := Lib.hid (show Below Z.heap.size Z w9 from (((below_drew (Below.refl Z.heap.size Z)).trans HB7.out).trans (HB8.out.mono ((below_drew (Below.refl Z.heap.size Z)).trans HB7.out).size)).trans (HB9_.out.mono (Nat.le_trans ((below_drew (Below.refl Z.heap.size Z)).trans HB7.out).size HB8.out.size)))
             have HA9 := Lib.hid (HZ.out.1.1.under HB9.out)
             refine ⟨_, rfl, ?_⟩
             refine hK.out _ _ (he15 HB9_.out hHeld) (fun hHeld => ?_)
             clear hK K
             refine nr (some 72) ?_
             refine pu 7 (some 73) (bl 15 255) ?_
             refine pu 8 (some 74) (bl 15 511) ?_
             refine pu 9 (some 75) (bl 15 1023) ?_
             refine pd 10 (some 76) (bl 15 2047) ?_
             refine pd 11 (some 77) (bl 15 4095) ?_
             refine pd 12 (some 78) (bl 15 8191) ?_
             refine pd 13 (some 79) (bl 15 16383) ?_
             refine pu 14 (some 80) (bl 15 32767) ?_
             refine done_ (by kernel_rfl) ?_
             go_wp2_with fail
             go_roundg (gk - 1)
             case measure => omega
             case rel => exact ⟨q + 1, by omega, by go_num, Lib.hid ⟨HA9.out, (HB9.out.block _ (lt_of_block HZ.out.1.2.1)).trans HZ.out.1.2.1, HZ.out.1.2.2.below HB9.out⟩, Lib.hid fun q' b' h1 h2 h3 h4 => by
                rcases Nat.lt_or_ge q' q with h5 | h5
                ·exact hJF.out q' b' h5 h2 (by first | trivial | rfl) h4
                ·obtain rfl : q' = q := by omega
                 have h6 := h2.symm.trans HVQ.out
                 injection h6 with h6
                 subst h6
                 exact absurd HNN.out (by rw [h4]; simp)⟩
            | true =>
             refine start_ (n := 15) (S := fun w' => w'.cell? ⟨w.heap.size, 0, none⟩ = some (.int .i64 3) ∧ w'.cell? ⟨w.heap.size, 1, none⟩ = some (.string f1) ∧ w'.cell? ⟨w.heap.size, 2, none⟩ = some (.string f2) ∧ w'.cell? ⟨w.heap.size, 3, none⟩ = some (.slice A3 L3 c3) ∧ w'.cell? ⟨w.heap.size, 4, none⟩ = some (.slice (some ad4) L4 c4) ∧ w'.cell? ⟨ab, 0, none⟩ = some (.int .i64 a.f0) ∧ w'.cell? ⟨ab, 1, none⟩ = some (.string a.f1) ∧ w'.cell? ⟨ab, 2, none⟩ = some (.string a.f2) ∧ w'.cell? ⟨ab, 3, none⟩ = some (.slice C3 a.f3.length cc3) ∧ w'.cell? ⟨ab, 4, none⟩ = some (.slice C4 a.f4.length cc4) ∧ w'.cell? ⟨vb, 0, none⟩ = some (.int .i64 v.f0) ∧ w'.cell? ⟨vb, 1, none⟩ = some (.string v.f1) ∧ w'.cell? ⟨vb, 2, none⟩ = some (.string v.f2) ∧ w'.cell? ⟨vb, 3, none⟩ = some (.slice E3 v.f3.length e3) ∧ w'.cell? ⟨vb, 4, none⟩ = some (.slice E4 v.f4.length e4)) (ds := []) #[false, false, false, false, false, false, false, false, false, false, false, false, false, false, false] (by kernel_rfl) rfl rfl ⟨s0, s1, s2, s3, s4, t0, t1, t2, t3, t4, r0, r1, r2, r3, r4⟩ (fun hHeld => ?_)
             refine tk 0 (some 66) (bl 15 1) hHeld ?_
             refine on_ 1 (some 67) (bl 15 3) fun K hK => ?_
             refine gs_ Tryz.func21 #[.agg #[.int .i64 3, .string f1, .string f2, .slice A3 L3 c3, .slice (some ad4) L4 c4]] ?_
             have hcall := areNamed21 Z.drew ⟨3, f1, f2, f3, f4⟩ A3 (some ad4) c3 c4 (HX.out.2.2.1.below (below_drew HZ.out.1.1.below)) (fun z hz => (HX.out.1.item z hz).1.nd) (by have := HX.out.1.len; simp only at *; omega)
             simp only [ndV, ← HL.out.1, ← HL.out.2.1] at hcall
             refine hcall.mono ?_
             clear hcall
             rintro e w7 ⟨e7, hbc⟩
             rw [← HNX.out.1] at e7
             subst e7
             have HB7 := Lib.hid hbc
             clear hbc
             refine ⟨_, rfl, ?_⟩
             refine hK.out _ _ (he15 HB7.out hHeld) (fun hHeld => ?_)
             clear hK K
             refine nr (some 67) ?_
             refine pu 2 (some 68) (bl 15 7) ?_
             refine tk 3 (some 69) (bl 15 15) hHeld ?_
             refine tk 5 (some 71) (bl 15 47) hHeld ?_
             refine on_ 4 (some 70) (bl 15 63) fun K hK => ?_
             refine gs_ Tryz.func25 #[ndV a C3 cc3 C4 cc4] ?_
             refine (nameOf25 w7 a C3 C4 cc3 cc4 (HZ.out.1.2.2.below ((below_drew (Below.refl Z.heap.size Z)).trans HB7.out)) ((HX.out.1.item a HND.out.2).1.nd)).mono ?_
             rintro e w8 ⟨rfl, hbc⟩
             have HB8 := Lib.hid hbc
             clear hbc
             refine ⟨_, rfl, ?_⟩
             refine hK.out _ _ (he15 HB8.out hHeld) (fun hHeld => ?_)
             clear hK K
             refine nr (some 70) ?_
             refine on_ 6 (some 72) (bl 15 127) fun K hK => ?_
             refine gs_ Tryz.func25 #[ndV v E3 e3 E4 e4] ?_
             refine (nameOf25 w8 v E3 E4 e3 e4 ((HZ.out.2.2.below ((below_drew (Below.refl Z.heap.size Z)).trans HB7.out)).below HB8.out) ((HX.out.2.1.item v HVD.out.2).1.nd)).mono ?_
             rintro e w9 ⟨rfl, hbc⟩
             have HB9_ := Lib.hid hbc
             clear hbc
             have HB9 := Lib.hid (show Below Z.heap.size Z w9 from (((below_drew (Below.refl Z.heap.size Z)).trans HB7.out).trans (HB8.out.mono ((below_drew (Below.refl Z.heap.size Z)).trans HB7.out).size)).trans (HB9_.out.mono (Nat.le_trans ((below_drew (Below.refl Z.heap.size Z)).trans HB7.out).size HB8.out.size)))
             have HA9 := Lib.hid (HZ.out.1.1.under HB9.out)
             refine ⟨_, rfl, ?_⟩
             refine hK.out _ _ (he15 HB9_.out hHeld) (fun hHeld => ?_)
             clear hK K
             refine nr (some 72) ?_
             refine pu 7 (some 73) (bl 15 255) ?_
             refine pu 8 (some 74) (bl 15 511) ?_
             refine pu 9 (some 75) (bl 15 1023) ?_
             refine tk 10 (some 76) (bl 15 2047) hHeld ?_
             refine tk 11 (some 77) (bl 15 4095) hHeld ?_
             refine on_ 12 (some 78) (bl 15 8191) fun K hK => ?_
             refine gs_ Tryz.func22 #[ndV a C3 cc3 C4 cc4, ndV v E3 e3 E4 e4] ?_
             refine (HI.out a v (HX.out.1.item a HND.out.2) (HX.out.2.1.item v HVD.out.2) w9 C3 C4 E3 E4 cc3 cc4 e3 e4 (HZ.out.1.2.2.below HB9.out) (HZ.out.2.2.below HB9.out)).mono ?_
             rintro e w10 ⟨bq, rfl, hq, hbc⟩
             have HQ := Lib.hid hbc
             have HQA := Lib.hid hq
             clear hq hbc
             refine ⟨_, rfl, ?_⟩
             refine hK.out _ _ (he15 HQ.out hHeld) (fun hHeld => ?_)
             clear hK K
             refine nr (some 78) ?_
             refine pu 13 (some 79) (bl 15 16383) ?_
             refine pu 14 (some 80) (bl 15 32767) ?_
             refine done_ (by kernel_rfl) ?_
             cases bq with
             | true =>
              go_wp2_with fail
              go_roundg (gk - 1)
              case measure => omega
              case rel => exact ⟨q + 1, by omega, by go_num, Lib.hid ⟨HA9.out.under HQ.out, ((HB9.out.trans (HQ.out.mono HB9.out.size)).block _ (lt_of_block HZ.out.1.2.1)).trans HZ.out.1.2.1, (HZ.out.1.2.2.below HB9.out).below HQ.out⟩, Lib.hid fun q' b' h1 h2 h3 h4 => by
                 rcases Nat.lt_or_ge q' q with h5 | h5
                 ·exact hJF.out q' b' h5 h2 (by first | trivial | rfl) h4
                 ·obtain rfl : q' = q := by omega
                  have h6 := h2.symm.trans HVQ.out
                  injection h6 with h6
                  subst h6
                  exact HQA.out (by first | trivial | rfl)⟩
             | false =>
              go_wp2_with fail
              exact bodyPost_ret (v := .bool false) (by simp [results, Tryz.results22, go_sem]) rfl ⟨false, rfl, by simp, (HA9.out.under HQ.out).below⟩
          ·have hqe : ¬ ((q : Int) < (M4 : Int)) := by omega
           have hqe' : ¬ (q < M4) := by omega
           have HA9 := Lib.hid hJ.out.1
           clear hJ hq
           go_wp2_with fail
           go_roundg (gk0 - 1)
           case measure => omega
           case rel =>
            refine ⟨j + 1, by omega, by go_num, HA9, Lib.hid fun i q' a' b' h1 h2 h3 h4 h5 => ?_⟩
            rcases Nat.lt_or_ge i j with h6 | h6
            ·exact hIF.out i q' a' b' h6 h2 h3 h4 h5
            ·obtain rfl : i = j := by omega
             have h7 := h2.symm.trans HAJ.out
             injection h7 with h7
             subst h7
             exact hJF.out q' b' (by have := (List.getElem?_eq_some_iff.1 h3).1; have := HL.out.2.2.2; omega) h3 h4 h5
        ·have hqe : ¬ ((j : Int) < (L4 : Int)) := by omega
         have hqe' : ¬ (j < L4) := by omega
         go_wp2_with fail
         exact bodyPost_ret (v := .bool true) (by simp [results, Tryz.results22, go_sem]) rfl ⟨true, rfl, fun _ => ⟨rfl, HAL.out, fun _ => ⟨named_iff (HNX.out.1.symm.trans HNX.out.2), fun hn a ha b hb he => by
          obtain ⟨i, hi⟩ := List.getElem?_of_mem ha
          obtain ⟨q, hq⟩ := List.getElem?_of_mem hb
          exact hIF.out i q a b (by have := (List.getElem?_eq_some_iff.1 hi).1; have := HL.out.2.1; simp only at *; omega) hi hq (HNX.out.1.trans (named_true hn)) he⟩⟩, hI.out.below⟩
      ·have hxyb : (nx != ny) = true := by rw [bne, beq_false_of_ne hxy]; rfl
       have hxyc : (!(nx == ny)) = true := by rw [beq_false_of_ne hxy]; rfl
       first | rw [hxyb] | rw [hxyc] | trace_state
       clear hxy
       go_wp2_with fail
       exact bodyPost_ret (v := .bool false) (by simp [results, Tryz.results22, go_sem]) rfl ⟨false, rfl, by simp, HA8.out.below⟩
     ·have hfb : (f0 == 3) = false := beq_false_of_ne hf3
      have HF3 := Lib.hid hf3
      clear hf3
      go_wp2_with fail
      exact bodyPost_ret (v := .bool true) (by simp [results, Tryz.results22, go_sem]) rfl ⟨true, rfl, fun _ => ⟨rfl, HAL.out, fun h => absurd h HF3.out⟩, HA0.out.below⟩
  ·have hkb : (f0 == g0) = false := beq_false_of_ne hk
   clear hk
   go_enter Tryz.func22, Tryz.ntmps22
   go_wp2_with fail
   exact bodyPost_ret (v := .bool false) (by simp [results, Tryz.results22, go_sem]) rfl ⟨false, rfl, by simp, HAK.out.below⟩
set_option maxRecDepth 20000 in
set_option maxHeartbeats 8000000 in
theorem areAlike10m (d : Nat) (x y : S25) (hx : TreeB d x) (hy : TreeB d y) (w : World) (A : Option Addr) (c : Nat) (hC : Kd.C k25 w A 2 [x, y]) (hc : 2 ≤ c) : Calls Tryz.prog 10 #[.slice A 2 c] w fun e w' => AlikeQM d y x w e w' := by
 obtain ⟨ad, E3, e3, E4, e4, rfl, x0, x1, x2, x3, x4, h1, h2, h3, h4⟩ := nd_at hC 0 x (by omega) rfl
 obtain ⟨ad', F3, g3, F4, g4, e_, y0, y1, y2, y3, y4, k1, k2, k3, k4⟩ := nd_at hC 1 y (by omega) rfl
 injection e_ with e_
 subst e_
 have HX := Lib.hid (And.intro hx (And.intro hy (And.intro (show NdR w x E3 e3 E4 e4 from ⟨h2, h1, h4, h3⟩) (show NdR w y F3 g3 F4 g4 from ⟨k2, k1, k4, k3⟩))))
 have HC := Lib.hid (And.intro hC (show (∀ i : Nat, True) from fun _ => trivial))
 have HXC := Lib.hid (And.intro x0 (And.intro x1 (And.intro x2 (And.intro x3 x4))))
 have HYC := Lib.hid (And.intro y0 (And.intro y1 (And.intro y2 (And.intro y3 y4))))
 have hc0 : (0 : Int) ≤ (c : Int) := by omega
 have hc1 : (1 : Int) ≤ (c : Int) := by omega
 have hc1' : 1 ≤ c := by omega
 clear h1 h2 h3 h4 k1 k2 k3 k4 x0 x1 x2 x3 x4 y0 y1 y2 y3 y4 hx hy hC
 go_enter Tryz.func10, Tryz.ntmps10
 go_wp2_with fail
 go_loopg [7] 2 (fun k i wr => ∃ j : Nat, j + k = 2 ∧ i = .int .i64 (j : Int) ∧ Hid (Below w.heap.size w wr ∧ (j = 2 → AlikeM d y x)))
 case atStart => exact ⟨0, by omega, rfl, Lib.hid ⟨Below.refl _ _, fun e => by omega⟩⟩
 case round =>
  obtain ⟨j, hj, rfl, hI⟩ := hrel
  obtain ⟨gk0, hgk0⟩ : ∃ g, g = gk := ⟨_, rfl⟩
  rcases (show j = 0 ∨ j = 1 ∨ j = 2 by omega) with rfl | rfl | rfl
  ·go_wp2_with fail
   go_loopg [14] 0 (fun k i wr => i = .int .i64 0 ∧ Hid (Below w.heap.size w wr))
   case atStart => exact ⟨rfl, Lib.hid hI.out.1⟩
   case round =>
    obtain ⟨rfl, hJ⟩ := hrel
    go_wp2_with fail
    go_roundg (gk0 - 1)
    case measure => omega
    case rel => exact ⟨1, by omega, by go_num, Lib.hid ⟨hJ.out, fun e => by omega⟩⟩
  ·go_wp2_with fail
   go_loopg [14] 1 (fun k i wr => ∃ q : Nat, q + k = 1 ∧ i = .int .i64 (q : Int) ∧ Hid (Below w.heap.size w wr ∧ (q = 1 → AlikeM d y x)))
   case atStart => exact ⟨0, by omega, rfl, Lib.hid ⟨hI.out.1, fun e => by omega⟩⟩
   case round =>
    obtain ⟨q, hq, rfl, hJ⟩ := hrel
    rcases (show q = 0 ∨ q = 1 by omega) with rfl | rfl
    ·have x0 := (hJ.out.1.cell (World.block_lt_of_cell? w _ HXC.out.1)).trans HXC.out.1
     have x1 : wr.cell? ⟨ad.block, ad.off + 1, none⟩ = some (.string x.f1) := by have h := (hJ.out.1.cell (World.block_lt_of_cell? w _ HXC.out.2.1)).trans HXC.out.2.1; simpa [Addr.add] using h
     have x2 : wr.cell? ⟨ad.block, ad.off + 2, none⟩ = some (.string x.f2) := by have h := (hJ.out.1.cell (World.block_lt_of_cell? w _ HXC.out.2.2.1)).trans HXC.out.2.2.1; simpa [Addr.add] using h
     have x3 : wr.cell? ⟨ad.block, ad.off + 3, none⟩ = some (.slice E3 x.f3.length e3) := by have h := (hJ.out.1.cell (World.block_lt_of_cell? w _ HXC.out.2.2.2.1)).trans HXC.out.2.2.2.1; simpa [Addr.add] using h
     have x4 : wr.cell? ⟨ad.block, ad.off + 4, none⟩ = some (.slice E4 x.f4.length e4) := by have h := (hJ.out.1.cell (World.block_lt_of_cell? w _ HXC.out.2.2.2.2)).trans HXC.out.2.2.2.2; simpa [Addr.add] using h
     have y0 : wr.cell? ⟨ad.block, ad.off + 5, none⟩ = some (.int .i64 y.f0) := by have h := (hJ.out.1.cell (World.block_lt_of_cell? w _ HYC.out.1)).trans HYC.out.1; simpa [Addr.add] using h
     have y1 : wr.cell? ⟨ad.block, ad.off + 5 + 1, none⟩ = some (.string y.f1) := by have h := (hJ.out.1.cell (World.block_lt_of_cell? w _ HYC.out.2.1)).trans HYC.out.2.1; simpa [Addr.add] using h
     have y2 : wr.cell? ⟨ad.block, ad.off + 5 + 2, none⟩ = some (.string y.f2) := by have h := (hJ.out.1.cell (World.block_lt_of_cell? w _ HYC.out.2.2.1)).trans HYC.out.2.2.1; simpa [Addr.add] using h
     have y3 : wr.cell? ⟨ad.block, ad.off + 5 + 3, none⟩ = some (.slice F3 y.f3.length g3) := by have h := (hJ.out.1.cell (World.block_lt_of_cell? w _ HYC.out.2.2.2.1)).trans HYC.out.2.2.2.1; simpa [Addr.add] using h
     have y4 : wr.cell? ⟨ad.block, ad.off + 5 + 4, none⟩ = some (.slice F4 y.f4.length g4) := by have h := (hJ.out.1.cell (World.block_lt_of_cell? w _ HYC.out.2.2.2.2)).trans HYC.out.2.2.2.2; simpa [Addr.add] using h
     go_wp2_with fail
     refine start_ (n := 10) (S := fun w' => w'.cell? ad = some (.int .i64 x.f0) ∧ w'.cell? ⟨ad.block, ad.off + 1, none⟩ = some (.string x.f1) ∧ w'.cell? ⟨ad.block, ad.off + 2, none⟩ = some (.string x.f2) ∧ w'.cell? ⟨ad.block, ad.off + 3, none⟩ = some (.slice E3 x.f3.length e3) ∧ w'.cell? ⟨ad.block, ad.off + 4, none⟩ = some (.slice E4 x.f4.length e4) ∧ w'.cell? ⟨ad.block, ad.off + 5, none⟩ = some (.int .i64 y.f0) ∧ w'.cell? ⟨ad.block, ad.off + 5 + 1, none⟩ = some (.string y.f1) ∧ w'.cell? ⟨ad.block, ad.off + 5 + 2, none⟩ = some (.string y.f2) ∧ w'.cell? ⟨ad.block, ad.off + 5 + 3, none⟩ = some (.slice F3 y.f3.length g3) ∧ w'.cell? ⟨ad.block, ad.off + 5 + 4, none⟩ = some (.slice F4 y.f4.length g4)) (ds := []) #[false, false, false, false, false, false, false, false, false, false] (by kernel_rfl) rfl rfl ⟨x0, x1, x2, x3, x4, y0, y1, y2, y3, y4⟩ (fun hHeld => ?_)
     refine pu 0 (some 17) (bl 10 1) ?_
     refine pu 1 (some 18) (bl 10 3) ?_
     refine pu 2 (some 19) (bl 10 7) ?_
     refine pu 4 (some 21) (bl 10 23) ?_
     refine pu 5 (some 22) (bl 10 55) ?_
     refine pu 6 (some 23) (bl 10 119) ?_
     refine tk 3 (some 20) (bl 10 127) hHeld ?_
     refine tk 7 (some 24) (bl 10 255) hHeld ?_
     refine on_ 8 (some 25) (bl 10 511) fun K hK => ?_
     refine gs_ Tryz.func22 #[ndV y F3 g3 F4 g4, ndV x E3 e3 E4 e4] ?_
     refine (alike22m d y x HX.out.2.1 HX.out.1 _ F3 F4 E3 E4 g3 g4 e3 e4 (HX.out.2.2.2.below (below_drew hJ.out.1)) (HX.out.2.2.1.below (below_drew hJ.out.1))).mono ?_
     rintro e w7 ⟨bq, rfl, hq, hbc⟩
     have HQ := Lib.hid (And.intro hq hbc)
     have HBC := Lib.hid hbc
     clear hq hbc
     refine ⟨_, rfl, ?_⟩
     refine hK.out _ _ (he10 HBC.out hHeld) (fun hHeld => ?_)
     clear hK K
     refine nr (some 25) ?_
     refine pu 9 (some 26) (bl 10 1023) ?_
     refine done_ (by kernel_rfl) ?_
     cases bq with
     | true =>
      go_wp2_with fail
      go_roundg (gk - 1)
      case measure => omega
      case rel => exact ⟨1, by omega, by go_num, Lib.hid ⟨hJ.out.1.trans (((below_drew (Below.refl _ _)).trans HQ.out.2).mono hJ.out.1.size), fun _ => HQ.out.1 (by first | trivial | rfl)⟩⟩
     | false =>
      go_wp2_with fail
      exact bodyPost_ret (v := .bool false) (by simp [results, Tryz.results10, go_sem]) rfl ⟨false, rfl, by simp, hJ.out.1.trans (((below_drew (Below.refl _ _)).trans HQ.out.2).mono hJ.out.1.size)⟩
    ·go_wp2_with fail
     go_roundg (gk0 - 1)
     case measure => omega
     case rel => exact ⟨2, by omega, by go_num, Lib.hid ⟨hJ.out.1, fun _ => hJ.out.2 (by first | trivial | rfl)⟩⟩
  ·go_wp2_with fail
   exact bodyPost_ret (v := .bool true) (by simp [results, Tryz.results10, go_sem]) rfl ⟨true, rfl, fun _ => hI.out.2 (by first | trivial | rfl), hI.out.1⟩
end Go.Proofs.YtghmajlfmoggfaaGreat
