import Derived.Test.YtghmajlfmoggfaaGreatMG2
import Derived.Test.YtghmajlfmoggfaaGreatMS8
import Derived.Test.YtghmajlfmoggfaaGreatMX4
set_option linter.unusedSimpArgs false
set_option linter.unusedVariables false
namespace Go.Proofs.YtghmajlfmoggfaaGreat
open Go.RowKit Go.Proofs.YtghmajlfmoggfaaGreatW.PrintWords Go.Proofs.YtghmajlfmoggfaaGreatW.PrintLast PFnMerge
theorem nodup_len_le {l m : List ByteArray} (hl : l.Nodup) (h : ∀ k ∈ l, k ∈ m) : l.length ≤ m.length := by
 haveI : LawfulBEq ByteArray := { eq_of_beq := fun h => (MapKept.bytes_beq _ _).1 h, rfl := (MapKept.bytes_beq _ _).2 rfl }
 induction l generalizing m with
 | nil => simp
 | cons a l ih =>
  have ha : a ∈ m := h a (by simp)
  have hn := List.nodup_cons.1 hl
  have := ih (m := m.erase a) hn.2 fun k hk => (List.mem_erase_of_ne (by rintro rfl; exact hn.1 hk)).2 (h k (by simp [hk]))
  rw [List.length_erase_of_mem ha] at this
  have : 0 < m.length := List.length_pos_of_mem ha
  simp only [List.length_cons]; omega
theorem fld_key {x : S25} {key : ByteArray} {v : S25} (h : fld x key v) : key ∈ x.f3 := by
 obtain ⟨i, h1, _⟩ := fld_at' h
 exact List.mem_of_getElem? h1
theorem fld_mem {x : S25} {key : ByteArray} {v : S25} (h : fld x key v) : v ∈ x.f4 := by
 obtain ⟨i, _, h1⟩ := fld_at' h
 exact List.mem_of_getElem? h1
theorem fld_has {x : S25} (hl : x.f3.length = x.f4.length) {key : ByteArray} (h : key ∈ x.f3) : ∃ v, fld x key v := by
 obtain ⟨i, hi⟩ := List.getElem?_of_mem h
 have hlt : i < x.f3.length := by
  rcases Nat.lt_or_ge i x.f3.length with h | h
  ·exact h
  ·rw [List.getElem?_eq_none h] at hi; cases hi
 exact ⟨_, fld_mk hi (List.getElem?_eq_getElem (hl ▸ hlt))⟩
theorem fld_one {x : S25} (hn : x.f3.Nodup) {key : ByteArray} {v v' : S25} (h : fld x key v) (h' : fld x key v') : v = v' := by
 obtain ⟨i, h1, h2⟩ := fld_at' h
 obtain ⟨j, h3, h4⟩ := fld_at' h'
 have hi : i < x.f3.length := by
  rcases Nat.lt_or_ge i x.f3.length with h | h
  ·exact h
  ·rw [List.getElem?_eq_none h] at h1; cases h1
 have : i = j := (List.getElem?_inj hi hn).1 (h1.trans h3.symm)
 subst this
 rw [h2] at h4
 injection h4
def SameR : Nat → S25 → S25 → Prop
 | 0, _, _ => False
 | n + 1, a, b => a.f0 = b.f0 ∧ a.f1 = b.f1 ∧ (a.f0 = 1 → a.f2 = b.f2) ∧ a.f3.length = b.f3.length ∧ a.f4.length = b.f4.length ∧
  (a.f0 = 2 → b.f3.Nodup ∧ a.f3.length = a.f4.length ∧ ∀ key v, fld a key v → ∃ v', fld b key v' ∧ SameR n v v') ∧ (a.f0 ≠ 2 → ∀ (i : Nat) x y, a.f4[i]? = some x → b.f4[i]? = some y → SameR n x y)
def TreeN : Nat → S25 → Prop
 | 0, _ => False
 | n + 1, x => (x.f0 = 1 ∧ x.f3 = [] ∧ x.f4 = []) ∨ (x.f0 = 2 ∧ x.f1 = noStr ∧ x.f2 = noStr ∧ x.f3.length = x.f4.length ∧ x.f4.length ≤ 100 ∧ x.f3.Nodup ∧ ∀ z ∈ x.f4, TreeN n z) ∨ (x.f0 = 3 ∧ x.f1 = noStr ∧ x.f2 = noStr ∧ x.f3 = [] ∧ x.f4.length ≤ 100 ∧ ∀ z ∈ x.f4, TreeN n z)
theorem TreeN.same : ∀ {n : Nat} {x : S25}, TreeN n x → SameR n x x := by
 intro n
 induction n with
 | zero => intro x h; exact h.elim
 | succ n ih =>
  intro x h
  refine ⟨rfl, rfl, fun _ => rfl, rfl, rfl, fun h2 => ?_, fun h2 i a b ha hb => ?_⟩
  ·rcases h with ⟨h1, _⟩ | ⟨_, _, _, h3, _, h5, h6⟩ | ⟨h1, _⟩
   ·omega
   ·exact ⟨h5, h3, fun key v hv => ⟨v, hv, ih (h6 v (fld_mem hv))⟩⟩
   ·omega
  ·rw [ha] at hb
   injection hb with hb
   subst hb
   have hm := List.mem_of_getElem? ha
   rcases h with ⟨_, _, h1⟩ | ⟨h1, _⟩ | ⟨_, _, _, _, _, h6⟩
   ·rw [h1] at hm; cases hm
   ·exact absurd h1 h2
   ·exact ih (h6 a hm)
theorem TreeN.size : ∀ {n : Nat} {x : S25}, TreeN n x → SzN n x := by
 intro n
 induction n with
 | zero => intro x h; exact h.elim
 | succ n ih =>
  intro x h
  rcases h with ⟨_, _, h1⟩ | ⟨_, _, _, _, h4, _, h6⟩ | ⟨_, _, _, _, h4, h6⟩
  ·rw [SzN, h1]; exact ⟨by simp, by simp⟩
  ·exact ⟨by omega, fun z hz => ih (h6 z hz)⟩
  ·exact ⟨by omega, fun z hz => ih (h6 z hz)⟩
theorem TreeN.wf : ∀ {n : Nat} {x : S25}, TreeN n x → WfN n x := by
 intro n
 induction n with
 | zero => intro x h; exact h.elim
 | succ n ih =>
  intro x h
  rcases h with h | ⟨h1, h2, h3, h4, h5, _, h6⟩ | ⟨h1, h2, h3, h4, h5, h6⟩
  ·exact .inl h
  ·exact .inr (.inl ⟨h1, h2, h3, h4, by omega, fun z hz => ih (h6 z hz)⟩)
  ·exact .inr (.inr ⟨h1, h2, h3, h4, by omega, fun z hz => ih (h6 z hz)⟩)
structure SB (w : World) (cx cy : Array Value) (W : World) : Prop where
 below : Below w.heap.size w W
 bx : W.heap[w.heap.size]? = some (.cells cx 25 (0, 0))
 by_ : W.heap[w.heap.size + 1]? = some (.cells cy 25 (0, 0))
theorem SB.under {w : World} {cx cy : Array Value} {W W' : World} (h : SB w cx cy W) (hb : Below W.heap.size W W') : SB w cx cy W' :=
 ⟨h.below.trans (hb.mono h.below.size), (hb.block _ (lt_of_block h.bx)).trans h.bx, (hb.block _ (lt_of_block h.by_)).trans h.by_⟩
def SameC (n : Nat) : Prop := ∀ (a b : S25), SameR n a b → SzN n a → ∀ (w : World) (A3 A4 B3 B4 : Option Addr) (c3 c4 d3 d4 : Nat), NdR w a A3 c3 A4 c4 → NdR w b B3 d3 B4 d4 →
 Calls Tryz.prog 14 #[ndV a A3 c3 A4 c4, ndV b B3 d3 B4 d4, .bool true] w fun e w' => e = .returned (.bool true) ∧ Below w.heap.size w w'
set_option maxRecDepth 20000 in
set_option maxHeartbeats 8000000 in
theorem same14 : ∀ n, SameC n := by
 intro n
 induction n with
 | zero => intro a b h; exact h.elim
 | succ n ih =>
  intro x y h hz w A3 A4 B3 B4 c3 c4 d3 d4 hx hy
  obtain ⟨f0, f1, f2, f3, f4⟩ := x
  obtain ⟨g0, g1, g2, g3, g4⟩ := y
  obtain ⟨e0, e1, e2, e3, e4, hm, hs⟩ := h
  simp only at e0 e1 e2 e3 e4 hm hs
  subst e0
  subst e1
  obtain ⟨hz1, hz2⟩ := hz
  simp only at hz1 hz2
  obtain ⟨L3, hL3⟩ : ∃ L3, L3 = f3.length := ⟨_, rfl⟩
  obtain ⟨L4, hL4⟩ : ∃ L4, L4 = f4.length := ⟨_, rfl⟩
  have hg3 : L3 = g3.length := hL3.trans e3
  have hg4 : L4 = g4.length := hL4.trans e4
  have hargs : ndV ⟨f0, f1, f2, f3, f4⟩ A3 c3 A4 c4 = .agg #[.int .i64 f0, .string f1, .string f2, .slice A3 L3 c3, .slice A4 L4 c4] := by rw [hL3, hL4]
  have hargs2 : ndV ⟨f0, f1, g2, g3, g4⟩ B3 d3 B4 d4 = .agg #[.int .i64 f0, .string f1, .string g2, .slice B3 L3 d3, .slice B4 L4 d4] := by rw [hg3, hg4]
  rw [hargs, hargs2]
  clear hargs hargs2
  have hN4 : (L4 : Int) ≤ 1000000 := by omega
  have H := Lib.hid (And.intro hx (And.intro hy (And.intro hm hs)))
  have HZ := Lib.hid (And.intro hz1 hz2)
  have HL := Lib.hid (And.intro hL3 (And.intro hL4 (And.intro hg3 hg4)))
  have HIH := Lib.hid ih
  have HI0 := Lib.hid (show SB w #[.int .i64 f0, .string f1, .string f2, .slice A3 L3 c3, .slice A4 L4 c4] #[.int .i64 f0, .string f1, .string g2, .slice B3 L3 d3, .slice B4 L4 d4] ((w.alloc (.cells #[.int .i64 f0, .string f1, .string f2, .slice A3 L3 c3, .slice A4 L4 c4] 25)).alloc (.cells #[.int .i64 f0, .string f1, .string g2, .slice B3 L3 d3, .slice B4 L4 d4] 25)) from ⟨below_alloc (below_alloc (Below.refl _ _) _) _, blk_old _ (blk_new rfl _), blk_new (by simp) _⟩)
  obtain ⟨q1, hq1⟩ : ∃ q1 : Bool, (f0 == 1) = q1 := ⟨_, rfl⟩
  have hq2 : q1 = true → f2 = g2 := fun e => e2 (beq_iff_eq.1 (hq1.trans e))
  clear hx hy hm hs hz1 hz2 hL3 hL4 hg3 hg4 e2 e3 e4 ih
  have MAIN : (q1 = true → (f2.toList == g2.toList) = true) → Calls Tryz.prog 14 #[.agg #[.int .i64 f0, .string f1, .string f2, .slice A3 L3 c3, .slice A4 L4 c4], .agg #[.int .i64 f0, .string f1, .string g2, .slice B3 L3 d3, .slice B4 L4 d4], .bool true] w fun e w' => e = .returned (.bool true) ∧ Below w.heap.size w w' := by
   intro hq3
   cases q1
   all_goals
    first | (have hq4 := hq3 rfl) | skip
    clear hq3 hq2
    go_enter Tryz.func14, Tryz.ntmps14
    go_wp2_with fail
    go_loopg [54] L4 (fun k i wr => ∃ j : Nat, j + k = L4 ∧ i = .int .i64 (j : Int) ∧ Hid (SB w #[.int .i64 f0, .string f1, .string f2, .slice A3 L3 c3, .slice A4 L4 c4] #[.int .i64 f0, .string f1, .string g2, .slice B3 L3 d3, .slice B4 L4 d4] wr))
    case atStart => exact ⟨0, by omega, rfl, HI0⟩
    case round =>
     obtain ⟨j, hj, rfl, HI⟩ := hrel
     obtain ⟨W, hW⟩ : ∃ W, W = wr := ⟨_, rfl⟩
     subst hW
     by_cases hlt : 1 ≤ gk
     ·have hj2 : (j : Int) < (L4 : Int) := by omega
      have hj3 : j < L4 := by omega
      obtain ⟨a, haj⟩ : ∃ a, f4[j]? = some a := ⟨_, List.getElem?_eq_getElem (by have := HL.out.2.1; omega)⟩
      obtain ⟨ad4, P3, p3, P4, p4, rfl, a0, a1, a2, a3, a4, hna⟩ := (H.out.1.below HI.out.below).frame.item j a haj
      have HNA := Lib.hid (And.intro hna.now haj)
      have x0 : W.cell? ⟨w.heap.size, 0, none⟩ = some (.int .i64 f0) := (blk_cell HI.out.bx 0).trans rfl
      have x4c : W.cell? ⟨w.heap.size, 4, none⟩ = some (.slice (some ad4) L4 c4) := (blk_cell HI.out.bx 4).trans rfl
      clear hna haj
      by_cases hf : f0 = 2
      ·have hm := H.out.2.2.1 hf
       have HM := Lib.hid hm
       have hfb : (f0 == 2) = true := beq_iff_eq.2 hf
       have hjl : j < f3.length := by have := hm.2.1; have := HL.out.2.1; omega
       obtain ⟨key, hkey⟩ : ∃ key, f3[j]? = some key := ⟨_, List.getElem?_eq_getElem hjl⟩
       have hj5 : j < L3 := by have := HL.out.1; omega
       have hj6 : (j : Int) < (L3 : Int) := by omega
       obtain ⟨ad3, rfl, x3k⟩ := str_at ((H.out.1.below HI.out.below).keys) j key hjl hkey
       obtain ⟨v', hv', hs⟩ := hm.2.2 key a (fld_mk hkey HNA.out.2)
       obtain ⟨i', hi1, hi2⟩ := fld_at' hv'
       simp only at hi1 hi2
       obtain ⟨k3, r, hk3, hr⟩ := place_some g3 key (by have := HL.out.2.2.1; have := (H.out.2.1.klen); simp only at this; omega)
       obtain ⟨i2, rfl, hil, hi⟩ : ∃ i2 : Nat, r = (i2 : Int) ∧ i2 < g3.length ∧ g3[i2]? = some key := by
        rcases hr with ⟨_, hn⟩ | ⟨i, h1, h2, h3⟩
        ·exact absurd (List.mem_of_getElem? hi1) hn
        ·exact ⟨i, h1, h2, h3⟩
       obtain rfl : i' = i2 := (List.getElem?_inj (idx_lt hi1) hm.1).1 (hi1.trans hi.symm)
       have HP := Lib.hid (And.intro hk3 hi2)
       have HSR := Lib.hid (And.intro hs (HZ.out.2 a (List.mem_of_getElem? HNA.out.2)))
       have hi4 : i' < L4 := by have h1 := idx_lt hi2; have := HL.out.2.2.2; omega
       have hi5 : (i' : Int) < (L4 : Int) := by omega
       have y3c : W.cell? ⟨w.heap.size + 1, 3, none⟩ = some (.slice B3 L3 d3) := (blk_cell HI.out.by_ 3).trans rfl
       have x3c : W.cell? ⟨w.heap.size, 3, none⟩ = some (.slice (some ad3) L3 c3) := (blk_cell HI.out.bx 3).trans rfl
       clear hm hkey hjl hv' hs hi1 hi2 hk3 hr hil hi hf
       go_wp2_with fail
       refine start_ (n := 9) (S := fun w' => w'.cell? ⟨w.heap.size + 1, 3, none⟩ = some (.slice B3 L3 d3) ∧ w'.cell? ⟨w.heap.size, 3, none⟩ = some (.slice (some ad3) L3 c3) ∧ w'.cell? (ad3.add j) = some (.string key)) (ds := []) #[false, false, false, false, false, false, false, false, false] (by kernel_rfl) rfl rfl ⟨y3c, x3c, x3k⟩ (fun hHeld => ?_)
       refine pu 0 (some 61) (bl 9 1) ?_
       refine pu 2 (some 63) (bl 9 5) ?_
       refine pu 4 (some 65) (bl 9 21) ?_
       refine tk 1 (some 62) (bl 9 23) hHeld ?_
       refine tk 3 (some 64) (bl 9 31) hHeld ?_
       refine pu 5 (some 66) (bl 9 63) ?_
       refine tk 6 (some 67) (bl 9 127) hHeld ?_
       refine on_ 7 (some 68) (bl 9 255) fun K hK => ?_
       refine gs_ Tryz.func32 #[.slice B3 L3 d3, .string key] ?_
       have hcall := spec_Place.calls k3 B3 d3 g3 key (i' : Int) W.drew (Kd.C_below H.out.2.1.keys (HI.out.below.trans ((below_drew (Below.refl _ _)).mono HI.out.below.size))) H.out.2.1.kcap HP.out.1
       rw [← HL.out.2.2.1] at hcall
       refine hcall.mono ?_
       clear hcall
       rintro e w9 ⟨rfl, nd9, rfl⟩
       have HB9 := Lib.hid (pw_below_drewN (Below.refl W.drew.heap.size W.drew) nd9)
       refine ⟨_, rfl, ?_⟩
       refine hK.out _ _ (he3 HB9.out hHeld) (fun hHeld => ?_)
       clear hK K
       refine nr (some 68) ?_
       refine pu 8 (some 8) (bl 9 511) ?_
       refine done_ (by kernel_rfl) ?_
       obtain ⟨W2, hW2⟩ : ∃ W2, W2 = W.drew.drewN nd9 := ⟨_, rfl⟩
       have HI2 := Lib.hid (show SB w #[.int .i64 f0, .string f1, .string f2, .slice (some ad3) L3 c3, .slice (some ad4) L4 c4] #[.int .i64 f0, .string f1, .string g2, .slice B3 L3 d3, .slice B4 L4 d4] W2 from hW2 ▸ ((HI.out.under (below_drew (Below.refl _ _))).under (pw_below_drewN (Below.refl _ _) nd9)))
       rw [← hW2]
       clear hW2 a0 a1 a2 a3 a4 x0 x4c x3k y3c x3c hHeld HB9
       obtain ⟨_, P3, p3, P4, p4, e_, a0, a1, a2, a3, a4, hna⟩ := (H.out.1.below HI2.out.below).frame.item j a HNA.out.2
       obtain rfl := Option.some.inj e_
       obtain ⟨bd4, Q3, q3, Q4, q4, rfl, b0, b1, b2, b3, b4, hnb⟩ := (H.out.2.1.below HI2.out.below).frame.item i' v' HP.out.2
       have HNA := Lib.hid hna.now
       have HNB := Lib.hid hnb.now
       have x4c : W2.cell? ⟨w.heap.size, 4, none⟩ = some (.slice (some ad4) L4 c4) := (blk_cell HI2.out.bx 4).trans rfl
       have y4c : W2.cell? ⟨w.heap.size + 1, 4, none⟩ = some (.slice (some bd4) L4 d4) := (blk_cell HI2.out.by_ 4).trans rfl
       clear hna hnb e_
       by_cases hij : i' = j
       ·have hij2 : ((i' : Int) != (j : Int)) = false := by rw [hij]; simp
        clear hij
        go_wp2_with fail
        refine start_ (n := 13) (S := fun w' => w'.cell? ⟨w.heap.size, 4, none⟩ = some (.slice (some ad4) L4 c4) ∧ w'.cell? ⟨w.heap.size + 1, 4, none⟩ = some (.slice (some bd4) L4 d4) ∧ w'.cell? (ad4.add (j * 5)) = some (.int .i64 a.f0) ∧ w'.cell? ⟨(ad4.add (j * 5)).block, (ad4.add (j * 5)).off + 1, none⟩ = some (.string a.f1) ∧ w'.cell? ⟨(ad4.add (j * 5)).block, (ad4.add (j * 5)).off + 2, none⟩ = some (.string a.f2) ∧ w'.cell? ⟨(ad4.add (j * 5)).block, (ad4.add (j * 5)).off + 3, none⟩ = some (.slice P3 a.f3.length p3) ∧ w'.cell? ⟨(ad4.add (j * 5)).block, (ad4.add (j * 5)).off + 4, none⟩ = some (.slice P4 a.f4.length p4) ∧ w'.cell? (bd4.add (i' * 5)) = some (.int .i64 v'.f0) ∧ w'.cell? ⟨(bd4.add (i' * 5)).block, (bd4.add (i' * 5)).off + 1, none⟩ = some (.string v'.f1) ∧ w'.cell? ⟨(bd4.add (i' * 5)).block, (bd4.add (i' * 5)).off + 2, none⟩ = some (.string v'.f2) ∧ w'.cell? ⟨(bd4.add (i' * 5)).block, (bd4.add (i' * 5)).off + 3, none⟩ = some (.slice Q3 v'.f3.length q3) ∧ w'.cell? ⟨(bd4.add (i' * 5)).block, (bd4.add (i' * 5)).off + 4, none⟩ = some (.slice Q4 v'.f4.length q4)) (ds := []) #[false, false, false, false, false, false, false, false, false, false, false, false, false] (by kernel_rfl) rfl rfl ⟨x4c, y4c, a0, a1, a2, a3, a4, b0, b1, b2, b3, b4⟩ (fun hHeld => ?_)
        refine pu 0 (some 80) (bl 13 1) ?_
        refine pu 2 (some 82) (bl 13 5) ?_
        refine pu 5 (some 85) (bl 13 37) ?_
        refine pu 7 (some 87) (bl 13 165) ?_
        refine pu 10 (some 90) (bl 13 1189) ?_
        refine tk 1 (some 81) (bl 13 1191) hHeld ?_
        refine pu 3 (some 83) (bl 13 1199) ?_
        refine tk 4 (some 84) (bl 13 1215) hHeld ?_
        refine tk 6 (some 86) (bl 13 1279) hHeld ?_
        refine pu 8 (some 88) (bl 13 1535) ?_
        refine tk 9 (some 89) (bl 13 2047) hHeld ?_
        refine on_ 11 (some 91) (bl 13 4095) fun K hK => ?_
        refine gs_ Tryz.func14 #[ndV a P3 p3 P4 p4, ndV v' Q3 q3 Q4 q4, .bool true] ?_
        refine (HIH.out a v' HSR.out.1 HSR.out.2 W2.drew P3 P4 Q3 Q4 p3 p4 q3 q4 (HNA.out.below (below_drew (Below.refl _ _))) (HNB.out.below (below_drew (Below.refl _ _)))).mono ?_
        rintro e wb ⟨rfl, hb⟩
        have HBB := Lib.hid hb
        have HIZ := Lib.hid ((HI2.out.under (below_drew (Below.refl _ _))).under hb)
        clear hb
        refine ⟨_, rfl, ?_⟩
        refine hK.out _ _ (he12 HBB.out hHeld) (fun hHeld => ?_)
        clear hK K
        refine nr (some 91) ?_
        refine pu 12 (some 92) (bl 13 8191) ?_
        refine done_ (by kernel_rfl) ?_
        go_wp2_with fail
        go_roundg (gk - 1)
        case measure => omega
        case rel => exact ⟨j + 1, by omega, by go_num, HIZ⟩
       ·have hij2 : ((i' : Int) != (j : Int)) = true := by rw [bne_iff_ne]; omega
        clear hij
        go_wp2_with fail
        refine start_ (n := 13) (S := fun w' => w'.cell? ⟨w.heap.size, 4, none⟩ = some (.slice (some ad4) L4 c4) ∧ w'.cell? ⟨w.heap.size + 1, 4, none⟩ = some (.slice (some bd4) L4 d4) ∧ w'.cell? (ad4.add (j * 5)) = some (.int .i64 a.f0) ∧ w'.cell? ⟨(ad4.add (j * 5)).block, (ad4.add (j * 5)).off + 1, none⟩ = some (.string a.f1) ∧ w'.cell? ⟨(ad4.add (j * 5)).block, (ad4.add (j * 5)).off + 2, none⟩ = some (.string a.f2) ∧ w'.cell? ⟨(ad4.add (j * 5)).block, (ad4.add (j * 5)).off + 3, none⟩ = some (.slice P3 a.f3.length p3) ∧ w'.cell? ⟨(ad4.add (j * 5)).block, (ad4.add (j * 5)).off + 4, none⟩ = some (.slice P4 a.f4.length p4) ∧ w'.cell? (bd4.add (i' * 5)) = some (.int .i64 v'.f0) ∧ w'.cell? ⟨(bd4.add (i' * 5)).block, (bd4.add (i' * 5)).off + 1, none⟩ = some (.string v'.f1) ∧ w'.cell? ⟨(bd4.add (i' * 5)).block, (bd4.add (i' * 5)).off + 2, none⟩ = some (.string v'.f2) ∧ w'.cell? ⟨(bd4.add (i' * 5)).block, (bd4.add (i' * 5)).off + 3, none⟩ = some (.slice Q3 v'.f3.length q3) ∧ w'.cell? ⟨(bd4.add (i' * 5)).block, (bd4.add (i' * 5)).off + 4, none⟩ = some (.slice Q4 v'.f4.length q4)) (ds := []) #[false, false, false, false, false, false, false, false, false, false, false, false, false] (by kernel_rfl) rfl rfl ⟨x4c, y4c, a0, a1, a2, a3, a4, b0, b1, b2, b3, b4⟩ (fun hHeld => ?_)
        refine pu 0 (some 80) (bl 13 1) ?_
        refine pu 2 (some 82) (bl 13 5) ?_
        refine pu 5 (some 85) (bl 13 37) ?_
        refine pu 7 (some 87) (bl 13 165) ?_
        refine pu 10 (some 90) (bl 13 1189) ?_
        refine tk 1 (some 81) (bl 13 1191) hHeld ?_
        refine pu 3 (some 83) (bl 13 1199) ?_
        refine tk 4 (some 84) (bl 13 1215) hHeld ?_
        refine tk 6 (some 86) (bl 13 1279) hHeld ?_
        refine pu 8 (some 88) (bl 13 1535) ?_
        refine tk 9 (some 89) (bl 13 2047) hHeld ?_
        refine on_ 11 (some 91) (bl 13 4095) fun K hK => ?_
        refine gs_ Tryz.func14 #[ndV a P3 p3 P4 p4, ndV v' Q3 q3 Q4 q4, .bool true] ?_
        refine (HIH.out a v' HSR.out.1 HSR.out.2 W2.drew P3 P4 Q3 Q4 p3 p4 q3 q4 (HNA.out.below (below_drew (Below.refl _ _))) (HNB.out.below (below_drew (Below.refl _ _)))).mono ?_
        rintro e wb ⟨rfl, hb⟩
        have HBB := Lib.hid hb
        have HIZ := Lib.hid ((HI2.out.under (below_drew (Below.refl _ _))).under hb)
        clear hb
        refine ⟨_, rfl, ?_⟩
        refine hK.out _ _ (he12 HBB.out hHeld) (fun hHeld => ?_)
        clear hK K
        refine nr (some 91) ?_
        refine pu 12 (some 92) (bl 13 8191) ?_
        refine done_ (by kernel_rfl) ?_
        go_wp2_with fail
        go_roundg (gk - 1)
        case measure => omega
        case rel => exact ⟨j + 1, by omega, by go_num, HIZ⟩
      ·have hfb : (f0 == 2) = false := beq_false_of_ne hf
       obtain ⟨b, hbj⟩ : ∃ b, g4[j]? = some b := ⟨_, List.getElem?_eq_getElem (by have := HL.out.2.2.2; omega)⟩
       obtain ⟨bd4, Q3, q3, Q4, q4, rfl, b0, b1, b2, b3, b4, hnb⟩ := (H.out.2.1.below HI.out.below).frame.item j b hbj
       have HNA := Lib.hid HNA.out
       have HSR := Lib.hid (And.intro (H.out.2.2.2 hf j a b HNA.out.2 hbj) (HZ.out.2 a (List.mem_of_getElem? HNA.out.2)))
       have HNA := Lib.hid HNA.out.1
       have HNB := Lib.hid hnb.now
       have y4c : W.cell? ⟨w.heap.size + 1, 4, none⟩ = some (.slice (some bd4) L4 d4) := (blk_cell HI.out.by_ 4).trans rfl
       clear hnb hbj hf
       go_wp2_with fail
       refine start_ (n := 13) (S := fun w' => w'.cell? ⟨w.heap.size, 4, none⟩ = some (.slice (some ad4) L4 c4) ∧ w'.cell? ⟨w.heap.size + 1, 4, none⟩ = some (.slice (some bd4) L4 d4) ∧ w'.cell? (ad4.add (j * 5)) = some (.int .i64 a.f0) ∧ w'.cell? ⟨(ad4.add (j * 5)).block, (ad4.add (j * 5)).off + 1, none⟩ = some (.string a.f1) ∧ w'.cell? ⟨(ad4.add (j * 5)).block, (ad4.add (j * 5)).off + 2, none⟩ = some (.string a.f2) ∧ w'.cell? ⟨(ad4.add (j * 5)).block, (ad4.add (j * 5)).off + 3, none⟩ = some (.slice P3 a.f3.length p3) ∧ w'.cell? ⟨(ad4.add (j * 5)).block, (ad4.add (j * 5)).off + 4, none⟩ = some (.slice P4 a.f4.length p4) ∧ w'.cell? (bd4.add (j * 5)) = some (.int .i64 b.f0) ∧ w'.cell? ⟨(bd4.add (j * 5)).block, (bd4.add (j * 5)).off + 1, none⟩ = some (.string b.f1) ∧ w'.cell? ⟨(bd4.add (j * 5)).block, (bd4.add (j * 5)).off + 2, none⟩ = some (.string b.f2) ∧ w'.cell? ⟨(bd4.add (j * 5)).block, (bd4.add (j * 5)).off + 3, none⟩ = some (.slice Q3 b.f3.length q3) ∧ w'.cell? ⟨(bd4.add (j * 5)).block, (bd4.add (j * 5)).off + 4, none⟩ = some (.slice Q4 b.f4.length q4)) (ds := []) #[false, false, false, false, false, false, false, false, false, false, false, false, false] (by kernel_rfl) rfl rfl ⟨x4c, y4c, a0, a1, a2, a3, a4, b0, b1, b2, b3, b4⟩ (fun hHeld => ?_)
       refine pu 0 (some 80) (bl 13 1) ?_
       refine pu 2 (some 82) (bl 13 5) ?_
       refine pu 5 (some 85) (bl 13 37) ?_
       refine pu 7 (some 87) (bl 13 165) ?_
       refine pu 10 (some 90) (bl 13 1189) ?_
       refine tk 1 (some 81) (bl 13 1191) hHeld ?_
       refine pu 3 (some 83) (bl 13 1199) ?_
       refine tk 4 (some 84) (bl 13 1215) hHeld ?_
       refine tk 6 (some 86) (bl 13 1279) hHeld ?_
       refine pu 8 (some 88) (bl 13 1535) ?_
       refine tk 9 (some 89) (bl 13 2047) hHeld ?_
       refine on_ 11 (some 91) (bl 13 4095) fun K hK => ?_
       refine gs_ Tryz.func14 #[ndV a P3 p3 P4 p4, ndV b Q3 q3 Q4 q4, .bool true] ?_
       refine (HIH.out a b HSR.out.1 HSR.out.2 W.drew P3 P4 Q3 Q4 p3 p4 q3 q4 (HNA.out.below (below_drew (Below.refl _ _))) (HNB.out.below (below_drew (Below.refl _ _)))).mono ?_
       rintro e wb ⟨rfl, hb⟩
       have HBB := Lib.hid hb
       have HIZ := Lib.hid ((HI.out.under (below_drew (Below.refl _ _))).under hb)
       clear hb
       refine ⟨_, rfl, ?_⟩
       refine hK.out _ _ (he12 HBB.out hHeld) (fun hHeld => ?_)
       clear hK K
       refine nr (some 91) ?_
       refine pu 12 (some 92) (bl 13 8191) ?_
       refine done_ (by kernel_rfl) ?_
       go_wp2_with fail
       go_roundg (gk - 1)
       case measure => omega
       case rel => exact ⟨j + 1, by omega, by go_num, HIZ⟩
     ·have hqe : ¬ ((j : Int) < (L4 : Int)) := by omega
      have hqe' : ¬ (j < L4) := by omega
      go_wp2_with fail
      exact bodyPost_ret (v := .bool true) (by simp [results, Tryz.results14, go_sem]) rfl ⟨rfl, HI.out.below⟩
  exact MAIN fun e => by rw [hq2 e]; simp
end Go.Proofs.YtghmajlfmoggfaaGreat
