import Derived.Test.YtghmajlfmoggfaaGreatMG1
set_option linter.unusedSimpArgs false
set_option linter.unusedVariables false
namespace Go.Proofs.YtghmajlfmoggfaaGreat
open Go.RowKit Go.Proofs.YtghmajlfmoggfaaGreatW.PrintWords Go.Proofs.YtghmajlfmoggfaaGreatW.PrintLast PFnMerge
def SzN : Nat → S25 → Prop
 | 0, _ => False
 | n + 1, y => y.f4.length ≤ 5000 ∧ ∀ z ∈ y.f4, SzN n z
def ToldV (w w' : World) (y : S25) (v : Value) : Prop := ∃ v3 v4, v = .agg #[.int .i64 y.f0, .string y.f1, .string y.f2, v3, v4] ∧ Kd.R Kd.string 9 w' w.heap.size (fun k => w.heap.size < k) v3 y.f3 ∧ Kd.R k25 25 w' w.heap.size (fun k => w.heap.size < k) v4 y.f4
def NodeC (n : Nat) : Prop := ∀ (y : S25), SzN n y → ∀ (w : World) (b : Nat) (F : Nat → Prop), Rep w b y F →
 Calls Tryz.prog 41 #[.pointer (some ⟨b, 0, none⟩)] w fun e w' => ∃ v, e = .returned v ∧ ToldV w w' y v ∧ Below w.heap.size w w'
structure StM (w : World) (xb : Nat) (kk : Int) (keys : List ByteArray) (items : List S25) (j3 j4 : Nat) (v3 v4 : Value) (wr : World) : Prop where
 below : Below w.heap.size w wr
 lt : w.heap.size < xb
 res : wr.heap[w.heap.size]? = some (.cells #[.int .i64 0, .string noStr, .string noStr, nilS, nilS] 25 (0, 0))
 box : wr.heap[xb]? = some (.cells #[.int .i64 kk, .string noStr, .string noStr, v3, v4] 25 (0, 0))
 r3 : Kd.R Kd.string 9 wr w.heap.size (fun k => xb < k) v3 (keys.take j3)
 r4 : Kd.R k25 25 wr w.heap.size (fun k => xb < k ∧ some k ≠ v3.ownBlock) v4 (items.take j4)
section
variable {w W w1 : World} {xb j3 j4 : Nat} {kk : Int} {keys : List ByteArray} {items : List S25} {v3 v4 v1 : Value}
theorem StM.under (h : StM w xb kk keys items j3 j4 v3 v4 W) (hb : Below W.heap.size W w1) : StM w xb kk keys items j3 j4 v3 v4 w1 :=
 ⟨h.below.trans (hb.mono h.below.size), h.lt, (hb.block _ (lt_of_block h.res)).trans h.res, (hb.block _ (lt_of_block h.box)).trans h.box, Kd.R_below h.r3 hb, Kd.R_below h.r4 hb⟩
theorem StM.push3 (h : StM w xb kk keys items j3 j4 v3 v4 W) {key : ByteArray} (hk : keys[j3]? = some key) (hr : Kd.R Kd.string 9 w1 w.heap.size (fun k => xb < k) v1 (keys.take j3 ++ [key])) (hg : W.grownBy w1 v3.ownBlock)
  (hat : v1.ownBlock = v3.ownBlock ∨ ∃ b, v1.ownBlock = some b ∧ W.heap.size ≤ b) : StM w xb kk keys items (j3 + 1) j4 v1 v4 (w1.setCell ⟨xb, 3, none⟩ v1) := by
 have hlt := h.lt
 have hx1 := (hg.block xb (lt_of_block h.box) (fun e => Nat.lt_irrefl _ (h.r3.1 xb e.symm))).trans h.box
 refine ⟨(h.below.grown hg h.below.size fun k hk => by have := h.r3.1 k hk; omega).setCell (by show w.heap.size ≤ xb; omega) _, hlt, ?_, ?_, ?_, ?_⟩
 ·exact (Below.heap_setCell w1 ⟨xb, 3, none⟩ v1 _ (by show w.heap.size ≠ xb; omega)).trans ((hg.block _ (lt_of_block h.res) (fun e => by have := h.r3.1 _ e.symm; omega)).trans h.res)
 ·refine (blk_set hx1 3 _).trans ?_
  simp only [List.setIfInBounds_toArray, List.set_cons_zero, List.set_cons_succ]
 ·rw [List.take_add_one, hk]
  exact Kd.R_far hr (fun k hk => by show k ≠ xb; omega) _
 ·have h1 := Kd.R_grown (Kd.R_bound h.r4) hg fun k hk => hk.1.2
  refine Kd.R_mono (Kd.R_far h1 (fun k hk => by show k ≠ xb; have := hk.1.1; omega) _) fun k hk => ⟨hk.1.1, ?_⟩
  rcases hat with hat | ⟨b, hat, hb⟩
  ·rw [hat]; exact hk.1.2
  ·rw [hat]; intro e; injection e with e; have := hk.2.2.1; omega
theorem StM.push4 (h : StM w xb kk keys items j3 j4 v3 v4 W) {y : S25} (hk : items[j4]? = some y) (hr : Kd.R k25 25 w1 w.heap.size (fun k => xb < k ∧ some k ≠ v3.ownBlock) v1 (items.take j4 ++ [y])) (hg : W.grownBy w1 v4.ownBlock) :
  StM w xb kk keys items j3 (j4 + 1) v3 v1 (w1.setCell ⟨xb, 4, none⟩ v1) := by
 have hlt := h.lt
 have hx1 := (hg.block xb (lt_of_block h.box) (fun e => Nat.lt_irrefl _ (h.r4.1 xb e.symm).1)).trans h.box
 refine ⟨(h.below.grown hg h.below.size fun k hk => by have := (h.r4.1 k hk).1; omega).setCell (by show w.heap.size ≤ xb; omega) _, hlt, ?_, ?_, ?_, ?_⟩
 ·exact (Below.heap_setCell w1 ⟨xb, 4, none⟩ v1 _ (by show w.heap.size ≠ xb; omega)).trans ((hg.block _ (lt_of_block h.res) (fun e => by have := (h.r4.1 _ e.symm).1; omega)).trans h.res)
 ·refine (blk_set hx1 4 _).trans ?_
  simp only [List.setIfInBounds_toArray, List.set_cons_zero, List.set_cons_succ]
 ·obtain ⟨inner, ho, _⟩ := h.r4.2
  have h1 := Kd.R_grown (Kd.R_bound h.r3) hg fun k hk => by
   obtain ⟨q, hq, cells, hc⟩ := hk.2.2.2
   have hq9 : q = 9 := by simpa [Kd.string, Kd.scalar] using hq
   subst hq9
   exact own_ne ho hc (by decide)
  exact Kd.R_mono (Kd.R_far h1 (fun k hk => by show k ≠ xb; have := hk.1; omega) _) fun k hk => hk.1
 ·rw [List.take_add_one, hk]
  exact Kd.R_far hr (fun k hk => by show k ≠ xb; have := hk.1; omega) _
theorem StM.done (h : StM w xb kk keys items j3 j4 v3 v4 W) : (((((W.setCell ⟨w.heap.size, 0, none⟩ (.int .i64 kk)).setCell ⟨w.heap.size, 1, none⟩ (.string noStr)).setCell ⟨w.heap.size, 2, none⟩ (.string noStr)).setCell ⟨w.heap.size, 3, none⟩ v3).setCell ⟨w.heap.size, 4, none⟩ v4).heap[w.heap.size]? = some (.cells #[.int .i64 kk, .string noStr, .string noStr, v3, v4] 25 (0, 0)) ∧
  Kd.R Kd.string 9 (((((W.setCell ⟨w.heap.size, 0, none⟩ (.int .i64 kk)).setCell ⟨w.heap.size, 1, none⟩ (.string noStr)).setCell ⟨w.heap.size, 2, none⟩ (.string noStr)).setCell ⟨w.heap.size, 3, none⟩ v3).setCell ⟨w.heap.size, 4, none⟩ v4) w.heap.size (fun k => w.heap.size < k) v3 (keys.take j3) ∧
  Kd.R k25 25 (((((W.setCell ⟨w.heap.size, 0, none⟩ (.int .i64 kk)).setCell ⟨w.heap.size, 1, none⟩ (.string noStr)).setCell ⟨w.heap.size, 2, none⟩ (.string noStr)).setCell ⟨w.heap.size, 3, none⟩ v3).setCell ⟨w.heap.size, 4, none⟩ v4) w.heap.size (fun k => w.heap.size < k) v4 (items.take j4) ∧
  Below w.heap.size w (((((W.setCell ⟨w.heap.size, 0, none⟩ (.int .i64 kk)).setCell ⟨w.heap.size, 1, none⟩ (.string noStr)).setCell ⟨w.heap.size, 2, none⟩ (.string noStr)).setCell ⟨w.heap.size, 3, none⟩ v3).setCell ⟨w.heap.size, 4, none⟩ v4) := by
 have hlt := h.lt
 refine ⟨?_, ?_, ?_, ?_⟩
 ·have h5 := blk_set (blk_set (blk_set (blk_set (blk_set h.res 0 (.int .i64 kk)) 1 (.string noStr)) 2 (.string noStr)) 3 v3) 4 v4
  simpa only [List.setIfInBounds_toArray, List.set_cons_zero, List.set_cons_succ] using h5
 ·refine Kd.R_mono (ok := fun k => xb < k) ?_ fun k hk => by omega
  exact Kd.R_far (Kd.R_far (Kd.R_far (Kd.R_far (Kd.R_far h.r3 (fun k hk => by show k ≠ w.heap.size; omega) _) (fun k hk => by show k ≠ w.heap.size; omega) _) (fun k hk => by show k ≠ w.heap.size; omega) _) (fun k hk => by show k ≠ w.heap.size; omega) _) (fun k hk => by show k ≠ w.heap.size; omega) _
 ·refine Kd.R_mono (ok := fun k => xb < k ∧ some k ≠ v3.ownBlock) ?_ fun k hk => by omega
  exact Kd.R_far (Kd.R_far (Kd.R_far (Kd.R_far (Kd.R_far h.r4 (fun k hk => by show k ≠ w.heap.size; have := hk.1; omega) _) (fun k hk => by show k ≠ w.heap.size; have := hk.1; omega) _) (fun k hk => by show k ≠ w.heap.size; have := hk.1; omega) _) (fun k hk => by show k ≠ w.heap.size; have := hk.1; omega) _) (fun k hk => by show k ≠ w.heap.size; have := hk.1; omega) _
 ·exact ((((h.below.setCell (Nat.le_refl _) _).setCell (Nat.le_refl _) _).setCell (Nat.le_refl _) _).setCell (Nat.le_refl _) _).setCell (Nat.le_refl _) _
end
set_option maxRecDepth 20000 in
set_option maxHeartbeats 4000000 in
theorem nodeOf41 : ∀ n, NodeC n := by
 intro n
 induction n with
 | zero => intro x h; exact h.elim
 | succ n ih =>
  intro y hy w b F hrep
  have hgx := blk_new rfl (w := w) (.cells #[.int .i64 0, .string noStr, .string noStr, nilS, nilS] 25)
  have hb0 := below_alloc (Below.refl w.heap.size w) (.cells #[.int .i64 0, .string noStr, .string noStr, nilS, nilS] 25)
  cases hrep with
  | sc _ text tag _ h hF =>
   have hn := h.under hb0
   have c0 := hn.c0
   have c2 := hn.c2
   have c3 := hn.c3
   have HX := Lib.hid hgx
   have HB := Lib.hid hb0
   clear hgx hb0 h hn
   go_enter Tryz.func41, Tryz.ntmps41
   go_wp2_with fail
   refine start_ (n := 10) (S := fun w' => w'.cell? ⟨b, 3, none⟩ = some (.string text) ∧ w'.cell? ⟨b, 2, none⟩ = some (.string tag)) (ds := [9]) #[false, false, false, false, false, false, false, false, false, false] (by kernel_rfl) rfl rfl ⟨c3, c2⟩ (fun hHeld => ?_)
   refine pu 0 (some 17) (bl 10 1) ?_
   refine pu 1 (some 18) (bl 10 3) ?_
   refine pu 2 (some 19) (bl 10 7) ?_
   refine pu 4 (some 21) (bl 10 23) ?_
   refine pu 5 (some 22) (bl 10 55) ?_
   refine pu 6 (some 23) (bl 10 119) ?_
   refine tk 3 (some 20) (bl 10 127) hHeld ?_
   refine tk 7 (some 24) (bl 10 255) hHeld ?_
   refine pu 8 (some 25) (bl 10 511) ?_
   refine ls_ 9 none (bl 10 1023) fun K hK => ?_
   refine skip_ (w1 := ?_) (by rfl) rfl ?_ ?_
   rotate_left
   ·go_simp
    rfl
   refine hK.out _ _ ?_
   clear hK K
   refine done_ (by kernel_rfl) ?_
   go_wp2_with fail
   refine bodyPost_ret (results_cell_row rfl _ _ w.heap.size 25 #[.int .i64 1, .string text, .string tag, .slice none 0 0, .slice none 0 0] (0, 0) _ rfl (blk_drew (blk_new rfl _)) Tryz.underlying25 rfl (by kernel_rfl)) rfl ?_
   exact ⟨_, rfl, ⟨_, _, rfl, Kd.R_nil _ _ _ _ _, Kd.R_nil _ _ _ _ _⟩, below_drew (below_alloc (Below.refl _ _) _)⟩
  | mp _ C kids _ h hF hr hd hk hc =>
   obtain ⟨A, cc, rfl, hlc, hcm⟩ := hr.slice
   have hlen : kids.length ≤ 5000 := by simpa using hy.1
   have h2l := two_length kids
   obtain ⟨n2, hn2⟩ : ∃ n2, n2 = 2 * kids.length := ⟨_, rfl⟩
   rw [h2l, ← hn2] at h hr
   have HN2 := Lib.hid hn2
   have hn := h.under hb0
   have c0 := hn.c0
   have HM := Lib.hid (And.intro h (And.intro hr (And.intro hk (And.intro hc (And.intro hy.2 hlen)))))
   have HI := Lib.hid ih
   have HB := Lib.hid hb0
   clear hgx hb0 h hn hr hk hc hd ih h2l hlc hcm hn2
   go_enter Tryz.func41, Tryz.ntmps41
   go_wp2_with fail
   have hst : StM w (w.heap.size + 1) 2 (kids.map (·.key)) (kids.map (·.y)) 0 0 nilS nilS ((w.alloc (.cells #[.int .i64 0, .string noStr, .string noStr, nilS, nilS] 25)).alloc (.cells #[.int .i64 2, .string noStr, .string noStr, nilS, nilS] 25)) :=
    ⟨below_alloc HB.out _, by omega, blk_old _ (blk_new rfl _), blk_new (by simp) _, Kd.R_nil _ _ _ _ _, Kd.R_nil _ _ _ _ _⟩
   have H0 := Lib.hid hst
   clear hst
   have hNb : (n2 : Int) ≤ 1000000 := by have := HM.out.2.2.2.2.2; have := HN2.out; omega
   obtain ⟨xb, hxb⟩ : ∃ xb, xb = w.heap.size + 1 := ⟨_, rfl⟩
   rw [← hxb] at H0
   rw [← hxb]
   have HXB := Lib.hid hxb
   clear hxb
   go_loopg [4] kids.length (fun k i wr => ∃ j q : Nat, q = 2 * j ∧ j + k = kids.length ∧ i = .int .i64 (q : Int) ∧ Hid (∃ v3 v4, StM w xb 2 (kids.map (·.key)) (kids.map (·.y)) j j v3 v4 wr))
   case atStart => exact ⟨0, 0, rfl, by omega, rfl, Lib.hid ⟨_, _, H0.out⟩⟩
   case round =>
    obtain ⟨j, q, hq, hj, rfl, hI⟩ := hrel
    obtain ⟨v3, v4, hst⟩ := hI.out
    have hnr := HM.out.1.under hst.below
    have n6 := hnr.c6
    have HST := Lib.hid hst
    by_cases hlt : 1 ≤ gk
    ·have hj1 : (q : Int) + 1 < (n2 : Int) := by have := HN2.out; omega
     have hj2 : (q : Int) < (n2 : Int) := by have := HN2.out; omega
     have hj3 : q < n2 := by omega
     have hj4 : q + 1 < n2 := by omega
     have hjk : j < kids.length := by omega
     obtain ⟨kid, hkid⟩ : ∃ kid, kids[j]? = some kid := ⟨_, List.getElem?_eq_getElem hjk⟩
     have hmem := List.mem_of_getElem? hkid
     have ht := two_get kids j
     rw [hkid] at ht
     have hrow := HM.out.2.1.under hst.below
     have hg1 := hrow.cell (2 * j) kid.kb ht.1
     have hg2 := hrow.cell (2 * j + 1) kid.cb ht.2
     rw [← hq] at hg1 hg2
     obtain ⟨g, rfl, e1⟩ := hg1
     obtain ⟨g', hgg, e2⟩ := hg2
     injection hgg with hgg
     injection hgg with hgg
     subst hgg
     have hkn := ((HM.out.2.2.1 kid hmem).1).under hst.below
     have e3 := hkn.c3
     have x3 : wr.cell? ⟨xb, 3, none⟩ = some v3 := (blk_cell hst.box 3).trans rfl
     have HK := Lib.hid (And.intro hkid (And.intro hmem hq))
     obtain ⟨inn3, ho3, _⟩ := hst.r3.2
     obtain ⟨L3, B3, d3, rfl⟩ : ∃ L A c, v3 = .slice A L c := by obtain ⟨A, c, h⟩ := own_slice ho3; exact ⟨_, A, c, h⟩
     clear ho3
     clear hst hnr hkid hmem ht hrow hkn hI hq
     go_wp2_with fail
     refine start_ (n := 16) (S := fun w' => w'.cell? ⟨xb, 3, none⟩ = some (.slice B3 L3 d3) ∧ w'.cell? ⟨b, 6, none⟩ = some (.slice (some ⟨g, 0, none⟩) n2 cc) ∧ w'.cell? ⟨g, q, none⟩ = some (.pointer (some ⟨kid.kb, 0, none⟩)) ∧ w'.cell? ⟨kid.kb, 3, none⟩ = some (.string kid.key)) (ds := [13, 15]) #[false, false, false, false, false, false, false, false, false, false, false, false, false, false, false, false] (by kernel_rfl) rfl rfl ⟨x3, n6, e1, e3⟩ (fun hHeld => ?_)
     refine pu 0 (some 39) (bl 16 1) ?_
     refine pu 2 (some 41) (bl 16 5) ?_
     refine pu 3 (some 42) (bl 16 13) ?_
     refine pu 4 (some 43) (bl 16 29) ?_
     refine pu 6 (some 45) (bl 16 93) ?_
     refine tk 1 (some 40) (bl 16 95) hHeld ?_
     refine tk 5 (some 44) (bl 16 127) hHeld ?_
     refine pu 7 (some 46) (bl 16 255) ?_
     refine tk 8 (some 47) (bl 16 511) hHeld ?_
     refine pu 9 (some 48) (bl 16 1023) ?_
     refine pu 10 (some 49) (bl 16 2047) ?_
     refine tk 11 (some 50) (bl 16 4095) hHeld ?_
     refine on_ 12 (some 51) (bl 16 8191) fun K hK => ?_
     refine value_ (w1 := ?_) (v := ?_) (by rfl) rfl ?_ ?_
     rotate_left 2
     ·go_simp
      constructor
      ·rfl
      ·rfl
     refine hK.out _ _ ⟨cell_old _ hHeld.1, cell_old _ hHeld.2.1, cell_old _ hHeld.2.2.1, cell_old _ hHeld.2.2.2⟩ (fun hHeld => ?_)
     clear hK K
     refine nr (some 51) ?_
     refine ls_ 13 (some 52) (bl 16 16383) fun K hK => ?_
     refine Kd.R_append_step Kd.string (w0 := w) (W := wr.drew) w.heap.size (by rfl) _ _ 22 9 (.string ⟨#[]⟩) 16 rfl Tryz.underlying22 info9 rfl (by decide) (by omega) (.slice B3 L3 d3) _ kid.key [.string kid.key] (fun k => xb < k) (fun _ => False) (by rfl) (by simp [Act.eval]) (by rfl) (fun _ h => h.elim) (fun k hk => Nat.lt_of_lt_of_le (lt_of_block HST.out.box) hk) (Kd.R_step (w1 := wr.drew) HST.out.r3 fun _ _ _ => rfl) (below_drew HST.out.below) HST.out.below.size (by have := HM.out.2.2.2.2.2; simp; omega) ?_
     intro v1 w9 hr1 hb1 hg1 hat1
     obtain ⟨inn1, ho1, _⟩ := hr1.2
     obtain ⟨L1, A1, c1, rfl⟩ : ∃ L A c, v1 = .slice A L c := by obtain ⟨A, c, h⟩ := own_slice ho1; exact ⟨_, A, c, h⟩
     clear ho1
     have hx9 := (hg1.block xb (lt_of_block HST.out.box) (fun e => Nat.lt_irrefl _ (HST.out.r3.1 xb e.symm))).trans HST.out.box
     have c93 := blk_cell hx9 3
     have z93 := blk_frozen hx9 3
     have hpush := (HST.out.under (below_drew (Below.refl _ _))).push3 (key := kid.key) (by rw [List.getElem?_map, HK.out.1]; rfl) hr1 hg1 hat1
     have HP3 := Lib.hid hpush
     clear hpush hr1 hb1 hg1 hat1 hx9
     refine hK.out _ _ ?_
     clear hK K
     refine nr (some 52) ?_
     refine pu 14 (some 53) (bl 16 32767) ?_
     refine ls_ 15 none (bl 16 65535) fun K hK => ?_
     refine skip_ (w1 := ?_) (by rfl) rfl ?_ ?_
     rotate_left
     ·go_simp
      rfl
     refine hK.out _ _ ?_
     clear hK K
     refine done_ (by kernel_rfl) ?_
     go_wp2_with fail
     obtain ⟨wa, hwa⟩ : ∃ wa, wa = w9.setCell ⟨xb, 3, none⟩ (.slice A1 L1 c1) := ⟨_, rfl⟩
     rw [← hwa] at HP3
     rw [← hwa]
     clear hwa c93 z93
     have hst := HP3.out
     obtain ⟨inn4, ho4, _⟩ := hst.r4.2
     obtain ⟨L4, B4, d4, rfl⟩ : ∃ L A c, v4 = .slice A L c := by obtain ⟨A, c, h⟩ := own_slice ho4; exact ⟨_, A, c, h⟩
     clear ho4
     have y4 : wa.cell? ⟨xb, 4, none⟩ = some (.slice B4 L4 d4) := (blk_cell hst.box 4).trans rfl
     have m6 := (HM.out.1.under hst.below).c6
     have ht := two_get kids j
     rw [HK.out.1] at ht
     obtain ⟨g', hgg, f2⟩ := (HM.out.2.1.under hst.below).cell (2 * j + 1) kid.cb ht.2
     rw [← HK.out.2.2] at f2
     injection hgg with hgg
     injection hgg with hgg
     subst hgg
     clear hst ht
     obtain ⟨q1, hq1⟩ : ∃ q1, q1 = q + 1 := ⟨_, rfl⟩
     have hwq : wrap64 ((q : Int) + 1) = (q1 : Int) := by unfold Go.RowKit.wrap64; omega
     have hq1n : (q1 : Int) < (n2 : Int) := by omega
     have hq1m : q1 < n2 := by omega
     rw [← hq1] at f2
     clear hq1
     refine start_ (n := 15) (S := fun w' => w'.cell? ⟨xb, 4, none⟩ = some (.slice B4 L4 d4) ∧ w'.cell? ⟨b, 6, none⟩ = some (.slice (some ⟨g, 0, none⟩) n2 cc) ∧ w'.cell? ⟨g, q1, none⟩ = some (.pointer (some ⟨kid.cb, 0, none⟩))) (ds := [12, 14]) #[false, false, false, false, false, false, false, false, false, false, false, false, false, false, false] (by kernel_rfl) rfl rfl ⟨y4, m6, f2⟩ (fun hHeld => ?_)
     refine pure_ (i := 0) (N := some 54) (v := ?_) (a' := ?_) (bl 15 1) rfl rfl (by kernel_rfl) (fun _ _ _ h => h) (Or.inl ⟨by rfl, ?_⟩) ?_ ?_; rotate_left; (· (intro w'; go_simp; with_reducible rfl)); rotate_left; (· (simp only [np, hwq]; rfl))
     refine pure_ (i := 2) (N := some 56) (v := ?_) (a' := ?_) (bl 15 5) rfl rfl (by kernel_rfl) (fun _ _ _ h => h) (Or.inl ⟨by rfl, ?_⟩) ?_ ?_; rotate_left; (· (intro w'; go_simp; with_reducible rfl)); rotate_left; (· (simp only [np, hwq]; rfl))
     refine pure_ (i := 3) (N := some 57) (v := ?_) (a' := ?_) (bl 15 13) rfl rfl (by kernel_rfl) (fun _ _ _ h => h) (Or.inl ⟨by rfl, ?_⟩) ?_ ?_; rotate_left; (· (intro w'; go_simp; with_reducible rfl)); rotate_left; (· (simp only [np, hwq]; rfl))
     refine pure_ (i := 4) (N := some 58) (v := ?_) (a' := ?_) (bl 15 29) rfl rfl (by kernel_rfl) (fun _ _ _ h => h) (Or.inl ⟨by rfl, ?_⟩) ?_ ?_; rotate_left; (· (intro w'; go_simp; with_reducible rfl)); rotate_left; (· (simp only [np, hwq]; rfl))
     refine pure_ (i := 6) (N := some 60) (v := ?_) (a' := ?_) (bl 15 93) rfl rfl (by kernel_rfl) (fun _ _ _ h => h) (Or.inl ⟨by rfl, ?_⟩) ?_ ?_; rotate_left; (· (intro w'; go_simp; with_reducible rfl)); rotate_left; (· (simp only [np, hwq]; rfl))
     refine pure_ (i := 7) (N := some 61) (v := ?_) (a' := ?_) (bl 15 221) rfl rfl (by kernel_rfl) (fun _ _ _ h => h) (Or.inl ⟨by rfl, ?_⟩) ?_ ?_; rotate_left; (· (intro w'; go_simp; with_reducible rfl)); rotate_left; (· (simp only [np, hwq]; rfl))
     refine take_ (i := 1) (N := some 55) (v := ?_) (a' := ?_) (bl 15 223) rfl rfl (by kernel_rfl) (fun _ _ _ h => h) (Or.inl ⟨by rfl, ?_⟩) hHeld ?_ ?_; rotate_left; (· (rintro w' ⟨s0, s1, s2⟩; go_simp; with_reducible rfl)); rotate_left; (· (simp only [np, hwq]; rfl))
     refine take_ (i := 5) (N := some 59) (v := ?_) (a' := ?_) (bl 15 255) rfl rfl (by kernel_rfl) (fun _ _ _ h => h) (Or.inl ⟨by rfl, ?_⟩) hHeld ?_ ?_; rotate_left; (· (rintro w' ⟨s0, s1, s2⟩; go_simp; with_reducible rfl)); rotate_left; (· (simp only [np, hwq]; rfl))
     refine pure_ (i := 8) (N := some 62) (v := ?_) (a' := ?_) (bl 15 511) rfl rfl (by kernel_rfl) (fun _ _ _ h => h) (Or.inl ⟨by rfl, ?_⟩) ?_ ?_; rotate_left; (· (intro w'; go_simp; with_reducible rfl)); rotate_left; (· (simp only [np, hwq]; rfl))
     refine take_ (i := 9) (N := some 63) (v := ?_) (a' := ?_) (bl 15 1023) rfl rfl (by kernel_rfl) (fun _ _ _ h => h) (Or.inl ⟨by rfl, ?_⟩) hHeld ?_ ?_; rotate_left; (· (rintro w' ⟨s0, s1, s2⟩; go_simp; with_reducible rfl)); rotate_left; (· (simp only [np, hwq]; rfl))
     refine on_ 10 (some 64) (bl 15 2047) fun K hK => ?_
     refine gs_ Tryz.func41 #[.pointer (some ⟨kid.cb, 0, none⟩)] ?_
     refine (HI.out kid.y (HM.out.2.2.2.2.1 kid.y (List.mem_map_of_mem HK.out.2.1)) wa.drew kid.cb _ ((HM.out.2.2.2.1 kid HK.out.2.1).under (below_drew HP3.out.below))).mono ?_
     rintro e w7 ⟨_, rfl, ⟨u3, u4, rfl, hr3, hr4⟩, hbc⟩
     have HR := Lib.hid (show Kd.R Kd.string 9 w7 wa.heap.size (fun k => wa.heap.size < k) u3 kid.y.f3 ∧ Kd.R k25 25 w7 wa.heap.size (fun k => wa.heap.size < k) u4 kid.y.f4 from ⟨hr3, hr4⟩)
     have HMK := Lib.hid (k25_mkM w7 w.heap.size (fun k => wa.heap.size < k) kid.y (Kd.R_lower HR.out.1 HP3.out.below.size) (Kd.R_lower HR.out.2 HP3.out.below.size))
     have HBC := Lib.hid hbc
     clear hr3 hr4 hbc
     refine ⟨_, rfl, ?_⟩
     refine hK.out _ _ (he3 HBC.out hHeld) (fun hHeld => ?_)
     clear hK K
     refine norm_ (a' := ?_) ?_ ?_; rotate_left; (· (show Act.put _ (some 64) _ = _; simp only [np, hwq]; rfl))
     refine on_ 11 (some 65) (bl 15 4095) fun K hK => ?_
     refine value_ (w1 := ?_) (v := ?_) (by rfl) rfl ?_ ?_
     rotate_left 2
     ·go_simp
      constructor
      ·rfl
      ·rfl
     refine hK.out _ _ ⟨cell_old _ hHeld.1, cell_old _ hHeld.2.1, cell_old _ hHeld.2.2⟩ (fun hHeld => ?_)
     clear hK K
     refine norm_ (a' := ?_) ?_ ?_; rotate_left; (· (show Act.put _ (some 65) _ = _; simp only [np, hwq]; rfl))
     refine ls_ 12 (some 66) (bl 15 8191) fun K hK => ?_
     have HP7 := Lib.hid (HP3.out.under ((below_drew (Below.refl wa.heap.size wa)).trans HBC.out))
     have hsz7 : wa.heap.size ≤ w7.heap.size := HBC.out.size
     have HSZ := Lib.hid hsz7
     clear hsz7
     have HXL := Lib.hid (lt_of_block HP3.out.box)
     refine Kd.R_append_step k25 (w0 := w) (W := w7) w.heap.size (by rfl) _ _ 23 25 (.agg #[(.int .i64 0), (.string ⟨#[]⟩), (.string ⟨#[]⟩), (.slice none 0 0), (.slice none 0 0)]) 88 rfl Tryz.underlying23 info25 rfl (by decide) (by omega) (.slice B4 L4 d4) _ kid.y [.int .i64 kid.y.f0, .string kid.y.f1, .string kid.y.f2, u3, u4] (fun k => xb < k ∧ some k ≠ (Value.slice A1 L1 c1).ownBlock) (fun k => wa.heap.size < k) (by rfl) (by simp [Act.eval]) HMK.out ?okp ?fresh HP7.out.r4 HP7.out.below HP7.out.below.size (by have := HM.out.2.2.2.2.2; simp; omega) ?_
     case okp =>
      intro k hk
      obtain ⟨in3, ho3, _⟩ := HP3.out.r3.2
      obtain ⟨in4, ho4, _⟩ := HP3.out.r4.2
      have := HXL.out
      exact ⟨⟨by omega, fun e => by have := own_lt ho3 k e.symm; omega⟩, fun e => by have := own_lt ho4 k e.symm; omega⟩
     case fresh =>
      intro k hk
      obtain ⟨in3, ho3, _⟩ := HP3.out.r3.2
      have := HXL.out
      have := HSZ.out
      exact ⟨by omega, fun e => by have := own_lt ho3 k e.symm; omega⟩
     intro v1 w8 hr1 hb1 hg1 hat1
     obtain ⟨inn1, ho1, _⟩ := hr1.2
     obtain ⟨L2, A2, c2, rfl⟩ : ∃ L A c, v1 = .slice A L c := by obtain ⟨A, c, h⟩ := own_slice ho1; exact ⟨_, A, c, h⟩
     clear ho1
     have hx8 := (hg1.block xb (lt_of_block HP7.out.box) (fun e => Nat.lt_irrefl _ (HP7.out.r4.1 xb e.symm).1)).trans HP7.out.box
     have c84 := blk_cell hx8 4
     have z84 := blk_frozen hx8 4
     have hpush := HP7.out.push4 (y := kid.y) (by rw [List.getElem?_map, HK.out.1]; rfl) hr1 hg1
     have HP4 := Lib.hid hpush
     clear hpush hr1 hb1 hg1 hat1 hx8
     refine hK.out _ _ ?_
     clear hK K
     refine norm_ (a' := ?_) ?_ ?_; rotate_left; (· (show Act.put _ (some 66) _ = _; simp only [np, hwq]; rfl))
     refine pure_ (i := 13) (N := some 67) (v := ?_) (a' := ?_) (bl 15 16383) rfl rfl (by kernel_rfl) (fun _ _ _ h => h) (Or.inl ⟨by rfl, ?_⟩) ?_ ?_; rotate_left; (· (intro w'; go_simp; with_reducible rfl)); rotate_left; (· (simp only [np, hwq]; rfl))
     refine ls_ 14 none (bl 15 32767) fun K hK => ?_
     refine skip_ (w1 := ?_) (by rfl) rfl ?_ ?_
     rotate_left
     ·go_simp
      rfl
     refine hK.out _ _ ?_
     clear hK K
     refine done_ (by kernel_rfl) ?_
     go_wp2_with fail
     go_roundg (gk - 1)
     case measure => omega
     case rel => exact ⟨j + 1, q + 2, by have := HK.out.2.2; omega, by omega, by go_num, Lib.hid ⟨_, _, HP4.out⟩⟩
    ·have hqe : ¬ ((q : Int) + 1 < (n2 : Int)) := by have := HN2.out; omega
     have hqe' : ¬ (q + 1 < n2) := by have := HN2.out; omega
     have hjl := Lib.hid (show j = kids.length by omega)
     obtain ⟨inn3, ho3, _⟩ := hst.r3.2
     obtain ⟨inn4, ho4, _⟩ := hst.r4.2
     obtain ⟨L3, B3, d3, rfl⟩ : ∃ L A c, v3 = .slice A L c := by obtain ⟨A, c, h⟩ := own_slice ho3; exact ⟨_, A, c, h⟩
     obtain ⟨L4, B4, d4, rfl⟩ : ∃ L A c, v4 = .slice A L c := by obtain ⟨A, c, h⟩ := own_slice ho4; exact ⟨_, A, c, h⟩
     obtain ⟨x0, x1, x2, x3, x4⟩ := cl5 hst.box
     have z0 := blk_frozen hst.res 0
     have z1 := blk_frozen hst.res 1
     have z2 := blk_frozen hst.res 2
     have z3 := blk_frozen hst.res 3
     have z4 := blk_frozen hst.res 4
     have r0 : wr.cell? ⟨w.heap.size, 0, none⟩ = some (.int .i64 0) := (blk_cell hst.res 0).trans rfl
     have r1 : wr.cell? ⟨w.heap.size, 1, none⟩ = some (.string noStr) := (blk_cell hst.res 1).trans rfl
     have r2 : wr.cell? ⟨w.heap.size, 2, none⟩ = some (.string noStr) := (blk_cell hst.res 2).trans rfl
     have r3 : wr.cell? ⟨w.heap.size, 3, none⟩ = some nilS := (blk_cell hst.res 3).trans rfl
     have r4 : wr.cell? ⟨w.heap.size, 4, none⟩ = some nilS := (blk_cell hst.res 4).trans rfl
     have HBK := Lib.hid hst.done
     clear hst hnr hI ho3 ho4
     go_wp2_with fail
     refine bodyPost_ret (results_cell_row rfl _ _ w.heap.size 25 #[.int .i64 2, .string noStr, .string noStr, .slice B3 L3 d3, .slice B4 L4 d4] (0, 0) _ rfl HBK.out.1 Tryz.underlying25 rfl (by kernel_rfl)) rfl ?_
     refine ⟨_, rfl, ⟨_, _, rfl, ?_, ?_⟩, HBK.out.2.2.2⟩
     ·have := HBK.out.2.1
      rw [hjl.out, List.take_of_length_le (by simp)] at this
      exact this
     ·have := HBK.out.2.2.1
      rw [hjl.out, List.take_of_length_le (by simp)] at this
      exact this
  | sq _ C kids _ h hF hr hd hk hc =>
   obtain ⟨A, cc, rfl, hlc, hcm⟩ := hr.slice
   have hlen : kids.length ≤ 5000 := by simpa using hy.1
   obtain ⟨n2, hn2⟩ : ∃ n2, n2 = kids.length := ⟨_, rfl⟩
   rw [List.length_map, ← hn2] at h hr
   have HN2 := Lib.hid hn2
   have hn := h.under hb0
   have c0 := hn.c0
   have HM := Lib.hid (And.intro h (And.intro hr (And.intro hk (And.intro hc (And.intro hy.2 hlen)))))
   have HI := Lib.hid ih
   have HB := Lib.hid hb0
   clear hb0 h hr hk hc hd ih hlc hcm hn2
   have m6 := (hn.under (below_alloc (Below.refl _ _) (.cells #[.int .i64 3, .string noStr, .string noStr, nilS, nilS] 25))).c6
   clear hn
   go_enter Tryz.func41, Tryz.ntmps41
   go_wp2_with fail
   have hst : StM w (w.heap.size + 1) 3 [] (kids.map (·.y)) 0 0 nilS nilS ((w.alloc (.cells #[.int .i64 0, .string noStr, .string noStr, nilS, nilS] 25)).alloc (.cells #[.int .i64 3, .string noStr, .string noStr, nilS, nilS] 25)) :=
    ⟨below_alloc HB.out _, by omega, blk_old _ (blk_new rfl _), blk_new (by simp) _, Kd.R_nil _ _ _ _ _, Kd.R_nil _ _ _ _ _⟩
   have H0 := Lib.hid hst
   clear hst m6
   have hNb : (n2 : Int) ≤ 1000000 := by have := HM.out.2.2.2.2.2; have := HN2.out; omega
   obtain ⟨xb, hxb⟩ : ∃ xb, xb = w.heap.size + 1 := ⟨_, rfl⟩
   rw [← hxb] at H0
   rw [← hxb]
   have HXB := Lib.hid hxb
   clear hxb
   go_loopg [77] n2 (fun k i wr => ∃ j : Nat, j + k = n2 ∧ i = .int .i64 (j : Int) ∧ Hid (∃ v4, StM w xb 3 [] (kids.map (·.y)) 0 j nilS v4 wr))
   case atStart => exact ⟨0, by omega, rfl, Lib.hid ⟨_, H0.out⟩⟩
   case round =>
    obtain ⟨j, hj, rfl, hI⟩ := hrel
    obtain ⟨v4, hst⟩ := hI.out
    have HST := Lib.hid hst
    by_cases hlt : 1 ≤ gk
    ·have hj2 : (j : Int) < (n2 : Int) := by omega
     have hj3 : j < n2 := by omega
     have hjk : j < kids.length := by have := HN2.out; omega
     obtain ⟨kid, hkid⟩ : ∃ kid, kids[j]? = some kid := ⟨_, List.getElem?_eq_getElem hjk⟩
     have hmem := List.mem_of_getElem? hkid
     have ht : (kids.map (·.cb))[j]? = some kid.cb := by rw [List.getElem?_map, hkid]; rfl
     obtain ⟨g, rfl, e1⟩ := (HM.out.2.1.under hst.below).cell j kid.cb ht
     have HK := Lib.hid (And.intro hkid hmem)
     obtain ⟨inn4, ho4, _⟩ := hst.r4.2
     obtain ⟨L4, B4, d4, rfl⟩ : ∃ L A c, v4 = .slice A L c := by obtain ⟨A, c, h⟩ := own_slice ho4; exact ⟨_, A, c, h⟩
     have x4 : wr.cell? ⟨xb, 4, none⟩ = some (.slice B4 L4 d4) := (blk_cell hst.box 4).trans rfl
     clear ho4
     clear hst hkid hmem ht hI
     go_wp2_with fail
     refine start_ (n := 8) (S := fun w' => w'.cell? ⟨xb, 4, none⟩ = some (.slice B4 L4 d4)) (ds := [5, 7]) #[false, false, false, false, false, false, false, false] (by kernel_rfl) rfl rfl (x4) (fun hHeld => ?_)
     refine pu 0 (some 81) (bl 8 1) ?_
     refine pu 2 (some 83) (bl 8 5) ?_
     refine tk1 1 (some 82) (bl 8 7) hHeld ?_
     refine on_ 3 (some 84) (bl 8 15) fun K hK => ?_
     refine gs_ Tryz.func41 #[.pointer (some ⟨kid.cb, 0, none⟩)] ?_
     refine (HI.out kid.y (HM.out.2.2.2.2.1 kid.y (List.mem_map_of_mem HK.out.2)) wr.drew kid.cb _ ((HM.out.2.2.2.1 kid HK.out.2).under (below_drew HST.out.below))).mono ?_
     rintro e w7 ⟨_, rfl, ⟨u3, u4, rfl, hr3, hr4⟩, hbc⟩
     have HR := Lib.hid (show Kd.R Kd.string 9 w7 wr.heap.size (fun k => wr.heap.size < k) u3 kid.y.f3 ∧ Kd.R k25 25 w7 wr.heap.size (fun k => wr.heap.size < k) u4 kid.y.f4 from ⟨hr3, hr4⟩)
     have HMK := Lib.hid (k25_mkM w7 w.heap.size (fun k => wr.heap.size < k) kid.y (Kd.R_lower HR.out.1 HST.out.below.size) (Kd.R_lower HR.out.2 HST.out.below.size))
     have HBC := Lib.hid hbc
     clear hr3 hr4 hbc
     refine ⟨_, rfl, ?_⟩
     refine hK.out _ _ ((HBC.out.cell (World.block_lt_of_cell? _ _ hHeld)).trans hHeld) (fun hHeld => ?_)
     clear hK K
     refine nr (some 84) ?_
     refine on_ 4 (some 85) (bl 8 31) fun K hK => ?_
     refine value_ (w1 := ?_) (v := ?_) (by rfl) rfl ?_ ?_
     rotate_left 2
     ·go_simp
      constructor
      ·rfl
      ·rfl
     refine hK.out _ _ (cell_old _ hHeld) (fun hHeld => ?_)
     clear hK K
     refine nr (some 85) ?_
     refine ls_ 5 (some 86) (bl 8 63) fun K hK => ?_
     have HP7 := Lib.hid (HST.out.under ((below_drew (Below.refl wr.heap.size wr)).trans HBC.out))
     have hsz7 : wr.heap.size ≤ w7.heap.size := HBC.out.size
     have HSZ := Lib.hid hsz7
     clear hsz7
     have HXL := Lib.hid (lt_of_block HST.out.box)
     refine Kd.R_append_step k25 (w0 := w) (W := w7) w.heap.size (by rfl) _ _ 23 25 (.agg #[(.int .i64 0), (.string ⟨#[]⟩), (.string ⟨#[]⟩), (.slice none 0 0), (.slice none 0 0)]) 88 rfl Tryz.underlying23 info25 rfl (by decide) (by omega) (.slice B4 L4 d4) _ kid.y [.int .i64 kid.y.f0, .string kid.y.f1, .string kid.y.f2, u3, u4] (fun k => xb < k ∧ some k ≠ nilS.ownBlock) (fun k => wr.heap.size < k) (by rfl) (by simp [Act.eval]) HMK.out ?okp ?fresh HP7.out.r4 HP7.out.below HP7.out.below.size (by have := HM.out.2.2.2.2.2; simp; omega) ?_
     case okp =>
      intro k hk
      obtain ⟨in4, ho4, _⟩ := HST.out.r4.2
      have := HXL.out
      exact ⟨⟨by omega, by simp [Value.ownBlock]⟩, fun e => by have := own_lt ho4 k e.symm; omega⟩
     case fresh =>
      intro k hk
      have := HXL.out
      have := HSZ.out
      exact ⟨by omega, by simp [Value.ownBlock]⟩
     intro v1 w8 hr1 hb1 hg1 hat1
     obtain ⟨inn1, ho1, _⟩ := hr1.2
     obtain ⟨L2, A2, c2, rfl⟩ : ∃ L A c, v1 = .slice A L c := by obtain ⟨A, c, h⟩ := own_slice ho1; exact ⟨_, A, c, h⟩
     clear ho1
     have hx8 := (hg1.block xb (lt_of_block HP7.out.box) (fun e => Nat.lt_irrefl _ (HP7.out.r4.1 xb e.symm).1)).trans HP7.out.box
     have c84 := blk_cell hx8 4
     have z84 := blk_frozen hx8 4
     have hpush := HP7.out.push4 (y := kid.y) (by rw [List.getElem?_map, HK.out.1]; rfl) hr1 hg1
     have HP4 := Lib.hid hpush
     clear hpush hr1 hb1 hg1 hat1 hx8
     refine hK.out _ _ ?_
     clear hK K
     refine nr (some 86) ?_
     refine pu 6 (some 87) (bl 8 127) ?_
     refine ls_ 7 none (bl 8 255) fun K hK => ?_
     refine skip_ (w1 := ?_) (by rfl) rfl ?_ ?_
     rotate_left
     ·go_simp
      rfl
     refine hK.out _ _ ?_
     clear hK K
     refine done_ (by kernel_rfl) ?_
     go_wp2_with fail
     go_roundg (gk - 1)
     case measure => omega
     case rel => exact ⟨j + 1, by omega, by go_num, Lib.hid ⟨_, HP4.out⟩⟩
    ·have hqe : ¬ ((j : Int) < (n2 : Int)) := by omega
     have hqe' : ¬ (j < n2) := by omega
     have hjl := Lib.hid (show j = kids.length by have := HN2.out; omega)
     obtain ⟨inn4, ho4, _⟩ := hst.r4.2
     obtain ⟨L4, B4, d4, rfl⟩ : ∃ L A c, v4 = .slice A L c := by obtain ⟨A, c, h⟩ := own_slice ho4; exact ⟨_, A, c, h⟩
     have x0 : wr.cell? ⟨xb, 0, none⟩ = some (.int .i64 3) := (blk_cell hst.box 0).trans rfl
     have x1 : wr.cell? ⟨xb, 1, none⟩ = some (.string noStr) := (blk_cell hst.box 1).trans rfl
     have x2 : wr.cell? ⟨xb, 2, none⟩ = some (.string noStr) := (blk_cell hst.box 2).trans rfl
     have x3 : wr.cell? ⟨xb, 3, none⟩ = some nilS := (blk_cell hst.box 3).trans rfl
     have x4 : wr.cell? ⟨xb, 4, none⟩ = some (.slice B4 L4 d4) := (blk_cell hst.box 4).trans rfl
     have z0 := blk_frozen hst.res 0
     have z1 := blk_frozen hst.res 1
     have z2 := blk_frozen hst.res 2
     have z3 := blk_frozen hst.res 3
     have z4 := blk_frozen hst.res 4
     have r0 : wr.cell? ⟨w.heap.size, 0, none⟩ = some (.int .i64 0) := (blk_cell hst.res 0).trans rfl
     have r1 : wr.cell? ⟨w.heap.size, 1, none⟩ = some (.string noStr) := (blk_cell hst.res 1).trans rfl
     have r2 : wr.cell? ⟨w.heap.size, 2, none⟩ = some (.string noStr) := (blk_cell hst.res 2).trans rfl
     have r3 : wr.cell? ⟨w.heap.size, 3, none⟩ = some nilS := (blk_cell hst.res 3).trans rfl
     have r4 : wr.cell? ⟨w.heap.size, 4, none⟩ = some nilS := (blk_cell hst.res 4).trans rfl
     have HBK := Lib.hid hst.done
     clear hst hI ho4
     go_wp2_with fail
     refine bodyPost_ret (results_cell_row rfl _ _ w.heap.size 25 #[.int .i64 3, .string noStr, .string noStr, nilS, .slice B4 L4 d4] (0, 0) _ rfl HBK.out.1 Tryz.underlying25 rfl (by kernel_rfl)) rfl ?_
     refine ⟨_, rfl, ⟨_, _, rfl, ?_, ?_⟩, HBK.out.2.2.2⟩
     ·have := HBK.out.2.1
      exact this
     ·have := HBK.out.2.2.1
      rw [hjl.out, List.take_of_length_le (by simp)] at this
      exact this
end Go.Proofs.YtghmajlfmoggfaaGreat
