import Derived.Deep.Strs
import Derived.ChangeArms
import Derived.Test.YtghmajlfmoggfaaGreatMS5
import Derived.Test.YtghmajlfmoggfaaGreatMS4
import Derived.Test.YtghmajlfmoggfaaGreatMH
import Derived.Test.YtghmajlfmoggfaaGreatMG7
import Derived.Test.YtghmajlfmoggfaaGreatMK2
import Derived.Test.YtghmajlfmoggfaaGreatMJ17
import Derived.Test.YtghmajlfmoggfaaGreatMS14
import Derived.Test.YtghmajlfmoggfaaGreatMS13
import Derived.Test.YtghmajlfmoggfaaGreatMA
set_option linter.unusedSimpArgs false
set_option linter.unusedVariables false
namespace Go.Proofs.YtghmajlfmoggfaaGreat
open Go.RowKit Go.Proofs.YtghmajlfmoggfaaGreatW.PrintWords Go.Proofs.YtghmajlfmoggfaaGreatW.PrintLast PFnMerge
theorem fits_at (l : List ByteArray) (hl : l.length ≤ 2147483647) : ∀ (m j : Nat), j + m = l.length → ∃ k r, laws_zzFits2.l0 k l (l.length : Int) (j : Int) = some r := by
 intro m
 induction m with
 | zero =>
  intro j hj
  exact ⟨1, true, by rw [laws_zzFits2.l0, if_neg (by omega)]⟩
 | succ m ih =>
  intro j hj
  obtain ⟨k, r, hk⟩ := ih (j + 1) (by omega)
  have hw : wrap64 ((j : Int) + 1) = ((j + 1 : Nat) : Int) := by unfold wrap64; omega
  by_cases h : ((rdOf ByteArray.empty l (j : Int)).size : Int) > 2147483647
  ·exact ⟨1, false, by rw [laws_zzFits2.l0, if_pos (by omega), if_pos (by omega), if_pos (by omega), if_pos h]⟩
  ·exact ⟨k + 1, r, by rw [laws_zzFits2.l0, if_pos (by omega), if_pos (by omega), if_pos (by omega), if_neg h, hw]; exact hk⟩
theorem fits2_some (l : List ByteArray) : ∃ k r, laws_zzFits2.f k l = some r := by
 by_cases h : (l.length : Int) > 2147483647
 ·exact ⟨1, false, by rw [laws_zzFits2.f, if_pos h]⟩
 ·obtain ⟨k, r, hk⟩ := fits_at l (by omega) l.length 0 (by omega)
  exact ⟨k, r, by rw [laws_zzFits2.f, if_neg h]; exact hk⟩
theorem fits1_some (x : S25) : ∃ k r, laws_zzFits1.f k x.f0 x.f1 x.f2 x.f3 x.f4 = some r := by
 by_cases h1 : (x.f1.size : Int) > 2147483647
 ·exact ⟨1, false, by rw [laws_zzFits1.f, if_pos h1]⟩
 by_cases h2 : (x.f2.size : Int) > 2147483647
 ·exact ⟨1, false, by rw [laws_zzFits1.f, if_neg h1, if_pos h2]⟩
 obtain ⟨k, r, hk⟩ := fits2_some x.f3
 cases r with
 | false => exact ⟨k, false, by rw [laws_zzFits1.f, if_neg h1, if_neg h2, hk]; rfl⟩
 | true =>
  by_cases h4 : (x.f4.length : Int) > 2147483647
  ·exact ⟨k, false, by rw [laws_zzFits1.f, if_neg h1, if_neg h2, hk]; simp only [Option.bind_some, if_true]; rw [if_pos h4]⟩
  ·exact ⟨k, true, by rw [laws_zzFits1.f, if_neg h1, if_neg h2, hk]; simp only [Option.bind_some, if_true]; rw [if_neg h4]⟩
theorem fits7 (w : World) (x : S25) (A3 A4 : Option Addr) (c3 c4 : Nat) (h : NdR w x A3 c3 A4 c4) : ∃ r, Calls Tryz.prog 7 #[ndV x A3 c3 A4 c4] w fun e w' => e = .returned (.bool r) ∧ Below w.heap.size w w' := by
 obtain ⟨k, r, hk⟩ := fits1_some x
 exact ⟨r, laws_zzFits1.calls k x.f0 x.f1 x.f2 A3 c3 x.f3 A4 c4 x.f4 r w h.keys h.kcap h.items h.icap hk⟩
structure LB (w : World) (cx cy : Array Value) (W : World) : Prop where
 below : Below w.heap.size w W
 bx : W.heap[w.heap.size]? = some (.cells cx 25 (0, 0))
 by_ : W.heap[w.heap.size + 1]? = some (.cells cy 25 (0, 0))
theorem LB.under {w : World} {cx cy : Array Value} {W W' : World} (h : LB w cx cy W) (hb : Below W.heap.size W W') : LB w cx cy W' :=
 ⟨h.below.trans (hb.mono h.below.size), (hb.block _ (lt_of_block h.bx)).trans h.bx, (hb.block _ (lt_of_block h.by_)).trans h.by_⟩
theorem reads_two {x y : S25} {A3 A4 B3 B4 : Option Addr} {c3 c4 d3 d4 lb : Nat} {W : World} (h : W.heap[lb]? = some (.cells #[.int .i64 x.f0, .string x.f1, .string x.f2, .slice A3 x.f3.length c3, .slice A4 x.f4.length c4, .int .i64 y.f0, .string y.f1, .string y.f2, .slice B3 y.f3.length d3, .slice B4 y.f4.length d4] 25 (0, 0))) (hx : NdR W x A3 c3 A4 c4) (hy : NdR W y B3 d3 B4 d4) : Kd.C k25 W (some ⟨lb, 0, none⟩) 2 [x, y] := by
 refine ⟨rfl, by omega, fun _ => ⟨⟨lb, 0, none⟩, rfl, fun j p hj => ?_⟩⟩
 match j, hj with
 | 0, hj =>
  simp only [List.getElem?_cons_zero, Option.some.injEq] at hj
  subst hj
  refine ⟨_, rfl, k25_mk W x hx.kcap hx.keys hx.icap hx.items, fun i u hu => ?_⟩
  rw [add_at, Nat.zero_add]
  simp only [Nat.zero_mul, Nat.zero_add]
  rw [blk_cell h i]
  match i, hu with
  | 0, hu => exact hu
  | 1, hu => exact hu
  | 2, hu => exact hu
  | 3, hu => exact hu
  | 4, hu => exact hu
 | 1, hj =>
  simp only [List.getElem?_cons_succ, List.getElem?_cons_zero, Option.some.injEq] at hj
  subst hj
  refine ⟨_, rfl, k25_mk W y hy.kcap hy.keys hy.icap hy.items, fun i u hu => ?_⟩
  rw [add_at, Nat.zero_add]
  have es : k25.sz = 5 := rfl
  rw [es, blk_cell h (1 * 5 + i)]
  match i, hu with
  | 0, hu => exact hu
  | 1, hu => exact hu
  | 2, hu => exact hu
  | 3, hu => exact hu
  | 4, hu => exact hu
theorem alike_mpI (s t : ByteArray) : AlikeI false 6 (mpT s) (mpT t) := by
 refine ⟨rfl, fun _ key a b ha hb => ?_, fun h => by cases h⟩
 have h1 : (key, a) ∈ [(kA, wdT s)] := ha
 have h2 : (key, b) ∈ [(kA, wdT t)] := hb
 simp only [List.mem_singleton, Prod.mk.injEq] at h1 h2
 obtain ⟨_, rfl⟩ := h1
 obtain ⟨_, rfl⟩ := h2
 exact ⟨rfl, fun h => by simp at h, fun h => by simp at h⟩
theorem merged_mpI {s t : ByteArray} {m : S25} (h : MRelI false 6 (mpT s) (mpT t) m) : m.f4 = [wdT t] := by
 rcases h with ⟨h, _⟩ | ⟨_, _, _, _, h1, h2, h3, h4⟩ | ⟨h, _⟩
 ·exact absurd rfl h
 rotate_left
 ·cases h
 have hk : ∀ k ∈ m.f3, k = kA := fun k hk => by
  rcases (h3 k).1 hk with h | h
  ·exact List.mem_singleton.1 h
  ·exact List.mem_singleton.1 h
 have hm : kA ∈ m.f3 := (h3 kA).2 (.inl (by simp))
 have h5 : m.f3 = [kA] := by
  match hf : m.f3, hm, h2, hk with
  | [], hm, _, _ => cases hm
  | [a], _, _, hk => rw [hk a (by simp)]
  | a :: b :: l, _, h2, hk =>
   have e1 := hk a (by simp)
   have e2 := hk b (by simp)
   subst e1
   subst e2
   simp at h2
 rw [h5] at h1
 obtain ⟨v, hv⟩ : ∃ v, m.f4 = [v] := by
  match hf : m.f4, h1 with
  | [v], _ => exact ⟨v, rfl⟩
 have hf : fld m kA v := by unfold fld; rw [h5, hv]; simp
 rcases h4 kA v hf with ⟨a, b, ha, hb, hr⟩ | ⟨_, hn⟩ | ⟨_, hn⟩
 ·have ha' : (kA, a) ∈ [(kA, wdT s)] := ha
  have hb' : (kA, b) ∈ [(kA, wdT t)] := hb
  simp only [List.mem_singleton, Prod.mk.injEq] at ha' hb'
  obtain ⟨_, rfl⟩ := ha'
  obtain ⟨_, rfl⟩ := hb'
  rcases hr with ⟨_, _, rfl⟩ | ⟨h, _⟩ | ⟨h, _⟩
  ·exact hv
  ·simp at h
  ·cases h
 ·exact absurd (by simp) hn
 ·exact absurd (by simp) hn
theorem merged_mp_size {s t : ByteArray} {m : S25} (h : MRelI false 6 (mpT s) (mpT t) m) : SzN 6 m := by
 have e := merged_mpI h
 refine ⟨by rw [e]; simp, fun z hz => ?_⟩
 rw [e, List.mem_singleton] at hz
 subst hz
 exact ⟨by simp, by simp⟩
set_option maxRecDepth 20000 in
set_option maxHeartbeats 4000000 in
theorem merges15o {R : S25 → Prop} (hz : ZzO false (mpT tB) (mpT tC) R) (hsz : ∀ m, R m → SzN 6 m) (hR : ∀ m, R m → m.f4 = [wdT tC]) (w : World) : Calls Tryz.prog 15 #[] w fun e w' => YesQ w e w' := by
 have HZZ := Lib.hid (And.intro hz (And.intro hsz hR))
 clear hz hsz hR
 go_enter Tryz.func15, Tryz.ntmps15
 go_wp2_with fail
 have hl0 := blk_new rfl (w := w) (.cells #[.string kA] 9)
 have hbl0 := below_alloc (Below.refl w.heap.size w) (.cells #[.string kA] 9)
 have H0 := Lib.hid (And.intro hl0 hbl0)
 clear hl0 hbl0
 refine (word33 tC _).mono ?_
 rintro e w1 ⟨rfl, hb1⟩
 have hl1 : (w1.alloc (.cells #[.int .i64 1, .string tC, .string sT, .slice none 0 0, .slice none 0 0] 25)).heap[w1.heap.size]? = some (.cells #[.int .i64 1, .string tC, .string sT, .slice none 0 0, .slice none 0 0] 25 (0, 0)) := blk_new rfl _
 have H1 := Lib.hid (And.intro hb1 hl1)
 clear hb1 hl1
 go_wp2_with fail
 refine (pair34 _).mono ?_
 rintro e w2 ⟨B3, d3, B4, d4, rfl, hby, hb2⟩
 have hba : Below w1.heap.size w1 (w1.alloc (.cells #[.int .i64 1, .string tC, .string sT, .slice none 0 0, .slice none 0 0] 25)) := below_alloc (Below.refl _ _) _
 have hb12 : Below w1.heap.size w1 w2 := hba.trans (hb2.mono hba.size)
 have hbx : NdR w2 (mpT tC) (some ⟨w.heap.size, 0, none⟩) 1 (some ⟨w1.heap.size, 0, none⟩) 1 :=
  nd_mp ((hb12.block _ (Nat.lt_of_lt_of_le (lt_of_block H0.out.1) H1.out.1.size)).trans ((H1.out.1.block _ (lt_of_block H0.out.1)).trans H0.out.1)) ((hb2.block _ (lt_of_block H1.out.2)).trans H1.out.2)
 have hbw : Below w.heap.size w w2 := (H0.out.2.trans (H1.out.1.mono H0.out.2.size)).trans (hb12.mono (Nat.le_trans H0.out.2.size H1.out.1.size))
 have H2 := Lib.hid (And.intro hbx (And.intro hby hbw))
 clear hby hba hb12 hbx hbw hb2
 go_wp2_with fail
 refine (merge2_13o w2 (mpT tC) (mpT tB) (tree_mp 99 (by decide)).tak (tree_mp 98 (by decide)).tak HZZ.out.1 HZZ.out.2.1 (some ⟨w.heap.size, 0, none⟩) (some ⟨w1.heap.size, 0, none⟩) B3 B4 1 1 d3 d4 H2.out.1 H2.out.2.1).mono ?_
 rintro e w3 ⟨ym, M3, m3, M4, m4, rfl, hmr, hng, hb3⟩
 have hf4 := HZZ.out.2.2 ym hmr
 obtain ⟨y0, y1, y2, y3, y4⟩ := ym
 simp only at hf4
 subst hf4
 obtain ⟨ad, E3, e3, E4, e4, rfl, _, x1, _, _, _, _⟩ := nd_at hng.items 0 (wdT tC) (by simp) rfl
 have HB3 := Lib.hid hb3
 have x1' := ((below_alloc (Below.refl w3.heap.size w3) (.cells #[.int .i64 y0, .string y1, .string y2, .slice M3 y3.length m3, .slice (some ad) 1 m4] 25)).cell (World.block_lt_of_cell? w3 _ x1)).trans x1
 simp only [Nat.zero_mul] at x1'
 have x2 : (w3.alloc (.cells #[.int .i64 y0, .string y1, .string y2, .slice M3 y3.length m3, .slice (some ad) 1 m4] 25)).cell? ⟨ad.block, ad.off + 1, none⟩ = some (.string tC) := by simpa [Addr.add] using x1'
 clear hmr hng hb3 x1 x1'
 go_wp2_with fail
 exact bodyPost_ret (v := .bool true) (by simp [results, Tryz.results15, go_sem]) rfl ⟨rfl, below_alloc (H2.out.2.2.trans (HB3.out.mono H2.out.2.2.size)) _⟩
theorem merges15i (w : World) : Calls Tryz.prog 15 #[] w fun e w' => YesQ w e w' :=
 merges15o (R := fun m => MRelI false 6 (mpT tB) (mpT tC) m) (zz_infer false 6 (by omega) _ _ (clear_good (tree_mp 98 (by decide)) fun h => by cases h) (clear_good (tree_mp 99 (by decide)) fun h => by cases h) (alike_mpI _ _)) (fun m h => merged_mp_size h) (fun m h => merged_mpI h) w
theorem merge2_infer (w : World) (x y : S25) (hx : TreeB 6 x) (hy : TreeB 6 y) (hcx : ClearP 6 x) (hcy : ClearP 6 y) (hal : AlikeI true 6 y x) (A3 A4 B3 B4 : Option Addr) (c3 c4 d3 d4 : Nat) (hxr : NdR w x A3 c3 A4 c4) (hyr : NdR w y B3 d3 B4 d4) :
  Calls Tryz.prog 13 #[ndV x A3 c3 A4 c4, ndV y B3 d3 B4 d4, .bool true, .bool false] w fun e w' => M2R (fun m => MRelI true 6 y x m) w e w' :=
 merge2_13o (D := 6) w x y hx.tak hy.tak (zz_infer true 6 (by omega) y x (clear_good hy fun _ => hcy) (clear_good hx fun _ => hcx) hal) (fun m hm => mrelI_size hy.tree hx.tree hal hm) A3 A4 B3 B4 c3 c4 d3 d4 hxr hyr
set_option maxRecDepth 20000 in
set_option maxHeartbeats 8000000 in
theorem fnInfer3 (w : World) (x y : S25) (hbx : Bnd x) (hby : Bnd y) (A3 A4 B3 B4 : Option Addr) (c3 c4 d3 d4 : Nat) (hx : NdR w x A3 c3 A4 c4) (hy : NdR w y B3 d3 B4 d4) : Calls Tryz.prog 3 #[ndV x A3 c3 A4 c4, ndV y B3 d3 B4 d4] w fun e w' => YesQ w e w' := by
 have HL0 := Lib.hid (show LB w #[.int .i64 x.f0, .string x.f1, .string x.f2, .slice A3 x.f3.length c3, .slice A4 x.f4.length c4] #[.int .i64 y.f0, .string y.f1, .string y.f2, .slice B3 y.f3.length d3, .slice B4 y.f4.length d4] ((w.alloc (.cells #[.int .i64 x.f0, .string x.f1, .string x.f2, .slice A3 x.f3.length c3, .slice A4 x.f4.length c4] 25)).alloc (.cells #[.int .i64 y.f0, .string y.f1, .string y.f2, .slice B3 y.f3.length d3, .slice B4 y.f4.length d4] 25)) from ⟨below_alloc (below_alloc (Below.refl _ _) _) _, blk_old _ (blk_new rfl _), blk_new (by simp) _⟩)
 have H := Lib.hid (And.intro hbx (And.intro hby (And.intro hx hy)))
 clear hbx hby hx hy
 go_enter Tryz.func3, Tryz.ntmps3
 go_wp2_with fail
 obtain ⟨r1, hc1⟩ := fits7 _ x A3 A4 c3 c4 (H.out.2.2.1.below HL0.out.below)
 refine hc1.mono ?_
 clear hc1
 rintro e w1 ⟨rfl, hb⟩
 have HL1 := Lib.hid (HL0.out.under hb)
 clear hb
 obtain ⟨x0, x1, x2, x3, x4⟩ := cl5 HL1.out.bx
 obtain ⟨y0, y1, y2, y3, y4⟩ := cl5 HL1.out.by_
 cases r1 with
 | false =>
  go_wp2_with fail
  exact bodyPost_ret (v := .bool true) (by simp [results, Tryz.results3, go_sem]) rfl ⟨rfl, HL1.out.below⟩
 | true =>
  go_wp2_with fail
  clear x0 x1 x2 x3 x4 y0 y1 y2 y3 y4
  obtain ⟨r2, hc2⟩ := fits7 w1 y B3 B4 d3 d4 (H.out.2.2.2.below HL1.out.below)
  refine hc2.mono ?_
  clear hc2
  rintro e w2 ⟨rfl, hb⟩
  have HL2 := Lib.hid (HL1.out.under hb)
  clear hb
  obtain ⟨x0, x1, x2, x3, x4⟩ := cl5 HL2.out.bx
  obtain ⟨y0, y1, y2, y3, y4⟩ := cl5 HL2.out.by_
  cases r2 with
  | false =>
   go_wp2_with fail
   exact bodyPost_ret (v := .bool true) (by simp [results, Tryz.results3, go_sem]) rfl ⟨rfl, HL2.out.below⟩
  | true =>
   go_wp2_with fail
   clear x0 x1 x2 x3 x4 y0 y1 y2 y3 y4
   refine (isMap8 w2 x A3 A4 c3 c4 (H.out.2.2.1.below HL2.out.below) H.out.1).mono ?_
   rintro e w3 ⟨b3, rfl, ht3, hb⟩
   have HL3 := Lib.hid (HL2.out.under hb)
   have HT3 := Lib.hid ht3
   clear hb ht3
   obtain ⟨x0, x1, x2, x3, x4⟩ := cl5 HL3.out.bx
   obtain ⟨y0, y1, y2, y3, y4⟩ := cl5 HL3.out.by_
   cases b3 with
   | false =>
    go_wp2_with fail
    exact bodyPost_ret (v := .bool true) (by simp [results, Tryz.results3, go_sem]) rfl ⟨rfl, HL3.out.below⟩
   | true =>
    have HTX := Lib.hid (HT3.out rfl)
    go_wp2_with fail
    clear x0 x1 x2 x3 x4 y0 y1 y2 y3 y4
    refine (isMap8 w3 y B3 B4 d3 d4 (H.out.2.2.2.below HL3.out.below) H.out.2.1).mono ?_
    rintro e w4 ⟨b4, rfl, ht4, hb⟩
    have HL4 := Lib.hid (HL3.out.under hb)
    have HT4 := Lib.hid ht4
    clear hb ht4
    obtain ⟨x0, x1, x2, x3, x4⟩ := cl5 HL4.out.bx
    obtain ⟨y0, y1, y2, y3, y4⟩ := cl5 HL4.out.by_
    cases b4 with
    | false =>
     go_wp2_with fail
     exact bodyPost_ret (v := .bool true) (by simp [results, Tryz.results3, go_sem]) rfl ⟨rfl, HL4.out.below⟩
    | true =>
     have HTY := Lib.hid (HT4.out rfl)
     go_wp2_with fail
     clear x0 x1 x2 x3 x4 y0 y1 y2 y3 y4
     refine (areClear9 6 x HTX.out.2 w4 A3 A4 c3 c4 (H.out.2.2.1.below HL4.out.below)).mono ?_
     rintro e w41 ⟨b41, rfl, hcl, hb⟩
     have HL41 := Lib.hid (HL4.out.under hb)
     have HQ41 := Lib.hid hcl
     clear hb hcl
     obtain ⟨x0, x1, x2, x3, x4⟩ := cl5 HL41.out.bx
     obtain ⟨y0, y1, y2, y3, y4⟩ := cl5 HL41.out.by_
     cases b41 with
     | false =>
      go_wp2_with fail
      exact bodyPost_ret (v := .bool true) (by simp [results, Tryz.results3, go_sem]) rfl ⟨rfl, HL41.out.below⟩
     | true =>
      have HKX := Lib.hid (HQ41.out rfl)
      go_wp2_with fail
      clear x0 x1 x2 x3 x4 y0 y1 y2 y3 y4
      refine (areClear9 6 y HTY.out.2 w41 B3 B4 d3 d4 (H.out.2.2.2.below HL41.out.below)).mono ?_
      rintro e w42 ⟨b42, rfl, hcl, hb⟩
      have HL42 := Lib.hid (HL41.out.under hb)
      have HQ42 := Lib.hid hcl
      clear hb hcl
      obtain ⟨x0, x1, x2, x3, x4⟩ := cl5 HL42.out.bx
      obtain ⟨y0, y1, y2, y3, y4⟩ := cl5 HL42.out.by_
      cases b42 with
      | false =>
       go_wp2_with fail
       exact bodyPost_ret (v := .bool true) (by simp [results, Tryz.results3, go_sem]) rfl ⟨rfl, HL42.out.below⟩
      | true =>
       have HKY := Lib.hid (HQ42.out rfl)
       go_wp2_with fail
       clear x0 x1 x2 x3 x4 y0 y1 y2 y3 y4
       have hlit := blk_new rfl (w := w42) (.cells #[.int .i64 x.f0, .string x.f1, .string x.f2, .slice A3 x.f3.length c3, .slice A4 x.f4.length c4, .int .i64 y.f0, .string y.f1, .string y.f2, .slice B3 y.f3.length d3, .slice B4 y.f4.length d4] 25)
       have HL5 := Lib.hid (HL42.out.under (below_alloc (Below.refl _ _) (.cells #[.int .i64 x.f0, .string x.f1, .string x.f2, .slice A3 x.f3.length c3, .slice A4 x.f4.length c4, .int .i64 y.f0, .string y.f1, .string y.f2, .slice B3 y.f3.length d3, .slice B4 y.f4.length d4] 25)))
       have HLIT := Lib.hid hlit
       clear hlit
       refine (areAlike10m 6 x y HTX.out.2 HTY.out.2 _ (some ⟨w42.heap.size, 0, none⟩) 2 (reads_two HLIT.out (H.out.2.2.1.below HL5.out.below) (H.out.2.2.2.below HL5.out.below)) (by omega)).mono ?_
       rintro e w6 ⟨b6, rfl, hal, hb⟩
       have HL6 := Lib.hid (HL5.out.under hb)
       have HA6 := Lib.hid hal
       clear hb hal
       obtain ⟨x0, x1, x2, x3, x4⟩ := cl5 HL6.out.bx
       obtain ⟨y0, y1, y2, y3, y4⟩ := cl5 HL6.out.by_
       cases b6 with
       | false =>
        go_wp2_with fail
        exact bodyPost_ret (v := .bool true) (by simp [results, Tryz.results3, go_sem]) rfl ⟨rfl, HL6.out.below⟩
       | true =>
        have HAL := Lib.hid (HA6.out rfl)
        have HAI := Lib.hid (alikeI_of HTY.out.2 HTX.out.2 HKY.out HKX.out HAL.out)
        go_wp2_with fail
        clear x0 x1 x2 x3 x4 y0 y1 y2 y3 y4
        refine (merged12i 6 (fun k => k < w6.heap.size) x y HTX.out.2 HTY.out.2 ⟨HAL.out, HKX.out, HKY.out⟩ H.out.1 H.out.2.1 w6 A3 A4 B3 B4 c3 c4 d3 d4 ((H.out.2.2.1.below HL6.out.below).frame.g) ((H.out.2.2.2.below HL6.out.below).frame.g)).mono ?_
        rintro e w7 ⟨m7, M3, m3, M4, m4, rfl, _, hbm, hng, hb⟩
        have HL7 := Lib.hid (HL6.out.under hb)
        have HM7 := Lib.hid (And.intro hbm hng.now)
        clear hb hbm hng
        go_wp2_with fail
        refine (isTree11 w7 m7 M3 M4 m3 m4 HM7.out.2 HM7.out.1).mono ?_
        rintro e w8 ⟨b8, rfl, _, hb⟩
        have HL8 := Lib.hid (HL7.out.under hb)
        clear hb
        obtain ⟨x0, x1, x2, x3, x4⟩ := cl5 HL8.out.bx
        obtain ⟨y0, y1, y2, y3, y4⟩ := cl5 HL8.out.by_
        cases b8 with
        | false =>
         go_wp2_with fail
         exact bodyPost_ret (v := .bool true) (by simp [results, Tryz.results3, go_sem]) rfl ⟨rfl, HL8.out.below⟩
        | true =>
         go_wp2_with fail
         clear x0 x1 x2 x3 x4 y0 y1 y2 y3 y4
         refine (merge2_infer w8 x y HTX.out.2 HTY.out.2 HKX.out HKY.out HAI.out A3 A4 B3 B4 c3 c4 d3 d4 (H.out.2.2.1.below HL8.out.below) (H.out.2.2.2.below HL8.out.below)).mono ?_
         rintro e w9 ⟨ym, G3, g3, G4, g4, rfl, hmr, hng, hb⟩
         have HL9 := Lib.hid (HL8.out.under hb)
         have HY := Lib.hid (And.intro hmr hng)
         clear hb hmr hng
         go_wp2_with fail
         obtain ⟨W, hW⟩ : ∃ W, W = w9.alloc (.cells #[.int .i64 ym.f0, .string ym.f1, .string ym.f2, .slice G3 ym.f3.length g3, .slice G4 ym.f4.length g4] 25) := ⟨_, rfl⟩
         obtain ⟨gb, hgb⟩ : ∃ gb, gb = w9.heap.size := ⟨_, rfl⟩
         have HL10 := Lib.hid (show LB w #[.int .i64 x.f0, .string x.f1, .string x.f2, .slice A3 x.f3.length c3, .slice A4 x.f4.length c4] #[.int .i64 y.f0, .string y.f1, .string y.f2, .slice B3 y.f3.length d3, .slice B4 y.f4.length d4] W ∧ W.heap[gb]? = some (.cells #[.int .i64 ym.f0, .string ym.f1, .string ym.f2, .slice G3 ym.f3.length g3, .slice G4 ym.f4.length g4] 25 (0, 0)) ∧ NdR W ym G3 g3 G4 g4 from hW ▸ ⟨HL9.out.under (below_alloc (Below.refl _ _) _), hgb ▸ blk_new rfl _, HY.out.2.below (below_alloc (Below.refl _ _) _)⟩)
         rw [← hW, ← hgb]
         clear hW hgb
         have HLW := Lib.hid HL10.out.1
         obtain ⟨x0, x1, x2, x3, x4⟩ := cl5 HLW.out.bx
         obtain ⟨y0, y1, y2, y3, y4⟩ := cl5 HLW.out.by_
         obtain ⟨s0, s1, s2, s3, s4⟩ := cl5 HL10.out.2.1
         clear HL0 HL1 HL2 HL3 HL4 HL41 HL42 HL5 HL6 HL7 HL8 HL9
         refine start_ (n := 12) (S := fun w' => w'.cell? ⟨gb, 0, none⟩ = some (.int .i64 ym.f0) ∧ w'.cell? ⟨gb, 1, none⟩ = some (.string ym.f1) ∧ w'.cell? ⟨gb, 2, none⟩ = some (.string ym.f2) ∧ w'.cell? ⟨gb, 3, none⟩ = some (.slice G3 ym.f3.length g3) ∧ w'.cell? ⟨gb, 4, none⟩ = some (.slice G4 ym.f4.length g4) ∧ w'.cell? ⟨w.heap.size, 0, none⟩ = some (.int .i64 x.f0) ∧ w'.cell? ⟨w.heap.size, 1, none⟩ = some (.string x.f1) ∧ w'.cell? ⟨w.heap.size, 2, none⟩ = some (.string x.f2) ∧ w'.cell? ⟨w.heap.size, 3, none⟩ = some (.slice A3 x.f3.length c3) ∧ w'.cell? ⟨w.heap.size, 4, none⟩ = some (.slice A4 x.f4.length c4) ∧ w'.cell? ⟨w.heap.size + 1, 0, none⟩ = some (.int .i64 y.f0) ∧ w'.cell? ⟨w.heap.size + 1, 1, none⟩ = some (.string y.f1) ∧ w'.cell? ⟨w.heap.size + 1, 2, none⟩ = some (.string y.f2) ∧ w'.cell? ⟨w.heap.size + 1, 3, none⟩ = some (.slice B3 y.f3.length d3) ∧ w'.cell? ⟨w.heap.size + 1, 4, none⟩ = some (.slice B4 y.f4.length d4)) (ds := []) #[false, false, false, false, false, false, false, false, false, false, false, false] (by kernel_rfl) rfl rfl ⟨s0, s1, s2, s3, s4, x0, x1, x2, x3, x4, y0, y1, y2, y3, y4⟩ (fun hHeld => ?_)
         refine pu 0 (some 53) (bl 12 1) ?_
         refine pu 1 (some 54) (bl 12 3) ?_
         refine tk 2 (some 55) (bl 12 7) hHeld ?_
         refine tk 3 (some 56) (bl 12 15) hHeld ?_
         refine tk 4 (some 57) (bl 12 31) hHeld ?_
         refine on_ 5 (some 58) (bl 12 63) fun K hK => ?_
         refine gs_ Tryz.func12 #[ndV x A3 c3 A4 c4, ndV y B3 d3 B4 d4, .bool true] ?_
         have hbw := (HLW.out.below).trans ((below_drew (Below.refl W.heap.size W)).mono HLW.out.below.size)
         refine (merged12i 6 (fun k => k < W.drew.heap.size) x y HTX.out.2 HTY.out.2 ⟨HAL.out, HKX.out, HKY.out⟩ H.out.1 H.out.2.1 W.drew A3 A4 B3 B4 c3 c4 d3 d4 ((H.out.2.2.1.below hbw).frame.g) ((H.out.2.2.2.below hbw).frame.g)).mono ?_
         clear hbw
         rintro e wa ⟨m2, N3, n3, N4, n4, rfl, hmr2, _, hng2, hb⟩
         have HBA := Lib.hid (show Below W.heap.size W wa from (below_drew (Below.refl W.heap.size W)).trans hb)
         have HM2 := Lib.hid (And.intro hmr2 hng2.now)
         have HBX := Lib.hid hb
         clear hmr2 hng2 hb
         refine ⟨_, rfl, ?_⟩
         refine hK.out _ _ (he15 HBX.out hHeld) (fun hHeld => ?_)
         clear hK K
         refine nr (some 58) ?_
         refine on_ 6 (some 59) (bl 12 127) fun K hK => ?_
         refine gs_ Tryz.func14 #[ndV ym G3 g3 G4 g4, ndV m2 N3 n3 N4 n4, .bool true] ?_
         refine (same14 6 ym m2 (mrelI_same (TreeB.tree HTY.out.2) (TreeB.tree HTX.out.2) HAI.out HY.out.1 HM2.out.1) (mrelI_size (TreeB.tree HTY.out.2) (TreeB.tree HTX.out.2) HAI.out HY.out.1) wa G3 G4 N3 N4 g3 g4 n3 n4 (HL10.out.2.2.below HBA.out) HM2.out.2).mono ?_
         rintro e wb ⟨rfl, hb⟩
         have HBB := Lib.hid hb
         clear hb
         refine ⟨_, rfl, ?_⟩
         refine hK.out _ _ (he15 HBB.out hHeld) (fun hHeld => ?_)
         clear hK K
         refine nr (some 59) ?_
         refine pu 7 (some 60) (bl 12 255) ?_
         refine pu 8 (some 61) (bl 12 511) ?_
         refine on_ 9 (some 62) (bl 12 1023) fun K hK => ?_
         refine goes_ Tryz.func15 (by kernel_rfl) rfl #[] (by rfl) rfl rfl (by simp only [List.map_toArray, List.map_cons, List.map_nil]) ?_
         refine (merges15i wb).mono ?_
         rintro e wc ⟨rfl, hb⟩
         have HBC := Lib.hid hb
         have HLZ := Lib.hid (((HLW.out.under HBA.out).under HBB.out).under hb)
         clear hb
         refine ⟨_, rfl, ?_⟩
         refine hK.out _ _ (he15 HBC.out hHeld) (fun hHeld => ?_)
         clear hK K
         refine nr (some 62) ?_
         refine pu 10 (some 63) (bl 12 2047) ?_
         refine pu 11 (some 4) (bl 12 4095) ?_
         refine done_ (by kernel_rfl) ?_
         go_wp2_with fail
         exact bodyPost_ret (v := .bool true) (by simp [results, Tryz.results3, go_sem]) rfl ⟨rfl, HLZ.out.below⟩
end Go.Proofs.YtghmajlfmoggfaaGreat
namespace Go.Proofs.YtghmajlfmoggfaaGreat
open Go.ChangeShapes Go.WideShapes Go.Deep Go.RowKit Go.Proofs.YtghmajlfmoggfaaGreatW.PrintWords Go.Proofs.YtghmajlfmoggfaaGreatW.PrintLast PFnMerge
section
variable {H : Type} {enc : TypeId × Value → H} {w : World} {base : Nat} {spare : Nat → Bool} {held : Bool}
theorem cells_get {a : Addr} {n : Nat} {cs : List Value} (h : w.cells? base a n = some cs) : cs.length = n ∧ ∀ i, i < n → w.cell? (a.add i) = cs[i]? := by
 unfold World.cells? at h
 split at h
 ·refine ⟨by simpa using mapM_some_length h, fun i hi => ?_⟩
  exact mapM_some_get h i i (by simp [hi])
 ·cases h
theorem add_add' (a : Addr) (m n : Nat) : (a.add m).add n = a.add (m + n) := by
 by_cases h1 : m = 0
 ·subst h1; simp [Addr.add]
 ·by_cases h2 : n = 0
  ·subst h2; simp [Addr.add]
  ·simp [Addr.add, h1, h2, Nat.add_assoc]
theorem open_keys {fuel : Nat} {v : Value} {x : DataW H × List MemPlace} (h : DataW.trod enc Tryz.prog w base spare held fuel 22 [v] = some x) :
  ∃ (l : List ByteArray) (A : Option Addr) (c : Nat), v = .slice A l.length c ∧ l.length ≤ c ∧ Kd.C Kd.string w A l.length l ∧ ∀ k ∈ l, k.size ≤ 9223372036854775807 := by
 rcases open_strs Tryz.underlying22 Tryz.underlying9 (by kernel_rfl) h with ⟨hv, _⟩ | ⟨a, len, cap, m, Sx, hv, _, hl, hm, hmm, _, hx⟩
 ·injection hv with hv _
  subst hv
  exact ⟨[], none, 0, rfl, Nat.le_refl _, Kd.C_nil _ _, fun k hk => by cases hk⟩
 ·injection hv with hv _
  subst hv
  have hlm : len ≤ m := by rw [hmm]; split <;> omega
  have hmx : maxLen = 9223372036854775807 := rfl
  refine ⟨(List.range len).map Sx, some a, cap, by simp, by simpa using hl, ⟨rfl, by simp; omega, fun _ => ⟨a, rfl, fun j p hj => ?_⟩⟩, fun k hk => ?_⟩
  ·obtain ⟨hj1, rfl⟩ : j < len ∧ Sx j = p := by
    have hlt := (List.getElem?_eq_some_iff.1 hj).1
    simp only [List.length_map, List.length_range] at hlt
    rw [List.getElem?_map, List.getElem?_eq_getElem (by simpa using hlt)] at hj
    simp only [List.getElem_range, Option.map_some, Option.some.injEq] at hj
    exact ⟨hlt, hj⟩
   refine ⟨[.string (Sx j)], rfl, rfl, fun i u hu => ?_⟩
   match i, hu with
   | 0, hu =>
    simp only [List.getElem?_cons_zero, Option.some.injEq] at hu
    subst hu
    have := (hx j (by omega)).1
    have es : Kd.string.sz = 1 := rfl
    rw [es, Nat.mul_one, Nat.add_zero]
    exact this
  ·obtain ⟨j, hj, rfl⟩ := List.mem_map.1 hk
   have := (hx j (by have := List.mem_range.1 hj; omega)).2
   omega
theorem open_items {n : Nat} (ih : ∀ m, m < n → ∀ {cs : List Value} {x : DataW H × List MemPlace}, DataW.trod enc Tryz.prog w base spare held m 25 cs = some x → ∃ (y : S25) (A3 : Option Addr) (c3 : Nat) (A4 : Option Addr) (c4 : Nat), cs = [.int .i64 y.f0, .string y.f1, .string y.f2, .slice A3 y.f3.length c3, .slice A4 y.f4.length c4] ∧ NdR w y A3 c3 A4 c4 ∧ Bnd y)
  {fuel : Nat} (hf : fuel ≤ n) {v : Value} {x : DataW H × List MemPlace} (h : DataW.trod enc Tryz.prog w base spare held fuel 23 [v] = some x) :
  ∃ (l : List S25) (A : Option Addr) (c : Nat), v = .slice A l.length c ∧ l.length ≤ c ∧ Kd.C k25 w A l.length l ∧ ∀ z ∈ l, Bnd z := by
 have hc5 : Tryz.prog.cellsOf 25 = 5 := by kernel_rfl
 rcases DataW.trod_slice Tryz.underlying23 h with ⟨hv, _⟩ | ⟨a, len, cap, elems, rest, m, hfm, hv, _, _, hl, hm, hlen, hel, _, _⟩
 ·injection hv with hv _
  subst hv
  exact ⟨[], none, 0, rfl, Nat.le_refl _, Kd.C_nil _ _, fun k hk => by cases hk⟩
 ·injection hv with hv _
  subst hv
  haveI : Inhabited S25 := ⟨z25⟩
  have each : ∀ i, i < len → ∃ y : S25, Bnd y ∧ ∃ (A3 : Option Addr) (c3 : Nat) (A4 : Option Addr) (c4 : Nat), NdR w y A3 c3 A4 c4 ∧ ∀ j, j < 5 → w.cell? (a.add (i * 5 + j)) = [Value.int .i64 y.f0, .string y.f1, .string y.f2, .slice A3 y.f3.length c3, .slice A4 y.f4.length c4][j]? := by
   intro i hi
   have hb := hel i hi
   rw [List.getElem?_eq_getElem (by omega), Option.bind_eq_some_iff, hc5] at hb
   obtain ⟨cs', h1, h2⟩ := hb
   obtain ⟨y, A3, c3, A4, c4, rfl, h3, h4⟩ := ih m (by omega) h2
   refine ⟨y, h4, A3, c3, A4, c4, h3, fun j hj => ?_⟩
   have := (cells_get h1).2 j hj
   rwa [add_add'] at this
  obtain ⟨Y, hY⟩ := choose_lt each
  have hmx : maxLen = 9223372036854775807 := rfl
  refine ⟨(List.range len).map Y, some a, cap, by simp, by simpa using hl, ⟨rfl, by simp; omega, fun _ => ⟨a, rfl, fun j p hj => ?_⟩⟩, fun k hk => ?_⟩
  ·obtain ⟨hj1, rfl⟩ : j < len ∧ Y j = p := by
    have hlt := (List.getElem?_eq_some_iff.1 hj).1
    simp only [List.length_map, List.length_range] at hlt
    rw [List.getElem?_map, List.getElem?_eq_getElem (by simpa using hlt)] at hj
    simp only [List.getElem_range, Option.map_some, Option.some.injEq] at hj
    exact ⟨hlt, hj⟩
   obtain ⟨_, A3, c3, A4, c4, h3, h4⟩ := hY j hj1
   refine ⟨[.int .i64 (Y j).f0, .string (Y j).f1, .string (Y j).f2, .slice A3 (Y j).f3.length c3, .slice A4 (Y j).f4.length c4], rfl, k25_mk w (Y j) h3.kcap h3.keys h3.icap h3.items, fun i u hu => ?_⟩
   have es : k25.sz = 5 := rfl
   rw [es, h4 i (by have := (List.getElem?_eq_some_iff.1 hu).1; simpa using this)]
   exact hu
  ·obtain ⟨j, hj, rfl⟩ := List.mem_map.1 hk
   exact (hY j (by simpa using hj)).1
set_option maxRecDepth 20000 in
theorem open25 : ∀ (n : Nat) {cs : List Value} {x : DataW H × List MemPlace}, DataW.trod enc Tryz.prog w base spare held n 25 cs = some x → ∃ (y : S25) (A3 : Option Addr) (c3 : Nat) (A4 : Option Addr) (c4 : Nat), cs = [.int .i64 y.f0, .string y.f1, .string y.f2, .slice A3 y.f3.length c3, .slice A4 y.f4.length c4] ∧ NdR w y A3 c3 A4 c4 ∧ Bnd y := by
 intro n
 induction n using Nat.strongRecOn with
 | _ n ih =>
  intro cs x h
  have hc5 : Tryz.prog.cellsOf 25 = 5 := by kernel_rfl
  have e3 : Tryz.prog.cellsOf 3 = 1 := by kernel_rfl
  have e9 : Tryz.prog.cellsOf 9 = 1 := by kernel_rfl
  have e22 : Tryz.prog.cellsOf 22 = 1 := by kernel_rfl
  have e23 : Tryz.prog.cellsOf 23 = 1 := by kernel_rfl
  obtain ⟨xs, m, hnm, _, hl, hlen, hf⟩ := DataW.trod_struct Tryz.underlying25 h
  rw [hc5] at hl
  have hlen5 : xs.length = 5 := hlen
  match xs, hlen5 with
  | [x0, x1, x2, x3, x4], _ =>
   match cs, hl with
   | [v0, v1, v2, v3, v4], _ =>
    have h0 : DataW.trod enc Tryz.prog w base spare held m 3 [v0] = some x0 := by have := (show DataW.trod enc Tryz.prog w base spare held m 3 (([v0, v1, v2, v3, v4].drop 0).take (Tryz.prog.cellsOf 3)) = some x0 from hf 0 _ rfl); rw [e3] at this; exact this
    have h1 : DataW.trod enc Tryz.prog w base spare held m 9 [v1] = some x1 := by have := (show DataW.trod enc Tryz.prog w base spare held m 9 (([v0, v1, v2, v3, v4].drop 1).take (Tryz.prog.cellsOf 9)) = some x1 from hf 1 _ rfl); rw [e9] at this; exact this
    have h2 : DataW.trod enc Tryz.prog w base spare held m 9 [v2] = some x2 := by have := (show DataW.trod enc Tryz.prog w base spare held m 9 (([v0, v1, v2, v3, v4].drop 2).take (Tryz.prog.cellsOf 9)) = some x2 from hf 2 _ rfl); rw [e9] at this; exact this
    have h3 : DataW.trod enc Tryz.prog w base spare held m 22 [v3] = some x3 := by have := (show DataW.trod enc Tryz.prog w base spare held m 22 (([v0, v1, v2, v3, v4].drop 3).take (Tryz.prog.cellsOf 22)) = some x3 from hf 3 _ rfl); rw [e22] at this; exact this
    have h4 : DataW.trod enc Tryz.prog w base spare held m 23 [v4] = some x4 := by have := (show DataW.trod enc Tryz.prog w base spare held m 23 (([v0, v1, v2, v3, v4].drop 4).take (Tryz.prog.cellsOf 23)) = some x4 from hf 4 _ rfl); rw [e23] at this; exact this
    obtain ⟨k, hk, _, _⟩ := DataW.trod_int Tryz.underlying3 h0
    obtain ⟨s1, hs1, _, hb1⟩ := DataW.trod_string Tryz.underlying9 h1
    obtain ⟨s2, hs2, _, hb2⟩ := DataW.trod_string Tryz.underlying9 h2
    obtain ⟨l3, A3, c3, rfl, g3, g3', g3''⟩ := open_keys h3
    obtain ⟨l4, A4, c4, rfl, g4, g4', g4''⟩ := open_items (n := n) (fun m hm => @ih m hm) (by omega) h4
    injection hk with hk _
    injection hs1 with hs1 _
    injection hs2 with hs2 _
    subst hk; subst hs1; subst hs2
    have hmx : maxLen = 9223372036854775807 := rfl
    exact ⟨⟨k, s1, s2, l3, l4⟩, A3, c3, A4, c4, rfl, ⟨g3', g3, g4', g4⟩, .mk _ (by show s1.size ≤ _; omega) (by show s2.size ≤ _; omega) g3'' g4''⟩
end
end Go.Proofs.YtghmajlfmoggfaaGreat
