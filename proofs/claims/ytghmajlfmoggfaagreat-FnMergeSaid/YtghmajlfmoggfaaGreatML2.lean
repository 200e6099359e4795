import Derived.Deep.Strs
import Derived.ChangeArms
import Derived.Test.YtghmajlfmoggfaaGreatMG7
import Derived.Test.YtghmajlfmoggfaaGreatMS6
import Derived.Test.YtghmajlfmoggfaaGreatMS8
import Derived.Test.YtghmajlfmoggfaaGreatMH
import Derived.Test.YtghmajlfmoggfaaGreatMA
set_option linter.unusedSimpArgs false
set_option linter.unusedVariables false
namespace Go.Proofs.YtghmajlfmoggfaaGreat
open Go.RowKit Go.Proofs.YtghmajlfmoggfaaGreatW.PrintWords Go.Proofs.YtghmajlfmoggfaaGreatW.PrintLast PFnMerge
theorem fits_at (l : List ByteArray) (hl : l.length ≤ 2147483647) : ∀ (m j : Nat), j + m = l.length → ∃ k r, laws_zzFits2.l0 k l (l.length : Int) (j : Int) = some r := by
  intro m
  induction m with
  | zero =>
    intro j hj
    exact ⟨1, true, by rw [laws_zzFits2.l0, if_neg (by omega)]⟩
  | succ m ih =>
    intro j hj
    obtain ⟨k, r, hk⟩ := ih (j + 1) (by omega)
    have hw : wrap64 ((j : Int) + 1) = ((j + 1 : Nat) : Int) := by unfold wrap64; omega
    by_cases h : ((rdOf ByteArray.empty l (j : Int)).size : Int) > 2147483647
    · exact ⟨1, false, by rw [laws_zzFits2.l0, if_pos (by omega), if_pos (by omega), if_pos (by omega), if_pos h]⟩
    · exact ⟨k + 1, r, by rw [laws_zzFits2.l0, if_pos (by omega), if_pos (by omega), if_pos (by omega), if_neg h, hw]; exact hk⟩
theorem fits2_some (l : List ByteArray) : ∃ k r, laws_zzFits2.f k l = some r := by
  by_cases h : (l.length : Int) > 2147483647
  · exact ⟨1, false, by rw [laws_zzFits2.f, if_pos h]⟩
  · obtain ⟨k, r, hk⟩ := fits_at l (by omega) l.length 0 (by omega)
    exact ⟨k, r, by rw [laws_zzFits2.f, if_neg h]; exact hk⟩
theorem fits1_some (x : S25) : ∃ k r, laws_zzFits1.f k x.f0 x.f1 x.f2 x.f3 x.f4 = some r := by
  by_cases h1 : (x.f1.size : Int) > 2147483647
  · exact ⟨1, false, by rw [laws_zzFits1.f, if_pos h1]⟩
  by_cases h2 : (x.f2.size : Int) > 2147483647
  · exact ⟨1, false, by rw [laws_zzFits1.f, if_neg h1, if_pos h2]⟩
  obtain ⟨k, r, hk⟩ := fits2_some x.f3
  cases r with
  | false => exact ⟨k, false, by rw [laws_zzFits1.f, if_neg h1, if_neg h2, hk]; rfl⟩
  | true =>
    by_cases h4 : (x.f4.length : Int) > 2147483647
    · exact ⟨k, false, by rw [laws_zzFits1.f, if_neg h1, if_neg h2, hk]; simp only [Option.bind_some, if_true]; rw [if_pos h4]⟩
    · exact ⟨k, true, by rw [laws_zzFits1.f, if_neg h1, if_neg h2, hk]; simp only [Option.bind_some, if_true]; rw [if_neg h4]⟩
theorem fits7 (w : World) (x : S25) (A3 A4 : Option Addr) (c3 c4 : Nat) (h : NdR w x A3 c3 A4 c4) : ∃ r, Calls Tryz.prog 7 #[ndV x A3 c3 A4 c4] w fun e w' => e = .returned (.bool r) ∧ Below w.heap.size w w' := by
  obtain ⟨k, r, hk⟩ := fits1_some x
  exact ⟨r, laws_zzFits1.calls k x.f0 x.f1 x.f2 A3 c3 x.f3 A4 c4 x.f4 r w h.keys h.kcap h.items h.icap hk⟩
structure LB (w : World) (cx cy : Array Value) (W : World) : Prop where
  below : Below w.heap.size w W
  bx : W.heap[w.heap.size]? = some (.cells cx 25 (0, 0))
  by_ : W.heap[w.heap.size + 1]? = some (.cells cy 25 (0, 0))
theorem LB.under {w : World} {cx cy : Array Value} {W W' : World} (h : LB w cx cy W) (hb : Below W.heap.size W W') : LB w cx cy W' :=
  ⟨h.below.trans (hb.mono h.below.size), (hb.block _ (lt_of_block h.bx)).trans h.bx, (hb.block _ (lt_of_block h.by_)).trans h.by_⟩
theorem reads_two {x y : S25} {A3 A4 B3 B4 : Option Addr} {c3 c4 d3 d4 lb : Nat} {W : World} (h : W.heap[lb]? = some (.cells #[.int .i64 x.f0, .string x.f1, .string x.f2, .slice A3 x.f3.length c3, .slice A4 x.f4.length c4, .int .i64 y.f0, .string y.f1, .string y.f2, .slice B3 y.f3.length d3, .slice B4 y.f4.length d4] 25 (0, 0))) (hx : NdR W x A3 c3 A4 c4) (hy : NdR W y B3 d3 B4 d4) : Kd.C k25 W (some ⟨lb, 0, none⟩) 2 [x, y] := by
  refine ⟨rfl, by omega, fun _ => ⟨⟨lb, 0, none⟩, rfl, fun j p hj => ?_⟩⟩
  match j, hj with
  | 0, hj =>
    simp only [List.getElem?_cons_zero, Option.some.injEq] at hj
    subst hj
    refine ⟨_, rfl, k25_mk W x hx.kcap hx.keys hx.icap hx.items, fun i u hu => ?_⟩
    rw [add_at, Nat.zero_add]
    simp only [Nat.zero_mul, Nat.zero_add]
    rw [blk_cell h i]
    match i, hu with
    | 0, hu => exact hu
    | 1, hu => exact hu
    | 2, hu => exact hu
    | 3, hu => exact hu
    | 4, hu => exact hu
  | 1, hj =>
    simp only [List.getElem?_cons_succ, List.getElem?_cons_zero, Option.some.injEq] at hj
    subst hj
    refine ⟨_, rfl, k25_mk W y hy.kcap hy.keys hy.icap hy.items, fun i u hu => ?_⟩
    rw [add_at, Nat.zero_add]
    have es : k25.sz = 5 := rfl
    rw [es, blk_cell h (1 * 5 + i)]
    match i, hu with
    | 0, hu => exact hu
    | 1, hu => exact hu
    | 2, hu => exact hu
    | 3, hu => exact hu
    | 4, hu => exact hu
set_option maxRecDepth 20000 in
set_option maxHeartbeats 8000000 in
theorem fnMerge5 (w : World) (x y : S25) (hbx : Bnd x) (hby : Bnd y) (A3 A4 B3 B4 : Option Addr) (c3 c4 d3 d4 : Nat) (hx : NdR w x A3 c3 A4 c4) (hy : NdR w y B3 d3 B4 d4) (ahead : Bool) : Calls Tryz.prog 5 #[ndV x A3 c3 A4 c4, ndV y B3 d3 B4 d4, .bool ahead] w fun e w' => YesQ w e w' := by
  have HL0 := Lib.hid (show LB w #[.int .i64 x.f0, .string x.f1, .string x.f2, .slice A3 x.f3.length c3, .slice A4 x.f4.length c4] #[.int .i64 y.f0, .string y.f1, .string y.f2, .slice B3 y.f3.length d3, .slice B4 y.f4.length d4] ((w.alloc (.cells #[.int .i64 x.f0, .string x.f1, .string x.f2, .slice A3 x.f3.length c3, .slice A4 x.f4.length c4] 25)).alloc (.cells #[.int .i64 y.f0, .string y.f1, .string y.f2, .slice B3 y.f3.length d3, .slice B4 y.f4.length d4] 25)) from ⟨below_alloc (below_alloc (Below.refl _ _) _) _, blk_old _ (blk_new rfl _), blk_new (by simp) _⟩)
  have H := Lib.hid (And.intro hbx (And.intro hby (And.intro hx hy)))
  clear hbx hby hx hy
  go_enter Tryz.func5, Tryz.ntmps5
  go_wp2_with fail
  obtain ⟨r1, hc1⟩ := fits7 _ x A3 A4 c3 c4 (H.out.2.2.1.below HL0.out.below)
  refine hc1.mono ?_
  clear hc1
  rintro e w1 ⟨rfl, hb⟩
  have HL1 := Lib.hid (HL0.out.under hb)
  clear hb
  have x0 : w1.cell? ⟨w.heap.size, 0, none⟩ = some (.int .i64 x.f0) := (blk_cell HL1.out.bx 0).trans rfl
  have x1 : w1.cell? ⟨w.heap.size, 1, none⟩ = some (.string x.f1) := (blk_cell HL1.out.bx 1).trans rfl
  have x2 : w1.cell? ⟨w.heap.size, 2, none⟩ = some (.string x.f2) := (blk_cell HL1.out.bx 2).trans rfl
  have x3 : w1.cell? ⟨w.heap.size, 3, none⟩ = some (.slice A3 x.f3.length c3) := (blk_cell HL1.out.bx 3).trans rfl
  have x4 : w1.cell? ⟨w.heap.size, 4, none⟩ = some (.slice A4 x.f4.length c4) := (blk_cell HL1.out.bx 4).trans rfl
  have y0 : w1.cell? ⟨w.heap.size + 1, 0, none⟩ = some (.int .i64 y.f0) := (blk_cell HL1.out.by_ 0).trans rfl
  have y1 : w1.cell? ⟨w.heap.size + 1, 1, none⟩ = some (.string y.f1) := (blk_cell HL1.out.by_ 1).trans rfl
  have y2 : w1.cell? ⟨w.heap.size + 1, 2, none⟩ = some (.string y.f2) := (blk_cell HL1.out.by_ 2).trans rfl
  have y3 : w1.cell? ⟨w.heap.size + 1, 3, none⟩ = some (.slice B3 y.f3.length d3) := (blk_cell HL1.out.by_ 3).trans rfl
  have y4 : w1.cell? ⟨w.heap.size + 1, 4, none⟩ = some (.slice B4 y.f4.length d4) := (blk_cell HL1.out.by_ 4).trans rfl
  cases r1 with
  | false =>
    go_wp2_with fail
    exact bodyPost_ret (v := .bool true) (by simp [results, Tryz.results5, go_sem]) rfl ⟨rfl, HL1.out.below⟩
  | true =>
    go_wp2_with fail
    clear x0 x1 x2 x3 x4 y0 y1 y2 y3 y4
    obtain ⟨r2, hc2⟩ := fits7 w1 y B3 B4 d3 d4 (H.out.2.2.2.below HL1.out.below)
    refine hc2.mono ?_
    clear hc2
    rintro e w2 ⟨rfl, hb⟩
    have HL2 := Lib.hid (HL1.out.under hb)
    clear hb
    have x0 : w2.cell? ⟨w.heap.size, 0, none⟩ = some (.int .i64 x.f0) := (blk_cell HL2.out.bx 0).trans rfl
    have x1 : w2.cell? ⟨w.heap.size, 1, none⟩ = some (.string x.f1) := (blk_cell HL2.out.bx 1).trans rfl
    have x2 : w2.cell? ⟨w.heap.size, 2, none⟩ = some (.string x.f2) := (blk_cell HL2.out.bx 2).trans rfl
    have x3 : w2.cell? ⟨w.heap.size, 3, none⟩ = some (.slice A3 x.f3.length c3) := (blk_cell HL2.out.bx 3).trans rfl
    have x4 : w2.cell? ⟨w.heap.size, 4, none⟩ = some (.slice A4 x.f4.length c4) := (blk_cell HL2.out.bx 4).trans rfl
    have y0 : w2.cell? ⟨w.heap.size + 1, 0, none⟩ = some (.int .i64 y.f0) := (blk_cell HL2.out.by_ 0).trans rfl
    have y1 : w2.cell? ⟨w.heap.size + 1, 1, none⟩ = some (.string y.f1) := (blk_cell HL2.out.by_ 1).trans rfl
    have y2 : w2.cell? ⟨w.heap.size + 1, 2, none⟩ = some (.string y.f2) := (blk_cell HL2.out.by_ 2).trans rfl
    have y3 : w2.cell? ⟨w.heap.size + 1, 3, none⟩ = some (.slice B3 y.f3.length d3) := (blk_cell HL2.out.by_ 3).trans rfl
    have y4 : w2.cell? ⟨w.heap.size + 1, 4, none⟩ = some (.slice B4 y.f4.length d4) := (blk_cell HL2.out.by_ 4).trans rfl
    cases r2 with
    | false =>
      go_wp2_with fail
      exact bodyPost_ret (v := .bool true) (by simp [results, Tryz.results5, go_sem]) rfl ⟨rfl, HL2.out.below⟩
    | true =>
      go_wp2_with fail
      clear x0 x1 x2 x3 x4 y0 y1 y2 y3 y4
      refine (isMap8 w2 x A3 A4 c3 c4 (H.out.2.2.1.below HL2.out.below) H.out.1).mono ?_
      rintro e w3 ⟨b3, rfl, ht3, hb⟩
      have HL3 := Lib.hid (HL2.out.under hb)
      have HT3 := Lib.hid ht3
      clear hb ht3
      have x0 : w3.cell? ⟨w.heap.size, 0, none⟩ = some (.int .i64 x.f0) := (blk_cell HL3.out.bx 0).trans rfl
      have x1 : w3.cell? ⟨w.heap.size, 1, none⟩ = some (.string x.f1) := (blk_cell HL3.out.bx 1).trans rfl
      have x2 : w3.cell? ⟨w.heap.size, 2, none⟩ = some (.string x.f2) := (blk_cell HL3.out.bx 2).trans rfl
      have x3 : w3.cell? ⟨w.heap.size, 3, none⟩ = some (.slice A3 x.f3.length c3) := (blk_cell HL3.out.bx 3).trans rfl
      have x4 : w3.cell? ⟨w.heap.size, 4, none⟩ = some (.slice A4 x.f4.length c4) := (blk_cell HL3.out.bx 4).trans rfl
      have y0 : w3.cell? ⟨w.heap.size + 1, 0, none⟩ = some (.int .i64 y.f0) := (blk_cell HL3.out.by_ 0).trans rfl
      have y1 : w3.cell? ⟨w.heap.size + 1, 1, none⟩ = some (.string y.f1) := (blk_cell HL3.out.by_ 1).trans rfl
      have y2 : w3.cell? ⟨w.heap.size + 1, 2, none⟩ = some (.string y.f2) := (blk_cell HL3.out.by_ 2).trans rfl
      have y3 : w3.cell? ⟨w.heap.size + 1, 3, none⟩ = some (.slice B3 y.f3.length d3) := (blk_cell HL3.out.by_ 3).trans rfl
      have y4 : w3.cell? ⟨w.heap.size + 1, 4, none⟩ = some (.slice B4 y.f4.length d4) := (blk_cell HL3.out.by_ 4).trans rfl
      cases b3 with
      | false =>
        go_wp2_with fail
        exact bodyPost_ret (v := .bool true) (by simp [results, Tryz.results5, go_sem]) rfl ⟨rfl, HL3.out.below⟩
      | true =>
        have HTX := Lib.hid (HT3.out rfl)
        go_wp2_with fail
        clear x0 x1 x2 x3 x4 y0 y1 y2 y3 y4
        refine (isMap8 w3 y B3 B4 d3 d4 (H.out.2.2.2.below HL3.out.below) H.out.2.1).mono ?_
        rintro e w4 ⟨b4, rfl, ht4, hb⟩
        have HL4 := Lib.hid (HL3.out.under hb)
        have HT4 := Lib.hid ht4
        clear hb ht4
        have x0 : w4.cell? ⟨w.heap.size, 0, none⟩ = some (.int .i64 x.f0) := (blk_cell HL4.out.bx 0).trans rfl
        have x1 : w4.cell? ⟨w.heap.size, 1, none⟩ = some (.string x.f1) := (blk_cell HL4.out.bx 1).trans rfl
        have x2 : w4.cell? ⟨w.heap.size, 2, none⟩ = some (.string x.f2) := (blk_cell HL4.out.bx 2).trans rfl
        have x3 : w4.cell? ⟨w.heap.size, 3, none⟩ = some (.slice A3 x.f3.length c3) := (blk_cell HL4.out.bx 3).trans rfl
        have x4 : w4.cell? ⟨w.heap.size, 4, none⟩ = some (.slice A4 x.f4.length c4) := (blk_cell HL4.out.bx 4).trans rfl
        have y0 : w4.cell? ⟨w.heap.size + 1, 0, none⟩ = some (.int .i64 y.f0) := (blk_cell HL4.out.by_ 0).trans rfl
        have y1 : w4.cell? ⟨w.heap.size + 1, 1, none⟩ = some (.string y.f1) := (blk_cell HL4.out.by_ 1).trans rfl
        have y2 : w4.cell? ⟨w.heap.size + 1, 2, none⟩ = some (.string y.f2) := (blk_cell HL4.out.by_ 2).trans rfl
        have y3 : w4.cell? ⟨w.heap.size + 1, 3, none⟩ = some (.slice B3 y.f3.length d3) := (blk_cell HL4.out.by_ 3).trans rfl
        have y4 : w4.cell? ⟨w.heap.size + 1, 4, none⟩ = some (.slice B4 y.f4.length d4) := (blk_cell HL4.out.by_ 4).trans rfl
        cases b4 with
        | false =>
          go_wp2_with fail
          exact bodyPost_ret (v := .bool true) (by simp [results, Tryz.results5, go_sem]) rfl ⟨rfl, HL4.out.below⟩
        | true =>
          have HTY := Lib.hid (HT4.out rfl)
          go_wp2_with fail
          clear x0 x1 x2 x3 x4 y0 y1 y2 y3 y4
          have hlit := blk_new rfl (w := w4) (.cells #[.int .i64 x.f0, .string x.f1, .string x.f2, .slice A3 x.f3.length c3, .slice A4 x.f4.length c4, .int .i64 y.f0, .string y.f1, .string y.f2, .slice B3 y.f3.length d3, .slice B4 y.f4.length d4] 25)
          have HL5 := Lib.hid (HL4.out.under (below_alloc (Below.refl _ _) (.cells #[.int .i64 x.f0, .string x.f1, .string x.f2, .slice A3 x.f3.length c3, .slice A4 x.f4.length c4, .int .i64 y.f0, .string y.f1, .string y.f2, .slice B3 y.f3.length d3, .slice B4 y.f4.length d4] 25)))
          have HLIT := Lib.hid hlit
          clear hlit
          refine (areAlike10 6 x y HTX.out.2 HTY.out.2 _ (some ⟨w4.heap.size, 0, none⟩) 2 (reads_two HLIT.out (H.out.2.2.1.below HL5.out.below) (H.out.2.2.2.below HL5.out.below)) (by omega)).mono ?_
          rintro e w6 ⟨b6, rfl, hal, hb⟩
          have HL6 := Lib.hid (HL5.out.under hb)
          have HA6 := Lib.hid hal
          clear hb hal
          have x0 : w6.cell? ⟨w.heap.size, 0, none⟩ = some (.int .i64 x.f0) := (blk_cell HL6.out.bx 0).trans rfl
          have x1 : w6.cell? ⟨w.heap.size, 1, none⟩ = some (.string x.f1) := (blk_cell HL6.out.bx 1).trans rfl
          have x2 : w6.cell? ⟨w.heap.size, 2, none⟩ = some (.string x.f2) := (blk_cell HL6.out.bx 2).trans rfl
          have x3 : w6.cell? ⟨w.heap.size, 3, none⟩ = some (.slice A3 x.f3.length c3) := (blk_cell HL6.out.bx 3).trans rfl
          have x4 : w6.cell? ⟨w.heap.size, 4, none⟩ = some (.slice A4 x.f4.length c4) := (blk_cell HL6.out.bx 4).trans rfl
          have y0 : w6.cell? ⟨w.heap.size + 1, 0, none⟩ = some (.int .i64 y.f0) := (blk_cell HL6.out.by_ 0).trans rfl
          have y1 : w6.cell? ⟨w.heap.size + 1, 1, none⟩ = some (.string y.f1) := (blk_cell HL6.out.by_ 1).trans rfl
          have y2 : w6.cell? ⟨w.heap.size + 1, 2, none⟩ = some (.string y.f2) := (blk_cell HL6.out.by_ 2).trans rfl
          have y3 : w6.cell? ⟨w.heap.size + 1, 3, none⟩ = some (.slice B3 y.f3.length d3) := (blk_cell HL6.out.by_ 3).trans rfl
          have y4 : w6.cell? ⟨w.heap.size + 1, 4, none⟩ = some (.slice B4 y.f4.length d4) := (blk_cell HL6.out.by_ 4).trans rfl
          cases b6 with
          | false =>
            go_wp2_with fail
            exact bodyPost_ret (v := .bool true) (by simp [results, Tryz.results5, go_sem]) rfl ⟨rfl, HL6.out.below⟩
          | true =>
            have HAL := Lib.hid (HA6.out rfl)
            go_wp2_with fail
            clear x0 x1 x2 x3 x4 y0 y1 y2 y3 y4
            refine (merged12 6 (fun k => k < w6.heap.size) x y HTX.out.2 HTY.out.2 HAL.out H.out.1 H.out.2.1 w6 A3 A4 B3 B4 c3 c4 d3 d4 ((H.out.2.2.1.below HL6.out.below).frame.g) ((H.out.2.2.2.below HL6.out.below).frame.g)).mono ?_
            rintro e w7 ⟨m7, M3, m3, M4, m4, rfl, _, hbm, hng, hb⟩
            have HL7 := Lib.hid (HL6.out.under hb)
            have HM7 := Lib.hid (And.intro hbm hng.now)
            clear hb hbm hng
            go_wp2_with fail
            refine (isTree11 w7 m7 M3 M4 m3 m4 HM7.out.2 HM7.out.1).mono ?_
            rintro e w8 ⟨b8, rfl, _, hb⟩
            have HL8 := Lib.hid (HL7.out.under hb)
            clear hb
            have x0 : w8.cell? ⟨w.heap.size, 0, none⟩ = some (.int .i64 x.f0) := (blk_cell HL8.out.bx 0).trans rfl
            have x1 : w8.cell? ⟨w.heap.size, 1, none⟩ = some (.string x.f1) := (blk_cell HL8.out.bx 1).trans rfl
            have x2 : w8.cell? ⟨w.heap.size, 2, none⟩ = some (.string x.f2) := (blk_cell HL8.out.bx 2).trans rfl
            have x3 : w8.cell? ⟨w.heap.size, 3, none⟩ = some (.slice A3 x.f3.length c3) := (blk_cell HL8.out.bx 3).trans rfl
            have x4 : w8.cell? ⟨w.heap.size, 4, none⟩ = some (.slice A4 x.f4.length c4) := (blk_cell HL8.out.bx 4).trans rfl
            have y0 : w8.cell? ⟨w.heap.size + 1, 0, none⟩ = some (.int .i64 y.f0) := (blk_cell HL8.out.by_ 0).trans rfl
            have y1 : w8.cell? ⟨w.heap.size + 1, 1, none⟩ = some (.string y.f1) := (blk_cell HL8.out.by_ 1).trans rfl
            have y2 : w8.cell? ⟨w.heap.size + 1, 2, none⟩ = some (.string y.f2) := (blk_cell HL8.out.by_ 2).trans rfl
            have y3 : w8.cell? ⟨w.heap.size + 1, 3, none⟩ = some (.slice B3 y.f3.length d3) := (blk_cell HL8.out.by_ 3).trans rfl
            have y4 : w8.cell? ⟨w.heap.size + 1, 4, none⟩ = some (.slice B4 y.f4.length d4) := (blk_cell HL8.out.by_ 4).trans rfl
            cases b8 with
            | false =>
              go_wp2_with fail
              exact bodyPost_ret (v := .bool true) (by simp [results, Tryz.results5, go_sem]) rfl ⟨rfl, HL8.out.below⟩
            | true =>
              go_wp2_with fail
              clear x0 x1 x2 x3 x4 y0 y1 y2 y3 y4
              refine (merge2_13 w8 x y HTX.out.2 HTY.out.2 HAL.out A3 A4 B3 B4 c3 c4 d3 d4 (H.out.2.2.1.below HL8.out.below) (H.out.2.2.2.below HL8.out.below) ahead).mono ?_
              rintro e w9 ⟨ym, G3, g3, G4, g4, rfl, hmr, hng, hb⟩
              have HL9 := Lib.hid (HL8.out.under hb)
              have HY := Lib.hid (And.intro hmr hng)
              clear hb hmr hng
              go_wp2_with fail
              obtain ⟨W, hW⟩ : ∃ W, W = w9.alloc (.cells #[.int .i64 ym.f0, .string ym.f1, .string ym.f2, .slice G3 ym.f3.length g3, .slice G4 ym.f4.length g4] 25) := ⟨_, rfl⟩
              obtain ⟨gb, hgb⟩ : ∃ gb, gb = w9.heap.size := ⟨_, rfl⟩
              have HL10 := Lib.hid (show LB w #[.int .i64 x.f0, .string x.f1, .string x.f2, .slice A3 x.f3.length c3, .slice A4 x.f4.length c4] #[.int .i64 y.f0, .string y.f1, .string y.f2, .slice B3 y.f3.length d3, .slice B4 y.f4.length d4] W ∧ W.heap[gb]? = some (.cells #[.int .i64 ym.f0, .string ym.f1, .string ym.f2, .slice G3 ym.f3.length g3, .slice G4 ym.f4.length g4] 25 (0, 0)) ∧ NdR W ym G3 g3 G4 g4 from hW ▸ ⟨HL9.out.under (below_alloc (Below.refl _ _) _), hgb ▸ blk_new rfl _, HY.out.2.below (below_alloc (Below.refl _ _) _)⟩)
              rw [← hW, ← hgb]
              clear hW hgb
              have HLW := Lib.hid HL10.out.1
              have x0 : W.cell? ⟨w.heap.size, 0, none⟩ = some (.int .i64 x.f0) := (blk_cell HLW.out.bx 0).trans rfl
              have x1 : W.cell? ⟨w.heap.size, 1, none⟩ = some (.string x.f1) := (blk_cell HLW.out.bx 1).trans rfl
              have x2 : W.cell? ⟨w.heap.size, 2, none⟩ = some (.string x.f2) := (blk_cell HLW.out.bx 2).trans rfl
              have x3 : W.cell? ⟨w.heap.size, 3, none⟩ = some (.slice A3 x.f3.length c3) := (blk_cell HLW.out.bx 3).trans rfl
              have x4 : W.cell? ⟨w.heap.size, 4, none⟩ = some (.slice A4 x.f4.length c4) := (blk_cell HLW.out.bx 4).trans rfl
              have y0 : W.cell? ⟨w.heap.size + 1, 0, none⟩ = some (.int .i64 y.f0) := (blk_cell HLW.out.by_ 0).trans rfl
              have y1 : W.cell? ⟨w.heap.size + 1, 1, none⟩ = some (.string y.f1) := (blk_cell HLW.out.by_ 1).trans rfl
              have y2 : W.cell? ⟨w.heap.size + 1, 2, none⟩ = some (.string y.f2) := (blk_cell HLW.out.by_ 2).trans rfl
              have y3 : W.cell? ⟨w.heap.size + 1, 3, none⟩ = some (.slice B3 y.f3.length d3) := (blk_cell HLW.out.by_ 3).trans rfl
              have y4 : W.cell? ⟨w.heap.size + 1, 4, none⟩ = some (.slice B4 y.f4.length d4) := (blk_cell HLW.out.by_ 4).trans rfl
              have s0 : W.cell? ⟨gb, 0, none⟩ = some (.int .i64 ym.f0) := (blk_cell HL10.out.2.1 0).trans rfl
              have s1 : W.cell? ⟨gb, 1, none⟩ = some (.string ym.f1) := (blk_cell HL10.out.2.1 1).trans rfl
              have s2 : W.cell? ⟨gb, 2, none⟩ = some (.string ym.f2) := (blk_cell HL10.out.2.1 2).trans rfl
              have s3 : W.cell? ⟨gb, 3, none⟩ = some (.slice G3 ym.f3.length g3) := (blk_cell HL10.out.2.1 3).trans rfl
              have s4 : W.cell? ⟨gb, 4, none⟩ = some (.slice G4 ym.f4.length g4) := (blk_cell HL10.out.2.1 4).trans rfl
              clear HL0 HL1 HL2 HL3 HL4 HL5 HL6 HL7 HL8 HL9
              refine start_ (n := 12) (S := fun w' => w'.cell? ⟨gb, 0, none⟩ = some (.int .i64 ym.f0) ∧ w'.cell? ⟨gb, 1, none⟩ = some (.string ym.f1) ∧ w'.cell? ⟨gb, 2, none⟩ = some (.string ym.f2) ∧ w'.cell? ⟨gb, 3, none⟩ = some (.slice G3 ym.f3.length g3) ∧ w'.cell? ⟨gb, 4, none⟩ = some (.slice G4 ym.f4.length g4) ∧ w'.cell? ⟨w.heap.size, 0, none⟩ = some (.int .i64 x.f0) ∧ w'.cell? ⟨w.heap.size, 1, none⟩ = some (.string x.f1) ∧ w'.cell? ⟨w.heap.size, 2, none⟩ = some (.string x.f2) ∧ w'.cell? ⟨w.heap.size, 3, none⟩ = some (.slice A3 x.f3.length c3) ∧ w'.cell? ⟨w.heap.size, 4, none⟩ = some (.slice A4 x.f4.length c4) ∧ w'.cell? ⟨w.heap.size + 1, 0, none⟩ = some (.int .i64 y.f0) ∧ w'.cell? ⟨w.heap.size + 1, 1, none⟩ = some (.string y.f1) ∧ w'.cell? ⟨w.heap.size + 1, 2, none⟩ = some (.string y.f2) ∧ w'.cell? ⟨w.heap.size + 1, 3, none⟩ = some (.slice B3 y.f3.length d3) ∧ w'.cell? ⟨w.heap.size + 1, 4, none⟩ = some (.slice B4 y.f4.length d4)) (ds := []) #[false, false, false, false, false, false, false, false, false, false, false, false] (by kernel_rfl) rfl rfl ⟨s0, s1, s2, s3, s4, x0, x1, x2, x3, x4, y0, y1, y2, y3, y4⟩ (fun hHeld => ?_)
              refine pure_ (i := 0) (N := some 46) (v := ?_) (a' := ?_) (bl 12 1) rfl rfl (by kernel_rfl) (fun _ _ _ h => h) (Or.inl ⟨by rfl, ?_⟩) ?_ ?_; rotate_left; (· (intro w'; go_simp; with_reducible rfl)); rotate_left; (· (simp only [np]; rfl))
              refine pure_ (i := 1) (N := some 47) (v := ?_) (a' := ?_) (bl 12 3) rfl rfl (by kernel_rfl) (fun _ _ _ h => h) (Or.inl ⟨by rfl, ?_⟩) ?_ ?_; rotate_left; (· (intro w'; go_simp; with_reducible rfl)); rotate_left; (· (simp only [np]; rfl))
              refine take_ (i := 2) (N := some 48) (v := ?_) (a' := ?_) (bl 12 7) rfl rfl (by kernel_rfl) (fun _ _ _ h => h) (Or.inl ⟨by rfl, ?_⟩) hHeld ?_ ?_; rotate_left; (· (rintro w' ⟨s0, s1, s2, s3, s4, s5, s6, s7, s8, s9, s10, s11, s12, s13, s14⟩; go_simp; with_reducible rfl)); rotate_left; (· (simp only [np]; rfl))
              refine take_ (i := 3) (N := some 49) (v := ?_) (a' := ?_) (bl 12 15) rfl rfl (by kernel_rfl) (fun _ _ _ h => h) (Or.inl ⟨by rfl, ?_⟩) hHeld ?_ ?_; rotate_left; (· (rintro w' ⟨s0, s1, s2, s3, s4, s5, s6, s7, s8, s9, s10, s11, s12, s13, s14⟩; go_simp; with_reducible rfl)); rotate_left; (· (simp only [np]; rfl))
              refine take_ (i := 4) (N := some 50) (v := ?_) (a' := ?_) (bl 12 31) rfl rfl (by kernel_rfl) (fun _ _ _ h => h) (Or.inl ⟨by rfl, ?_⟩) hHeld ?_ ?_; rotate_left; (· (rintro w' ⟨s0, s1, s2, s3, s4, s5, s6, s7, s8, s9, s10, s11, s12, s13, s14⟩; go_simp; with_reducible rfl)); rotate_left; (· (simp only [np]; rfl))
              refine one_ (i := 5) (N := some 51) (bl 12 63) rfl rfl (by kernel_rfl) (by decide) (fun K hK => ?_)
              refine goes_ Tryz.func12 (by kernel_rfl) rfl #[ndV x A3 c3 A4 c4, ndV y B3 d3 B4 d4, .bool false] (by rfl) rfl rfl (by simp only [List.map_toArray, List.map_cons, List.map_nil]; rfl) ?_
              have hbw := (HLW.out.below).trans ((below_drew (Below.refl W.heap.size W)).mono HLW.out.below.size)
              refine (merged12 6 (fun k => k < W.drew.heap.size) x y HTX.out.2 HTY.out.2 HAL.out H.out.1 H.out.2.1 W.drew A3 A4 B3 B4 c3 c4 d3 d4 ((H.out.2.2.1.below hbw).frame.g) ((H.out.2.2.2.below hbw).frame.g)).mono ?_
              clear hbw
              rintro e wa ⟨m2, N3, n3, N4, n4, rfl, hmr2, _, hng2, hb⟩
              have HBA := Lib.hid (show Below W.heap.size W wa from (below_drew (Below.refl W.heap.size W)).trans hb)
              have HM2 := Lib.hid (And.intro hmr2 hng2.now)
              have HBX := Lib.hid hb
              clear hmr2 hng2 hb
              refine ⟨_, rfl, ?_⟩
              refine hK.out _ _ ⟨(HBX.out.cell (World.block_lt_of_cell? _ _ hHeld.1)).trans hHeld.1, (HBX.out.cell (World.block_lt_of_cell? _ _ hHeld.2.1)).trans hHeld.2.1, (HBX.out.cell (World.block_lt_of_cell? _ _ hHeld.2.2.1)).trans hHeld.2.2.1, (HBX.out.cell (World.block_lt_of_cell? _ _ hHeld.2.2.2.1)).trans hHeld.2.2.2.1, (HBX.out.cell (World.block_lt_of_cell? _ _ hHeld.2.2.2.2.1)).trans hHeld.2.2.2.2.1, (HBX.out.cell (World.block_lt_of_cell? _ _ hHeld.2.2.2.2.2.1)).trans hHeld.2.2.2.2.2.1, (HBX.out.cell (World.block_lt_of_cell? _ _ hHeld.2.2.2.2.2.2.1)).trans hHeld.2.2.2.2.2.2.1, (HBX.out.cell (World.block_lt_of_cell? _ _ hHeld.2.2.2.2.2.2.2.1)).trans hHeld.2.2.2.2.2.2.2.1, (HBX.out.cell (World.block_lt_of_cell? _ _ hHeld.2.2.2.2.2.2.2.2.1)).trans hHeld.2.2.2.2.2.2.2.2.1, (HBX.out.cell (World.block_lt_of_cell? _ _ hHeld.2.2.2.2.2.2.2.2.2.1)).trans hHeld.2.2.2.2.2.2.2.2.2.1, (HBX.out.cell (World.block_lt_of_cell? _ _ hHeld.2.2.2.2.2.2.2.2.2.2.1)).trans hHeld.2.2.2.2.2.2.2.2.2.2.1, (HBX.out.cell (World.block_lt_of_cell? _ _ hHeld.2.2.2.2.2.2.2.2.2.2.2.1)).trans hHeld.2.2.2.2.2.2.2.2.2.2.2.1, (HBX.out.cell (World.block_lt_of_cell? _ _ hHeld.2.2.2.2.2.2.2.2.2.2.2.2.1)).trans hHeld.2.2.2.2.2.2.2.2.2.2.2.2.1, (HBX.out.cell (World.block_lt_of_cell? _ _ hHeld.2.2.2.2.2.2.2.2.2.2.2.2.2.1)).trans hHeld.2.2.2.2.2.2.2.2.2.2.2.2.2.1, (HBX.out.cell (World.block_lt_of_cell? _ _ hHeld.2.2.2.2.2.2.2.2.2.2.2.2.2.2)).trans hHeld.2.2.2.2.2.2.2.2.2.2.2.2.2.2⟩ (fun hHeld => ?_)
              clear hK K
              refine norm_ (a' := ?_) ?_ ?_; rotate_left; (· (show Act.put _ (some 51) _ = _; simp only [np]; rfl))
              refine one_ (i := 6) (N := some 52) (bl 12 127) rfl rfl (by kernel_rfl) (by decide) (fun K hK => ?_)
              refine goes_ Tryz.func14 (by kernel_rfl) rfl #[ndV ym G3 g3 G4 g4, ndV m2 N3 n3 N4 n4, .bool true] (by rfl) rfl rfl (by simp only [List.map_toArray, List.map_cons, List.map_nil]; rfl) ?_
              obtain ⟨ks, hks⟩ := same_true 6 ym m2 (mrel_same (TreeB.tree HTY.out.2) (TreeB.tree HTX.out.2) HAL.out HY.out.1 HM2.out.1) (mrel_size (TreeB.tree HTY.out.2) (TreeB.tree HTX.out.2) HAL.out HY.out.1)
              have hgy := HL10.out.2.2.below HBA.out
              refine (spec_Same.calls ks ym.f0 ym.f1 ym.f2 G3 g3 ym.f3 G4 g4 ym.f4 m2.f0 m2.f1 m2.f2 N3 n3 m2.f3 N4 n4 m2.f4 true true wa hgy.keys hgy.kcap hgy.items hgy.icap HM2.out.2.keys HM2.out.2.kcap HM2.out.2.items HM2.out.2.icap hks).mono ?_
              clear hks hgy
              rintro e wb ⟨rfl, hb⟩
              have HBB := Lib.hid hb
              clear hb
              refine ⟨_, rfl, ?_⟩
              refine hK.out _ _ ⟨(HBB.out.cell (World.block_lt_of_cell? _ _ hHeld.1)).trans hHeld.1, (HBB.out.cell (World.block_lt_of_cell? _ _ hHeld.2.1)).trans hHeld.2.1, (HBB.out.cell (World.block_lt_of_cell? _ _ hHeld.2.2.1)).trans hHeld.2.2.1, (HBB.out.cell (World.block_lt_of_cell? _ _ hHeld.2.2.2.1)).trans hHeld.2.2.2.1, (HBB.out.cell (World.block_lt_of_cell? _ _ hHeld.2.2.2.2.1)).trans hHeld.2.2.2.2.1, (HBB.out.cell (World.block_lt_of_cell? _ _ hHeld.2.2.2.2.2.1)).trans hHeld.2.2.2.2.2.1, (HBB.out.cell (World.block_lt_of_cell? _ _ hHeld.2.2.2.2.2.2.1)).trans hHeld.2.2.2.2.2.2.1, (HBB.out.cell (World.block_lt_of_cell? _ _ hHeld.2.2.2.2.2.2.2.1)).trans hHeld.2.2.2.2.2.2.2.1, (HBB.out.cell (World.block_lt_of_cell? _ _ hHeld.2.2.2.2.2.2.2.2.1)).trans hHeld.2.2.2.2.2.2.2.2.1, (HBB.out.cell (World.block_lt_of_cell? _ _ hHeld.2.2.2.2.2.2.2.2.2.1)).trans hHeld.2.2.2.2.2.2.2.2.2.1, (HBB.out.cell (World.block_lt_of_cell? _ _ hHeld.2.2.2.2.2.2.2.2.2.2.1)).trans hHeld.2.2.2.2.2.2.2.2.2.2.1, (HBB.out.cell (World.block_lt_of_cell? _ _ hHeld.2.2.2.2.2.2.2.2.2.2.2.1)).trans hHeld.2.2.2.2.2.2.2.2.2.2.2.1, (HBB.out.cell (World.block_lt_of_cell? _ _ hHeld.2.2.2.2.2.2.2.2.2.2.2.2.1)).trans hHeld.2.2.2.2.2.2.2.2.2.2.2.2.1, (HBB.out.cell (World.block_lt_of_cell? _ _ hHeld.2.2.2.2.2.2.2.2.2.2.2.2.2.1)).trans hHeld.2.2.2.2.2.2.2.2.2.2.2.2.2.1, (HBB.out.cell (World.block_lt_of_cell? _ _ hHeld.2.2.2.2.2.2.2.2.2.2.2.2.2.2)).trans hHeld.2.2.2.2.2.2.2.2.2.2.2.2.2.2⟩ (fun hHeld => ?_)
              clear hK K
              refine norm_ (a' := ?_) ?_ ?_; rotate_left; (· (show Act.put _ (some 52) _ = _; simp only [np]; rfl))
              refine pure_ (i := 7) (N := some 53) (v := ?_) (a' := ?_) (bl 12 255) rfl rfl (by kernel_rfl) (fun _ _ _ h => h) (Or.inl ⟨by rfl, ?_⟩) ?_ ?_; rotate_left; (· (intro w'; go_simp; with_reducible rfl)); rotate_left; (· (simp only [np]; rfl))
              refine pure_ (i := 8) (N := some 54) (v := ?_) (a' := ?_) (bl 12 511) rfl rfl (by kernel_rfl) (fun _ _ _ h => h) (Or.inl ⟨by rfl, ?_⟩) ?_ ?_; rotate_left; (· (intro w'; go_simp; with_reducible rfl)); rotate_left; (· (simp only [np]; rfl))
              refine one_ (i := 9) (N := some 55) (bl 12 1023) rfl rfl (by kernel_rfl) (by decide) (fun K hK => ?_)
              refine goes_ Tryz.func15 (by kernel_rfl) rfl #[] (by rfl) rfl rfl (by simp only [List.map_toArray, List.map_cons, List.map_nil]) ?_
              refine (merges15 wb).mono ?_
              rintro e wc ⟨rfl, hb⟩
              have HBC := Lib.hid hb
              have HLZ := Lib.hid (((HLW.out.under HBA.out).under HBB.out).under hb)
              clear hb
              refine ⟨_, rfl, ?_⟩
              refine hK.out _ _ ⟨(HBC.out.cell (World.block_lt_of_cell? _ _ hHeld.1)).trans hHeld.1, (HBC.out.cell (World.block_lt_of_cell? _ _ hHeld.2.1)).trans hHeld.2.1, (HBC.out.cell (World.block_lt_of_cell? _ _ hHeld.2.2.1)).trans hHeld.2.2.1, (HBC.out.cell (World.block_lt_of_cell? _ _ hHeld.2.2.2.1)).trans hHeld.2.2.2.1, (HBC.out.cell (World.block_lt_of_cell? _ _ hHeld.2.2.2.2.1)).trans hHeld.2.2.2.2.1, (HBC.out.cell (World.block_lt_of_cell? _ _ hHeld.2.2.2.2.2.1)).trans hHeld.2.2.2.2.2.1, (HBC.out.cell (World.block_lt_of_cell? _ _ hHeld.2.2.2.2.2.2.1)).trans hHeld.2.2.2.2.2.2.1, (HBC.out.cell (World.block_lt_of_cell? _ _ hHeld.2.2.2.2.2.2.2.1)).trans hHeld.2.2.2.2.2.2.2.1, (HBC.out.cell (World.block_lt_of_cell? _ _ hHeld.2.2.2.2.2.2.2.2.1)).trans hHeld.2.2.2.2.2.2.2.2.1, (HBC.out.cell (World.block_lt_of_cell? _ _ hHeld.2.2.2.2.2.2.2.2.2.1)).trans hHeld.2.2.2.2.2.2.2.2.2.1, (HBC.out.cell (World.block_lt_of_cell? _ _ hHeld.2.2.2.2.2.2.2.2.2.2.1)).trans hHeld.2.2.2.2.2.2.2.2.2.2.1, (HBC.out.cell (World.block_lt_of_cell? _ _ hHeld.2.2.2.2.2.2.2.2.2.2.2.1)).trans hHeld.2.2.2.2.2.2.2.2.2.2.2.1, (HBC.out.cell (World.block_lt_of_cell? _ _ hHeld.2.2.2.2.2.2.2.2.2.2.2.2.1)).trans hHeld.2.2.2.2.2.2.2.2.2.2.2.2.1, (HBC.out.cell (World.block_lt_of_cell? _ _ hHeld.2.2.2.2.2.2.2.2.2.2.2.2.2.1)).trans hHeld.2.2.2.2.2.2.2.2.2.2.2.2.2.1, (HBC.out.cell (World.block_lt_of_cell? _ _ hHeld.2.2.2.2.2.2.2.2.2.2.2.2.2.2)).trans hHeld.2.2.2.2.2.2.2.2.2.2.2.2.2.2⟩ (fun hHeld => ?_)
              clear hK K
              refine norm_ (a' := ?_) ?_ ?_; rotate_left; (· (show Act.put _ (some 55) _ = _; simp only [np]; rfl))
              refine pure_ (i := 10) (N := some 56) (v := ?_) (a' := ?_) (bl 12 2047) rfl rfl (by kernel_rfl) (fun _ _ _ h => h) (Or.inl ⟨by rfl, ?_⟩) ?_ ?_; rotate_left; (· (intro w'; go_simp; with_reducible rfl)); rotate_left; (· (simp only [np]; rfl))
              refine pure_ (i := 11) (N := some 6) (v := ?_) (a' := ?_) (bl 12 4095) rfl rfl (by kernel_rfl) (fun _ _ _ h => h) (Or.inl ⟨by rfl, ?_⟩) ?_ ?_; rotate_left; (· (intro w'; go_simp; with_reducible rfl)); rotate_left; (· (simp only [np]; rfl))
              refine done_ (by kernel_rfl) ?_
              go_wp2_with fail
              exact bodyPost_ret (v := .bool true) (by simp [results, Tryz.results5, go_sem]) rfl ⟨rfl, HLZ.out.below⟩
end Go.Proofs.YtghmajlfmoggfaaGreat
namespace Go.Proofs.YtghmajlfmoggfaaGreat
open Go.ChangeShapes Go.WideShapes Go.Deep Go.RowKit Go.Proofs.YtghmajlfmoggfaaGreatW.PrintWords Go.Proofs.YtghmajlfmoggfaaGreatW.PrintLast PFnMerge
section
variable {H : Type} {enc : TypeId × Value → H} {w : World} {base : Nat} {spare : Nat → Bool} {held : Bool}
theorem cells_get {a : Addr} {n : Nat} {cs : List Value} (h : w.cells? base a n = some cs) : cs.length = n ∧ ∀ i, i < n → w.cell? (a.add i) = cs[i]? := by
  unfold World.cells? at h
  split at h
  · refine ⟨by simpa using mapM_some_length h, fun i hi => ?_⟩
    exact mapM_some_get h i i (by simp [hi])
  · cases h
theorem add_add' (a : Addr) (m n : Nat) : (a.add m).add n = a.add (m + n) := by
  by_cases h1 : m = 0
  · subst h1; simp [Addr.add]
  · by_cases h2 : n = 0
    · subst h2; simp [Addr.add]
    · simp [Addr.add, h1, h2, Nat.add_assoc]
theorem open_keys {fuel : Nat} {v : Value} {x : DataW H × List MemPlace} (h : DataW.trod enc Tryz.prog w base spare held fuel 22 [v] = some x) :
    ∃ (l : List ByteArray) (A : Option Addr) (c : Nat), v = .slice A l.length c ∧ l.length ≤ c ∧ Kd.C Kd.string w A l.length l ∧ ∀ k ∈ l, k.size ≤ 9223372036854775807 := by
  rcases open_strs Tryz.underlying22 Tryz.underlying9 (by kernel_rfl) h with ⟨hv, _⟩ | ⟨a, len, cap, m, Sx, hv, _, hl, hm, hmm, _, hx⟩
  · injection hv with hv _
    subst hv
    exact ⟨[], none, 0, rfl, Nat.le_refl _, Kd.C_nil _ _, fun k hk => by cases hk⟩
  · injection hv with hv _
    subst hv
    have hlm : len ≤ m := by rw [hmm]; split <;> omega
    have hmx : maxLen = 9223372036854775807 := rfl
    refine ⟨(List.range len).map Sx, some a, cap, by simp, by simpa using hl, ⟨rfl, by simp; omega, fun _ => ⟨a, rfl, fun j p hj => ?_⟩⟩, fun k hk => ?_⟩
    · obtain ⟨hj1, rfl⟩ : j < len ∧ Sx j = p := by
        have hlt := (List.getElem?_eq_some_iff.1 hj).1
        simp only [List.length_map, List.length_range] at hlt
        rw [List.getElem?_map, List.getElem?_eq_getElem (by simpa using hlt)] at hj
        simp only [List.getElem_range, Option.map_some, Option.some.injEq] at hj
        exact ⟨hlt, hj⟩
      refine ⟨[.string (Sx j)], rfl, rfl, fun i u hu => ?_⟩
      match i, hu with
      | 0, hu =>
        simp only [List.getElem?_cons_zero, Option.some.injEq] at hu
        subst hu
        have := (hx j (by omega)).1
        have es : Kd.string.sz = 1 := rfl
        rw [es, Nat.mul_one, Nat.add_zero]
        exact this
    · obtain ⟨j, hj, rfl⟩ := List.mem_map.1 hk
      have := (hx j (by have := List.mem_range.1 hj; omega)).2
      omega
theorem open_items {n : Nat} (ih : ∀ m, m < n → ∀ {cs : List Value} {x : DataW H × List MemPlace}, DataW.trod enc Tryz.prog w base spare held m 25 cs = some x → ∃ (y : S25) (A3 : Option Addr) (c3 : Nat) (A4 : Option Addr) (c4 : Nat), cs = [.int .i64 y.f0, .string y.f1, .string y.f2, .slice A3 y.f3.length c3, .slice A4 y.f4.length c4] ∧ NdR w y A3 c3 A4 c4 ∧ Bnd y)
    {fuel : Nat} (hf : fuel ≤ n) {v : Value} {x : DataW H × List MemPlace} (h : DataW.trod enc Tryz.prog w base spare held fuel 23 [v] = some x) :
    ∃ (l : List S25) (A : Option Addr) (c : Nat), v = .slice A l.length c ∧ l.length ≤ c ∧ Kd.C k25 w A l.length l ∧ ∀ z ∈ l, Bnd z := by
  have hc5 : Tryz.prog.cellsOf 25 = 5 := by kernel_rfl
  rcases DataW.trod_slice Tryz.underlying23 h with ⟨hv, _⟩ | ⟨a, len, cap, elems, rest, m, hfm, hv, _, _, hl, hm, hlen, hel, _, _⟩
  · injection hv with hv _
    subst hv
    exact ⟨[], none, 0, rfl, Nat.le_refl _, Kd.C_nil _ _, fun k hk => by cases hk⟩
  · injection hv with hv _
    subst hv
    haveI : Inhabited S25 := ⟨z25⟩
    have each : ∀ i, i < len → ∃ y : S25, Bnd y ∧ ∃ (A3 : Option Addr) (c3 : Nat) (A4 : Option Addr) (c4 : Nat), NdR w y A3 c3 A4 c4 ∧ ∀ j, j < 5 → w.cell? (a.add (i * 5 + j)) = [Value.int .i64 y.f0, .string y.f1, .string y.f2, .slice A3 y.f3.length c3, .slice A4 y.f4.length c4][j]? := by
      intro i hi
      have hb := hel i hi
      rw [List.getElem?_eq_getElem (by omega), Option.bind_eq_some_iff, hc5] at hb
      obtain ⟨cs', h1, h2⟩ := hb
      obtain ⟨y, A3, c3, A4, c4, rfl, h3, h4⟩ := ih m (by omega) h2
      refine ⟨y, h4, A3, c3, A4, c4, h3, fun j hj => ?_⟩
      have := (cells_get h1).2 j hj
      rwa [add_add'] at this
    obtain ⟨Y, hY⟩ := choose_lt each
    have hmx : maxLen = 9223372036854775807 := rfl
    refine ⟨(List.range len).map Y, some a, cap, by simp, by simpa using hl, ⟨rfl, by simp; omega, fun _ => ⟨a, rfl, fun j p hj => ?_⟩⟩, fun k hk => ?_⟩
    · obtain ⟨hj1, rfl⟩ : j < len ∧ Y j = p := by
        have hlt := (List.getElem?_eq_some_iff.1 hj).1
        simp only [List.length_map, List.length_range] at hlt
        rw [List.getElem?_map, List.getElem?_eq_getElem (by simpa using hlt)] at hj
        simp only [List.getElem_range, Option.map_some, Option.some.injEq] at hj
        exact ⟨hlt, hj⟩
      obtain ⟨_, A3, c3, A4, c4, h3, h4⟩ := hY j hj1
      refine ⟨[.int .i64 (Y j).f0, .string (Y j).f1, .string (Y j).f2, .slice A3 (Y j).f3.length c3, .slice A4 (Y j).f4.length c4], rfl, k25_mk w (Y j) h3.kcap h3.keys h3.icap h3.items, fun i u hu => ?_⟩
      have es : k25.sz = 5 := rfl
      rw [es, h4 i (by have := (List.getElem?_eq_some_iff.1 hu).1; simpa using this)]
      exact hu
    · obtain ⟨j, hj, rfl⟩ := List.mem_map.1 hk
      exact (hY j (by simpa using hj)).1
set_option maxRecDepth 20000 in
theorem open25 : ∀ (n : Nat) {cs : List Value} {x : DataW H × List MemPlace}, DataW.trod enc Tryz.prog w base spare held n 25 cs = some x → ∃ (y : S25) (A3 : Option Addr) (c3 : Nat) (A4 : Option Addr) (c4 : Nat), cs = [.int .i64 y.f0, .string y.f1, .string y.f2, .slice A3 y.f3.length c3, .slice A4 y.f4.length c4] ∧ NdR w y A3 c3 A4 c4 ∧ Bnd y := by
  intro n
  induction n using Nat.strongRecOn with
  | _ n ih =>
    intro cs x h
    have hc5 : Tryz.prog.cellsOf 25 = 5 := by kernel_rfl
    have e3 : Tryz.prog.cellsOf 3 = 1 := by kernel_rfl
    have e9 : Tryz.prog.cellsOf 9 = 1 := by kernel_rfl
    have e22 : Tryz.prog.cellsOf 22 = 1 := by kernel_rfl
    have e23 : Tryz.prog.cellsOf 23 = 1 := by kernel_rfl
    obtain ⟨xs, m, hnm, _, hl, hlen, hf⟩ := DataW.trod_struct Tryz.underlying25 h
    rw [hc5] at hl
    have hlen5 : xs.length = 5 := hlen
    match xs, hlen5 with
    | [x0, x1, x2, x3, x4], _ =>
      match cs, hl with
      | [v0, v1, v2, v3, v4], _ =>
        have h0 : DataW.trod enc Tryz.prog w base spare held m 3 [v0] = some x0 := by have := (show DataW.trod enc Tryz.prog w base spare held m 3 (([v0, v1, v2, v3, v4].drop 0).take (Tryz.prog.cellsOf 3)) = some x0 from hf 0 _ rfl); rw [e3] at this; exact this
        have h1 : DataW.trod enc Tryz.prog w base spare held m 9 [v1] = some x1 := by have := (show DataW.trod enc Tryz.prog w base spare held m 9 (([v0, v1, v2, v3, v4].drop 1).take (Tryz.prog.cellsOf 9)) = some x1 from hf 1 _ rfl); rw [e9] at this; exact this
        have h2 : DataW.trod enc Tryz.prog w base spare held m 9 [v2] = some x2 := by have := (show DataW.trod enc Tryz.prog w base spare held m 9 (([v0, v1, v2, v3, v4].drop 2).take (Tryz.prog.cellsOf 9)) = some x2 from hf 2 _ rfl); rw [e9] at this; exact this
        have h3 : DataW.trod enc Tryz.prog w base spare held m 22 [v3] = some x3 := by have := (show DataW.trod enc Tryz.prog w base spare held m 22 (([v0, v1, v2, v3, v4].drop 3).take (Tryz.prog.cellsOf 22)) = some x3 from hf 3 _ rfl); rw [e22] at this; exact this
        have h4 : DataW.trod enc Tryz.prog w base spare held m 23 [v4] = some x4 := by have := (show DataW.trod enc Tryz.prog w base spare held m 23 (([v0, v1, v2, v3, v4].drop 4).take (Tryz.prog.cellsOf 23)) = some x4 from hf 4 _ rfl); rw [e23] at this; exact this
        obtain ⟨k, hk, _, _⟩ := DataW.trod_int Tryz.underlying3 h0
        obtain ⟨s1, hs1, _, hb1⟩ := DataW.trod_string Tryz.underlying9 h1
        obtain ⟨s2, hs2, _, hb2⟩ := DataW.trod_string Tryz.underlying9 h2
        obtain ⟨l3, A3, c3, rfl, g3, g3', g3''⟩ := open_keys h3
        obtain ⟨l4, A4, c4, rfl, g4, g4', g4''⟩ := open_items (n := n) (fun m hm => @ih m hm) (by omega) h4
        injection hk with hk _
        injection hs1 with hs1 _
        injection hs2 with hs2 _
        subst hk; subst hs1; subst hs2
        have hmx : maxLen = 9223372036854775807 := rfl
        exact ⟨⟨k, s1, s2, l3, l4⟩, A3, c3, A4, c4, rfl, ⟨g3', g3, g4', g4⟩, .mk _ (by show s1.size ≤ _; omega) (by show s2.size ≤ _; omega) g3'' g4''⟩
end
end Go.Proofs.YtghmajlfmoggfaaGreat
