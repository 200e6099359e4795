import Derived.Test.YtghmajlfmoggfaaGreatMS5
set_option linter.unusedSimpArgs false
set_option linter.unusedVariables false
namespace Go.Proofs.YtghmajlfmoggfaaGreat
open Go.RowKit Go.Proofs.YtghmajlfmoggfaaGreatW.PrintWords Go.Proofs.YtghmajlfmoggfaaGreatW.PrintLast PFnMerge
set_option maxRecDepth 20000 in
set_option maxHeartbeats 8000000 in
theorem areAlike10 (d : Nat) (x y : S25) (hx : TreeB d x) (hy : TreeB d y) (w : World) (A : Option Addr) (c : Nat) (hC : Kd.C k25 w A 2 [x, y]) (hc : 2 ≤ c) : Calls Tryz.prog 10 #[.slice A 2 c] w fun e w' => AlikeQ d y x w e w' := by
  obtain ⟨ad, E3, e3, E4, e4, rfl, x0, x1, x2, x3, x4, h1, h2, h3, h4⟩ := nd_at hC 0 x (by omega) rfl
  obtain ⟨ad', F3, g3, F4, g4, e_, y0, y1, y2, y3, y4, k1, k2, k3, k4⟩ := nd_at hC 1 y (by omega) rfl
  injection e_ with e_
  subst e_
  have HX := Lib.hid (And.intro hx (And.intro hy (And.intro (show NdR w x E3 e3 E4 e4 from ⟨h2, h1, h4, h3⟩) (show NdR w y F3 g3 F4 g4 from ⟨k2, k1, k4, k3⟩))))
  have HC := Lib.hid (And.intro hC (show (∀ i : Nat, True) from fun _ => trivial))
  have HXC := Lib.hid (And.intro x0 (And.intro x1 (And.intro x2 (And.intro x3 x4))))
  have HYC := Lib.hid (And.intro y0 (And.intro y1 (And.intro y2 (And.intro y3 y4))))
  have hc0 : (0 : Int) ≤ (c : Int) := by omega
  have hc1 : (1 : Int) ≤ (c : Int) := by omega
  have hc1' : 1 ≤ c := by omega
  clear h1 h2 h3 h4 k1 k2 k3 k4 x0 x1 x2 x3 x4 y0 y1 y2 y3 y4 hx hy hC
  go_enter Tryz.func10, Tryz.ntmps10
  go_wp2_with fail
  go_loopg [7] 2 (fun k i wr => ∃ j : Nat, j + k = 2 ∧ i = .int .i64 (j : Int) ∧ Hid (Below w.heap.size w wr ∧ (j = 2 → AlikeN d y x)))
  case atStart => exact ⟨0, by omega, rfl, Lib.hid ⟨Below.refl _ _, fun e => by omega⟩⟩
  case round =>
    obtain ⟨j, hj, rfl, hI⟩ := hrel
    obtain ⟨gk0, hgk0⟩ : ∃ g, g = gk := ⟨_, rfl⟩
    rcases (show j = 0 ∨ j = 1 ∨ j = 2 by omega) with rfl | rfl | rfl
    · go_wp2_with fail
      go_loopg [14] 0 (fun k i wr => i = .int .i64 0 ∧ Hid (Below w.heap.size w wr))
      case atStart => exact ⟨rfl, Lib.hid hI.out.1⟩
      case round =>
        obtain ⟨rfl, hJ⟩ := hrel
        go_wp2_with fail
        go_roundg (gk0 - 1)
        case measure => omega
        case rel => exact ⟨1, by omega, by go_num, Lib.hid ⟨hJ.out, fun e => by omega⟩⟩
    · go_wp2_with fail
      go_loopg [14] 1 (fun k i wr => ∃ q : Nat, q + k = 1 ∧ i = .int .i64 (q : Int) ∧ Hid (Below w.heap.size w wr ∧ (q = 1 → AlikeN d y x)))
      case atStart => exact ⟨0, by omega, rfl, Lib.hid ⟨hI.out.1, fun e => by omega⟩⟩
      case round =>
        obtain ⟨q, hq, rfl, hJ⟩ := hrel
        rcases (show q = 0 ∨ q = 1 by omega) with rfl | rfl
        · have x0 := (hJ.out.1.cell (World.block_lt_of_cell? w _ HXC.out.1)).trans HXC.out.1
          have x1 : wr.cell? ⟨ad.block, ad.off + 1, none⟩ = some (.string x.f1) := by have h := (hJ.out.1.cell (World.block_lt_of_cell? w _ HXC.out.2.1)).trans HXC.out.2.1; simpa [Addr.add] using h
          have x2 : wr.cell? ⟨ad.block, ad.off + 2, none⟩ = some (.string x.f2) := by have h := (hJ.out.1.cell (World.block_lt_of_cell? w _ HXC.out.2.2.1)).trans HXC.out.2.2.1; simpa [Addr.add] using h
          have x3 : wr.cell? ⟨ad.block, ad.off + 3, none⟩ = some (.slice E3 x.f3.length e3) := by have h := (hJ.out.1.cell (World.block_lt_of_cell? w _ HXC.out.2.2.2.1)).trans HXC.out.2.2.2.1; simpa [Addr.add] using h
          have x4 : wr.cell? ⟨ad.block, ad.off + 4, none⟩ = some (.slice E4 x.f4.length e4) := by have h := (hJ.out.1.cell (World.block_lt_of_cell? w _ HXC.out.2.2.2.2)).trans HXC.out.2.2.2.2; simpa [Addr.add] using h
          have y0 : wr.cell? ⟨ad.block, ad.off + 5, none⟩ = some (.int .i64 y.f0) := by have h := (hJ.out.1.cell (World.block_lt_of_cell? w _ HYC.out.1)).trans HYC.out.1; simpa [Addr.add] using h
          have y1 : wr.cell? ⟨ad.block, ad.off + 5 + 1, none⟩ = some (.string y.f1) := by have h := (hJ.out.1.cell (World.block_lt_of_cell? w _ HYC.out.2.1)).trans HYC.out.2.1; simpa [Addr.add] using h
          have y2 : wr.cell? ⟨ad.block, ad.off + 5 + 2, none⟩ = some (.string y.f2) := by have h := (hJ.out.1.cell (World.block_lt_of_cell? w _ HYC.out.2.2.1)).trans HYC.out.2.2.1; simpa [Addr.add] using h
          have y3 : wr.cell? ⟨ad.block, ad.off + 5 + 3, none⟩ = some (.slice F3 y.f3.length g3) := by have h := (hJ.out.1.cell (World.block_lt_of_cell? w _ HYC.out.2.2.2.1)).trans HYC.out.2.2.2.1; simpa [Addr.add] using h
          have y4 : wr.cell? ⟨ad.block, ad.off + 5 + 4, none⟩ = some (.slice F4 y.f4.length g4) := by have h := (hJ.out.1.cell (World.block_lt_of_cell? w _ HYC.out.2.2.2.2)).trans HYC.out.2.2.2.2; simpa [Addr.add] using h
          go_wp2_with fail
          refine start_ (n := 10) (S := fun w' => w'.cell? ad = some (.int .i64 x.f0) ∧ w'.cell? ⟨ad.block, ad.off + 1, none⟩ = some (.string x.f1) ∧ w'.cell? ⟨ad.block, ad.off + 2, none⟩ = some (.string x.f2) ∧ w'.cell? ⟨ad.block, ad.off + 3, none⟩ = some (.slice E3 x.f3.length e3) ∧ w'.cell? ⟨ad.block, ad.off + 4, none⟩ = some (.slice E4 x.f4.length e4) ∧ w'.cell? ⟨ad.block, ad.off + 5, none⟩ = some (.int .i64 y.f0) ∧ w'.cell? ⟨ad.block, ad.off + 5 + 1, none⟩ = some (.string y.f1) ∧ w'.cell? ⟨ad.block, ad.off + 5 + 2, none⟩ = some (.string y.f2) ∧ w'.cell? ⟨ad.block, ad.off + 5 + 3, none⟩ = some (.slice F3 y.f3.length g3) ∧ w'.cell? ⟨ad.block, ad.off + 5 + 4, none⟩ = some (.slice F4 y.f4.length g4)) (ds := []) #[false, false, false, false, false, false, false, false, false, false] (by kernel_rfl) rfl rfl ⟨x0, x1, x2, x3, x4, y0, y1, y2, y3, y4⟩ (fun hHeld => ?_)
          refine pure_ (i := 0) (N := some 17) (v := ?_) (a' := ?_) (bl 10 1) rfl rfl (by kernel_rfl) (fun _ _ _ h => h) (Or.inl ⟨by rfl, ?_⟩) ?_ ?_; rotate_left; (· (intro w'; go_simp; with_reducible rfl)); rotate_left; (· (simp only [np]; rfl))
          refine pure_ (i := 1) (N := some 18) (v := ?_) (a' := ?_) (bl 10 3) rfl rfl (by kernel_rfl) (fun _ _ _ h => h) (Or.inl ⟨by rfl, ?_⟩) ?_ ?_; rotate_left; (· (intro w'; go_simp; with_reducible rfl)); rotate_left; (· (simp only [np]; rfl))
          refine pure_ (i := 2) (N := some 19) (v := ?_) (a' := ?_) (bl 10 7) rfl rfl (by kernel_rfl) (fun _ _ _ h => h) (Or.inl ⟨by rfl, ?_⟩) ?_ ?_; rotate_left; (· (intro w'; go_simp; with_reducible rfl)); rotate_left; (· (simp only [np]; rfl))
          refine pure_ (i := 4) (N := some 21) (v := ?_) (a' := ?_) (bl 10 23) rfl rfl (by kernel_rfl) (fun _ _ _ h => h) (Or.inl ⟨by rfl, ?_⟩) ?_ ?_; rotate_left; (· (intro w'; go_simp; with_reducible rfl)); rotate_left; (· (simp only [np]; rfl))
          refine pure_ (i := 5) (N := some 22) (v := ?_) (a' := ?_) (bl 10 55) rfl rfl (by kernel_rfl) (fun _ _ _ h => h) (Or.inl ⟨by rfl, ?_⟩) ?_ ?_; rotate_left; (· (intro w'; go_simp; with_reducible rfl)); rotate_left; (· (simp only [np]; rfl))
          refine pure_ (i := 6) (N := some 23) (v := ?_) (a' := ?_) (bl 10 119) rfl rfl (by kernel_rfl) (fun _ _ _ h => h) (Or.inl ⟨by rfl, ?_⟩) ?_ ?_; rotate_left; (· (intro w'; go_simp; with_reducible rfl)); rotate_left; (· (simp only [np]; rfl))
          refine take_ (i := 3) (N := some 20) (v := ?_) (a' := ?_) (bl 10 127) rfl rfl (by kernel_rfl) (fun _ _ _ h => h) (Or.inl ⟨by rfl, ?_⟩) hHeld ?_ ?_; rotate_left; (· (rintro w' ⟨s0, s1, s2, s3, s4, s5, s6, s7, s8, s9⟩; go_simp; with_reducible rfl)); rotate_left; (· (simp only [np]; rfl))
          refine take_ (i := 7) (N := some 24) (v := ?_) (a' := ?_) (bl 10 255) rfl rfl (by kernel_rfl) (fun _ _ _ h => h) (Or.inl ⟨by rfl, ?_⟩) hHeld ?_ ?_; rotate_left; (· (rintro w' ⟨s0, s1, s2, s3, s4, s5, s6, s7, s8, s9⟩; go_simp; with_reducible rfl)); rotate_left; (· (simp only [np]; rfl))
          refine one_ (i := 8) (N := some 25) (bl 10 511) rfl rfl (by kernel_rfl) (by decide) (fun K hK => ?_)
          refine goes_ Tryz.func22 (by kernel_rfl) rfl #[ndV y F3 g3 F4 g4, ndV x E3 e3 E4 e4] (by rfl) rfl rfl (by simp only [List.map_toArray, List.map_cons, List.map_nil]; rfl) ?_
          refine (alike22 d y x HX.out.2.1 HX.out.1 _ F3 F4 E3 E4 g3 g4 e3 e4 (HX.out.2.2.2.below (below_drew hJ.out.1)) (HX.out.2.2.1.below (below_drew hJ.out.1))).mono ?_
          rintro e w7 ⟨bq, rfl, hq, hbc⟩
          have HQ := Lib.hid (And.intro hq hbc)
          have HBC := Lib.hid hbc
          clear hq hbc
          refine ⟨_, rfl, ?_⟩
          refine hK.out _ _ ⟨(HBC.out.cell (World.block_lt_of_cell? _ _ hHeld.1)).trans hHeld.1, (HBC.out.cell (World.block_lt_of_cell? _ _ hHeld.2.1)).trans hHeld.2.1, (HBC.out.cell (World.block_lt_of_cell? _ _ hHeld.2.2.1)).trans hHeld.2.2.1, (HBC.out.cell (World.block_lt_of_cell? _ _ hHeld.2.2.2.1)).trans hHeld.2.2.2.1, (HBC.out.cell (World.block_lt_of_cell? _ _ hHeld.2.2.2.2.1)).trans hHeld.2.2.2.2.1, (HBC.out.cell (World.block_lt_of_cell? _ _ hHeld.2.2.2.2.2.1)).trans hHeld.2.2.2.2.2.1, (HBC.out.cell (World.block_lt_of_cell? _ _ hHeld.2.2.2.2.2.2.1)).trans hHeld.2.2.2.2.2.2.1, (HBC.out.cell (World.block_lt_of_cell? _ _ hHeld.2.2.2.2.2.2.2.1)).trans hHeld.2.2.2.2.2.2.2.1, (HBC.out.cell (World.block_lt_of_cell? _ _ hHeld.2.2.2.2.2.2.2.2.1)).trans hHeld.2.2.2.2.2.2.2.2.1, (HBC.out.cell (World.block_lt_of_cell? _ _ hHeld.2.2.2.2.2.2.2.2.2)).trans hHeld.2.2.2.2.2.2.2.2.2⟩ (fun hHeld => ?_)
          clear hK K
          refine norm_ (a' := ?_) ?_ ?_; rotate_left; (· (show Act.put _ (some 25) _ = _; simp only [np]; rfl))
          refine pure_ (i := 9) (N := some 26) (v := ?_) (a' := ?_) (bl 10 1023) rfl rfl (by kernel_rfl) (fun _ _ _ h => h) (Or.inl ⟨by rfl, ?_⟩) ?_ ?_; rotate_left; (· (intro w'; go_simp; with_reducible rfl)); rotate_left; (· (simp only [np]; rfl))
          refine done_ (by kernel_rfl) ?_
          cases bq with
          | true =>
            go_wp2_with fail
            go_roundg (gk - 1)
            case measure => omega
            case rel => exact ⟨1, by omega, by go_num, Lib.hid ⟨hJ.out.1.trans (((below_drew (Below.refl _ _)).trans HQ.out.2).mono hJ.out.1.size), fun _ => HQ.out.1 (by first | trivial | rfl)⟩⟩
          | false =>
            go_wp2_with fail
            exact bodyPost_ret (v := .bool false) (by simp [results, Tryz.results10, go_sem]) rfl ⟨false, rfl, by simp, hJ.out.1.trans (((below_drew (Below.refl _ _)).trans HQ.out.2).mono hJ.out.1.size)⟩
        · go_wp2_with fail
          go_roundg (gk0 - 1)
          case measure => omega
          case rel => exact ⟨2, by omega, by go_num, Lib.hid ⟨hJ.out.1, fun _ => hJ.out.2 (by first | trivial | rfl)⟩⟩
    · go_wp2_with fail
      exact bodyPost_ret (v := .bool true) (by simp [results, Tryz.results10, go_sem]) rfl ⟨true, rfl, fun _ => hI.out.2 (by first | trivial | rfl), hI.out.1⟩
end Go.Proofs.YtghmajlfmoggfaaGreat
