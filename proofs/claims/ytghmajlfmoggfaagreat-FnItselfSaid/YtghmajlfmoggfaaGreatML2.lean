import Derived.Deep.Strs
import Derived.ChangeArms
import Derived.Test.YtghmajlfmoggfaaGreatMS5
import Derived.Test.YtghmajlfmoggfaaGreatMS4
import Derived.Test.YtghmajlfmoggfaaGreatMH
import Derived.Test.YtghmajlfmoggfaaGreatMJ17
import Derived.Test.YtghmajlfmoggfaaGreatMJ15
import Derived.Test.YtghmajlfmoggfaaGreatMA
set_option linter.unusedSimpArgs false
set_option linter.unusedVariables false
namespace Go.Proofs.YtghmajlfmoggfaaGreat
open Go.RowKit Go.Proofs.YtghmajlfmoggfaaGreatW.PrintWords Go.Proofs.YtghmajlfmoggfaaGreatW.PrintLast PFnMerge
theorem fits_at (l : List ByteArray) (hl : l.length ≤ 2147483647) : ∀ (m j : Nat), j + m = l.length → ∃ k r, laws_zzFits2.l0 k l (l.length : Int) (j : Int) = some r := by
  intro m
  induction m with
  | zero =>
    intro j hj
    exact ⟨1, true, by rw [laws_zzFits2.l0, if_neg (by omega)]⟩
  | succ m ih =>
    intro j hj
    obtain ⟨k, r, hk⟩ := ih (j + 1) (by omega)
    have hw : wrap64 ((j : Int) + 1) = ((j + 1 : Nat) : Int) := by unfold wrap64; omega
    by_cases h : ((rdOf ByteArray.empty l (j : Int)).size : Int) > 2147483647
    · exact ⟨1, false, by rw [laws_zzFits2.l0, if_pos (by omega), if_pos (by omega), if_pos (by omega), if_pos h]⟩
    · exact ⟨k + 1, r, by rw [laws_zzFits2.l0, if_pos (by omega), if_pos (by omega), if_pos (by omega), if_neg h, hw]; exact hk⟩
theorem fits2_some (l : List ByteArray) : ∃ k r, laws_zzFits2.f k l = some r := by
  by_cases h : (l.length : Int) > 2147483647
  · exact ⟨1, false, by rw [laws_zzFits2.f, if_pos h]⟩
  · obtain ⟨k, r, hk⟩ := fits_at l (by omega) l.length 0 (by omega)
    exact ⟨k, r, by rw [laws_zzFits2.f, if_neg h]; exact hk⟩
theorem fits1_some (x : S25) : ∃ k r, laws_zzFits1.f k x.f0 x.f1 x.f2 x.f3 x.f4 = some r := by
  by_cases h1 : (x.f1.size : Int) > 2147483647
  · exact ⟨1, false, by rw [laws_zzFits1.f, if_pos h1]⟩
  by_cases h2 : (x.f2.size : Int) > 2147483647
  · exact ⟨1, false, by rw [laws_zzFits1.f, if_neg h1, if_pos h2]⟩
  obtain ⟨k, r, hk⟩ := fits2_some x.f3
  cases r with
  | false => exact ⟨k, false, by rw [laws_zzFits1.f, if_neg h1, if_neg h2, hk]; rfl⟩
  | true =>
    by_cases h4 : (x.f4.length : Int) > 2147483647
    · exact ⟨k, false, by rw [laws_zzFits1.f, if_neg h1, if_neg h2, hk]; simp only [Option.bind_some, if_true]; rw [if_pos h4]⟩
    · exact ⟨k, true, by rw [laws_zzFits1.f, if_neg h1, if_neg h2, hk]; simp only [Option.bind_some, if_true]; rw [if_neg h4]⟩
theorem fits7 (w : World) (x : S25) (A3 A4 : Option Addr) (c3 c4 : Nat) (h : NdR w x A3 c3 A4 c4) : ∃ r, Calls Tryz.prog 7 #[ndV x A3 c3 A4 c4] w fun e w' => e = .returned (.bool r) ∧ Below w.heap.size w w' := by
  obtain ⟨k, r, hk⟩ := fits1_some x
  exact ⟨r, laws_zzFits1.calls k x.f0 x.f1 x.f2 A3 c3 x.f3 A4 c4 x.f4 r w h.keys h.kcap h.items h.icap hk⟩
end Go.Proofs.YtghmajlfmoggfaaGreat
namespace Go.Proofs.YtghmajlfmoggfaaGreat
open Go.RowKit Go.Proofs.YtghmajlfmoggfaaGreatW.PrintWords Go.Proofs.YtghmajlfmoggfaaGreatW.PrintLast PFnMerge
structure LX (w : World) (cx : Array Value) (W : World) : Prop where
  below : Below w.heap.size w W
  bx : W.heap[w.heap.size]? = some (.cells cx 25 (0, 0))
theorem LX.under {w : World} {cx : Array Value} {W W' : World} (h : LX w cx W) (hb : Below W.heap.size W W') : LX w cx W' :=
  ⟨h.below.trans (hb.mono h.below.size), (hb.block _ (lt_of_block h.bx)).trans h.bx⟩
theorem merge2_self (infer : Bool) (w : World) (x : S25) (hx : TreeB 6 x) (hc : infer = true → ClearP 6 x) (A3 A4 : Option Addr) (c3 c4 : Nat) (hxr : NdR w x A3 c3 A4 c4) :
    Calls Tryz.prog 13 #[ndV x A3 c3 A4 c4, ndV x A3 c3 A4 c4, .bool infer, .bool false] w fun e w' => M2R (fun m => m = x) w e w' :=
  merge2_13o (D := 6) w x x hx.tak hx.tak (zz_same infer 6 (by omega) x (clear_good hx hc)) (fun m hm => by subst hm; exact hx.tree.size) A3 A4 A3 A4 c3 c4 c3 c4 hxr hxr
set_option maxRecDepth 20000 in
set_option maxHeartbeats 4000000 in
theorem fnItself4 (w : World) (x : S25) (hbx : Bnd x) (A3 A4 : Option Addr) (c3 c4 : Nat) (hx : NdR w x A3 c3 A4 c4) (infer : Bool) : Calls Tryz.prog 4 #[ndV x A3 c3 A4 c4, .bool infer] w fun e w' => YesQ w e w' := by
  have HL0 := Lib.hid (show LX w #[.int .i64 x.f0, .string x.f1, .string x.f2, .slice A3 x.f3.length c3, .slice A4 x.f4.length c4] (w.alloc (.cells #[.int .i64 x.f0, .string x.f1, .string x.f2, .slice A3 x.f3.length c3, .slice A4 x.f4.length c4] 25)) from ⟨below_alloc (Below.refl _ _) _, blk_new rfl _⟩)
  have H := Lib.hid (And.intro hbx hx)
  clear hbx hx
  go_enter Tryz.func4, Tryz.ntmps4
  go_wp2_with fail
  obtain ⟨r1, hc1⟩ := fits7 _ x A3 A4 c3 c4 (H.out.2.below HL0.out.below)
  refine hc1.mono ?_
  clear hc1
  rintro e w1 ⟨rfl, hb⟩
  have HL1 := Lib.hid (HL0.out.under hb)
  clear hb
  cases r1 with
  | false =>
    go_wp2_with fail
    exact bodyPost_ret (v := .bool true) (by simp [results, Tryz.results4, go_sem]) rfl ⟨rfl, HL1.out.below⟩
  | true =>
    have x0 : w1.cell? ⟨w.heap.size, 0, none⟩ = some (.int .i64 x.f0) := (blk_cell HL1.out.bx 0).trans rfl
    have x1 : w1.cell? ⟨w.heap.size, 1, none⟩ = some (.string x.f1) := (blk_cell HL1.out.bx 1).trans rfl
    have x2 : w1.cell? ⟨w.heap.size, 2, none⟩ = some (.string x.f2) := (blk_cell HL1.out.bx 2).trans rfl
    have x3 : w1.cell? ⟨w.heap.size, 3, none⟩ = some (.slice A3 x.f3.length c3) := (blk_cell HL1.out.bx 3).trans rfl
    have x4 : w1.cell? ⟨w.heap.size, 4, none⟩ = some (.slice A4 x.f4.length c4) := (blk_cell HL1.out.bx 4).trans rfl
    go_wp2_with fail
    clear x0 x1 x2 x3 x4
    refine (isMap8 w1 x A3 A4 c3 c4 (H.out.2.below HL1.out.below) H.out.1).mono ?_
    rintro e w2 ⟨b2, rfl, ht2, hb⟩
    have HL2 := Lib.hid (HL1.out.under hb)
    have HT2 := Lib.hid ht2
    clear hb ht2
    cases b2 with
    | false =>
      cases infer
      · go_wp2_with fail
        exact bodyPost_ret (v := .bool true) (by simp [results, Tryz.results4, go_sem]) rfl ⟨rfl, HL2.out.below⟩
      · go_wp2_with fail
        exact bodyPost_ret (v := .bool true) (by simp [results, Tryz.results4, go_sem]) rfl ⟨rfl, HL2.out.below⟩
    | true =>
      have HTX := Lib.hid (HT2.out rfl)
      cases infer with
      | false =>
        have HL3 := HL2
        have x0 : w2.cell? ⟨w.heap.size, 0, none⟩ = some (.int .i64 x.f0) := (blk_cell HL3.out.bx 0).trans rfl
        have x1 : w2.cell? ⟨w.heap.size, 1, none⟩ = some (.string x.f1) := (blk_cell HL3.out.bx 1).trans rfl
        have x2 : w2.cell? ⟨w.heap.size, 2, none⟩ = some (.string x.f2) := (blk_cell HL3.out.bx 2).trans rfl
        have x3 : w2.cell? ⟨w.heap.size, 3, none⟩ = some (.slice A3 x.f3.length c3) := (blk_cell HL3.out.bx 3).trans rfl
        have x4 : w2.cell? ⟨w.heap.size, 4, none⟩ = some (.slice A4 x.f4.length c4) := (blk_cell HL3.out.bx 4).trans rfl
        go_wp2_with fail
        clear x0 x1 x2 x3 x4
        refine (merge2_self false w2 x HTX.out.2 (fun h => by cases h) A3 A4 c3 c4 (H.out.2.below HL3.out.below)).mono ?_
        rintro e w4 ⟨ym, G3, g3, G4, g4, rfl, hye, hng, hb⟩
        have hye := hye.symm
        subst hye
        have HG := Lib.hid (And.intro hng hb)
        have HL4 := Lib.hid (HL3.out.under hb)
        clear hng hb
        have HLB := Lib.hid (HL4.out.under (below_alloc (Below.refl _ _) (.cells #[.int .i64 x.f0, .string x.f1, .string x.f2, .slice G3 x.f3.length g3, .slice G4 x.f4.length g4] 25)))
        have x0 : (w4.alloc (.cells #[.int .i64 x.f0, .string x.f1, .string x.f2, .slice G3 x.f3.length g3, .slice G4 x.f4.length g4] 25)).cell? ⟨w.heap.size, 0, none⟩ = some (.int .i64 x.f0) := (blk_cell HLB.out.bx 0).trans rfl
        have x1 : (w4.alloc (.cells #[.int .i64 x.f0, .string x.f1, .string x.f2, .slice G3 x.f3.length g3, .slice G4 x.f4.length g4] 25)).cell? ⟨w.heap.size, 1, none⟩ = some (.string x.f1) := (blk_cell HLB.out.bx 1).trans rfl
        have x2 : (w4.alloc (.cells #[.int .i64 x.f0, .string x.f1, .string x.f2, .slice G3 x.f3.length g3, .slice G4 x.f4.length g4] 25)).cell? ⟨w.heap.size, 2, none⟩ = some (.string x.f2) := (blk_cell HLB.out.bx 2).trans rfl
        have x3 : (w4.alloc (.cells #[.int .i64 x.f0, .string x.f1, .string x.f2, .slice G3 x.f3.length g3, .slice G4 x.f4.length g4] 25)).cell? ⟨w.heap.size, 3, none⟩ = some (.slice A3 x.f3.length c3) := (blk_cell HLB.out.bx 3).trans rfl
        have x4 : (w4.alloc (.cells #[.int .i64 x.f0, .string x.f1, .string x.f2, .slice G3 x.f3.length g3, .slice G4 x.f4.length g4] 25)).cell? ⟨w.heap.size, 4, none⟩ = some (.slice A4 x.f4.length c4) := (blk_cell HLB.out.bx 4).trans rfl
        go_wp2_with fail
        clear x0 x1 x2 x3 x4
        refine (same14 6 x x (TreeB.tree HTX.out.2).same (TreeB.tree HTX.out.2).size _ G3 G4 A3 A4 g3 g4 c3 c4 (HG.out.1.below (below_alloc (Below.refl _ _) _)) (H.out.2.below HLB.out.below)).mono ?_
        rintro e we ⟨rfl, hb⟩
        have HLE := Lib.hid (HLB.out.under hb)
        clear hb
        go_wp2_with fail
        exact bodyPost_ret (v := .bool true) (by simp [results, Tryz.results4, go_sem]) rfl ⟨rfl, HLE.out.below⟩
      | true =>
        have x0 : w2.cell? ⟨w.heap.size, 0, none⟩ = some (.int .i64 x.f0) := (blk_cell HL2.out.bx 0).trans rfl
        have x1 : w2.cell? ⟨w.heap.size, 1, none⟩ = some (.string x.f1) := (blk_cell HL2.out.bx 1).trans rfl
        have x2 : w2.cell? ⟨w.heap.size, 2, none⟩ = some (.string x.f2) := (blk_cell HL2.out.bx 2).trans rfl
        have x3 : w2.cell? ⟨w.heap.size, 3, none⟩ = some (.slice A3 x.f3.length c3) := (blk_cell HL2.out.bx 3).trans rfl
        have x4 : w2.cell? ⟨w.heap.size, 4, none⟩ = some (.slice A4 x.f4.length c4) := (blk_cell HL2.out.bx 4).trans rfl
        go_wp2_with fail
        clear x0 x1 x2 x3 x4
        refine (areClear9 6 x HTX.out.2 w2 A3 A4 c3 c4 (H.out.2.below HL2.out.below)).mono ?_
        rintro e w3 ⟨b3, rfl, hc3, hb⟩
        have HL3 := Lib.hid (HL2.out.under hb)
        have HC3 := Lib.hid hc3
        clear hb hc3
        cases b3 with
        | false =>
          go_wp2_with fail
          exact bodyPost_ret (v := .bool true) (by simp [results, Tryz.results4, go_sem]) rfl ⟨rfl, HL3.out.below⟩
        | true =>
          have HCL := Lib.hid (HC3.out rfl)
          have x0 : w3.cell? ⟨w.heap.size, 0, none⟩ = some (.int .i64 x.f0) := (blk_cell HL3.out.bx 0).trans rfl
          have x1 : w3.cell? ⟨w.heap.size, 1, none⟩ = some (.string x.f1) := (blk_cell HL3.out.bx 1).trans rfl
          have x2 : w3.cell? ⟨w.heap.size, 2, none⟩ = some (.string x.f2) := (blk_cell HL3.out.bx 2).trans rfl
          have x3 : w3.cell? ⟨w.heap.size, 3, none⟩ = some (.slice A3 x.f3.length c3) := (blk_cell HL3.out.bx 3).trans rfl
          have x4 : w3.cell? ⟨w.heap.size, 4, none⟩ = some (.slice A4 x.f4.length c4) := (blk_cell HL3.out.bx 4).trans rfl
          go_wp2_with fail
          clear x0 x1 x2 x3 x4
          refine (merge2_self true w3 x HTX.out.2 (fun _ => HCL.out) A3 A4 c3 c4 (H.out.2.below HL3.out.below)).mono ?_
          rintro e w4 ⟨ym, G3, g3, G4, g4, rfl, hye, hng, hb⟩
          have hye := hye.symm
          subst hye
          have HG := Lib.hid (And.intro hng hb)
          have HL4 := Lib.hid (HL3.out.under hb)
          clear hng hb
          have HLB := Lib.hid (HL4.out.under (below_alloc (Below.refl _ _) (.cells #[.int .i64 x.f0, .string x.f1, .string x.f2, .slice G3 x.f3.length g3, .slice G4 x.f4.length g4] 25)))
          have x0 : (w4.alloc (.cells #[.int .i64 x.f0, .string x.f1, .string x.f2, .slice G3 x.f3.length g3, .slice G4 x.f4.length g4] 25)).cell? ⟨w.heap.size, 0, none⟩ = some (.int .i64 x.f0) := (blk_cell HLB.out.bx 0).trans rfl
          have x1 : (w4.alloc (.cells #[.int .i64 x.f0, .string x.f1, .string x.f2, .slice G3 x.f3.length g3, .slice G4 x.f4.length g4] 25)).cell? ⟨w.heap.size, 1, none⟩ = some (.string x.f1) := (blk_cell HLB.out.bx 1).trans rfl
          have x2 : (w4.alloc (.cells #[.int .i64 x.f0, .string x.f1, .string x.f2, .slice G3 x.f3.length g3, .slice G4 x.f4.length g4] 25)).cell? ⟨w.heap.size, 2, none⟩ = some (.string x.f2) := (blk_cell HLB.out.bx 2).trans rfl
          have x3 : (w4.alloc (.cells #[.int .i64 x.f0, .string x.f1, .string x.f2, .slice G3 x.f3.length g3, .slice G4 x.f4.length g4] 25)).cell? ⟨w.heap.size, 3, none⟩ = some (.slice A3 x.f3.length c3) := (blk_cell HLB.out.bx 3).trans rfl
          have x4 : (w4.alloc (.cells #[.int .i64 x.f0, .string x.f1, .string x.f2, .slice G3 x.f3.length g3, .slice G4 x.f4.length g4] 25)).cell? ⟨w.heap.size, 4, none⟩ = some (.slice A4 x.f4.length c4) := (blk_cell HLB.out.bx 4).trans rfl
          go_wp2_with fail
          clear x0 x1 x2 x3 x4
          refine (same14 6 x x (TreeB.tree HTX.out.2).same (TreeB.tree HTX.out.2).size _ G3 G4 A3 A4 g3 g4 c3 c4 (HG.out.1.below (below_alloc (Below.refl _ _) _)) (H.out.2.below HLB.out.below)).mono ?_
          rintro e we ⟨rfl, hb⟩
          have HLE := Lib.hid (HLB.out.under hb)
          clear hb
          go_wp2_with fail
          exact bodyPost_ret (v := .bool true) (by simp [results, Tryz.results4, go_sem]) rfl ⟨rfl, HLE.out.below⟩
end Go.Proofs.YtghmajlfmoggfaaGreat
namespace Go.Proofs.YtghmajlfmoggfaaGreat
open Go.ChangeShapes Go.WideShapes Go.Deep Go.RowKit Go.Proofs.YtghmajlfmoggfaaGreatW.PrintWords Go.Proofs.YtghmajlfmoggfaaGreatW.PrintLast PFnMerge
section
variable {H : Type} {enc : TypeId × Value → H} {w : World} {base : Nat} {spare : Nat → Bool} {held : Bool}
theorem cells_get {a : Addr} {n : Nat} {cs : List Value} (h : w.cells? base a n = some cs) : cs.length = n ∧ ∀ i, i < n → w.cell? (a.add i) = cs[i]? := by
  unfold World.cells? at h
  split at h
  · refine ⟨by simpa using mapM_some_length h, fun i hi => ?_⟩
    exact mapM_some_get h i i (by simp [hi])
  · cases h
theorem add_add' (a : Addr) (m n : Nat) : (a.add m).add n = a.add (m + n) := by
  by_cases h1 : m = 0
  · subst h1; simp [Addr.add]
  · by_cases h2 : n = 0
    · subst h2; simp [Addr.add]
    · simp [Addr.add, h1, h2, Nat.add_assoc]
theorem open_keys {fuel : Nat} {v : Value} {x : DataW H × List MemPlace} (h : DataW.trod enc Tryz.prog w base spare held fuel 22 [v] = some x) :
    ∃ (l : List ByteArray) (A : Option Addr) (c : Nat), v = .slice A l.length c ∧ l.length ≤ c ∧ Kd.C Kd.string w A l.length l ∧ ∀ k ∈ l, k.size ≤ 9223372036854775807 := by
  rcases open_strs Tryz.underlying22 Tryz.underlying9 (by kernel_rfl) h with ⟨hv, _⟩ | ⟨a, len, cap, m, Sx, hv, _, hl, hm, hmm, _, hx⟩
  · injection hv with hv _
    subst hv
    exact ⟨[], none, 0, rfl, Nat.le_refl _, Kd.C_nil _ _, fun k hk => by cases hk⟩
  · injection hv with hv _
    subst hv
    have hlm : len ≤ m := by rw [hmm]; split <;> omega
    have hmx : maxLen = 9223372036854775807 := rfl
    refine ⟨(List.range len).map Sx, some a, cap, by simp, by simpa using hl, ⟨rfl, by simp; omega, fun _ => ⟨a, rfl, fun j p hj => ?_⟩⟩, fun k hk => ?_⟩
    · obtain ⟨hj1, rfl⟩ : j < len ∧ Sx j = p := by
        have hlt := (List.getElem?_eq_some_iff.1 hj).1
        simp only [List.length_map, List.length_range] at hlt
        rw [List.getElem?_map, List.getElem?_eq_getElem (by simpa using hlt)] at hj
        simp only [List.getElem_range, Option.map_some, Option.some.injEq] at hj
        exact ⟨hlt, hj⟩
      refine ⟨[.string (Sx j)], rfl, rfl, fun i u hu => ?_⟩
      match i, hu with
      | 0, hu =>
        simp only [List.getElem?_cons_zero, Option.some.injEq] at hu
        subst hu
        have := (hx j (by omega)).1
        have es : Kd.string.sz = 1 := rfl
        rw [es, Nat.mul_one, Nat.add_zero]
        exact this
    · obtain ⟨j, hj, rfl⟩ := List.mem_map.1 hk
      have := (hx j (by have := List.mem_range.1 hj; omega)).2
      omega
theorem open_items {n : Nat} (ih : ∀ m, m < n → ∀ {cs : List Value} {x : DataW H × List MemPlace}, DataW.trod enc Tryz.prog w base spare held m 25 cs = some x → ∃ (y : S25) (A3 : Option Addr) (c3 : Nat) (A4 : Option Addr) (c4 : Nat), cs = [.int .i64 y.f0, .string y.f1, .string y.f2, .slice A3 y.f3.length c3, .slice A4 y.f4.length c4] ∧ NdR w y A3 c3 A4 c4 ∧ Bnd y)
    {fuel : Nat} (hf : fuel ≤ n) {v : Value} {x : DataW H × List MemPlace} (h : DataW.trod enc Tryz.prog w base spare held fuel 23 [v] = some x) :
    ∃ (l : List S25) (A : Option Addr) (c : Nat), v = .slice A l.length c ∧ l.length ≤ c ∧ Kd.C k25 w A l.length l ∧ ∀ z ∈ l, Bnd z := by
  have hc5 : Tryz.prog.cellsOf 25 = 5 := by kernel_rfl
  rcases DataW.trod_slice Tryz.underlying23 h with ⟨hv, _⟩ | ⟨a, len, cap, elems, rest, m, hfm, hv, _, _, hl, hm, hlen, hel, _, _⟩
  · injection hv with hv _
    subst hv
    exact ⟨[], none, 0, rfl, Nat.le_refl _, Kd.C_nil _ _, fun k hk => by cases hk⟩
  · injection hv with hv _
    subst hv
    haveI : Inhabited S25 := ⟨z25⟩
    have each : ∀ i, i < len → ∃ y : S25, Bnd y ∧ ∃ (A3 : Option Addr) (c3 : Nat) (A4 : Option Addr) (c4 : Nat), NdR w y A3 c3 A4 c4 ∧ ∀ j, j < 5 → w.cell? (a.add (i * 5 + j)) = [Value.int .i64 y.f0, .string y.f1, .string y.f2, .slice A3 y.f3.length c3, .slice A4 y.f4.length c4][j]? := by
      intro i hi
      have hb := hel i hi
      rw [List.getElem?_eq_getElem (by omega), Option.bind_eq_some_iff, hc5] at hb
      obtain ⟨cs', h1, h2⟩ := hb
      obtain ⟨y, A3, c3, A4, c4, rfl, h3, h4⟩ := ih m (by omega) h2
      refine ⟨y, h4, A3, c3, A4, c4, h3, fun j hj => ?_⟩
      have := (cells_get h1).2 j hj
      rwa [add_add'] at this
    obtain ⟨Y, hY⟩ := choose_lt each
    have hmx : maxLen = 9223372036854775807 := rfl
    refine ⟨(List.range len).map Y, some a, cap, by simp, by simpa using hl, ⟨rfl, by simp; omega, fun _ => ⟨a, rfl, fun j p hj => ?_⟩⟩, fun k hk => ?_⟩
    · obtain ⟨hj1, rfl⟩ : j < len ∧ Y j = p := by
        have hlt := (List.getElem?_eq_some_iff.1 hj).1
        simp only [List.length_map, List.length_range] at hlt
        rw [List.getElem?_map, List.getElem?_eq_getElem (by simpa using hlt)] at hj
        simp only [List.getElem_range, Option.map_some, Option.some.injEq] at hj
        exact ⟨hlt, hj⟩
      obtain ⟨_, A3, c3, A4, c4, h3, h4⟩ := hY j hj1
      refine ⟨[.int .i64 (Y j).f0, .string (Y j).f1, .string (Y j).f2, .slice A3 (Y j).f3.length c3, .slice A4 (Y j).f4.length c4], rfl, k25_mk w (Y j) h3.kcap h3.keys h3.icap h3.items, fun i u hu => ?_⟩
      have es : k25.sz = 5 := rfl
      rw [es, h4 i (by have := (List.getElem?_eq_some_iff.1 hu).1; simpa using this)]
      exact hu
    · obtain ⟨j, hj, rfl⟩ := List.mem_map.1 hk
      exact (hY j (by simpa using hj)).1
set_option maxRecDepth 20000 in
theorem open25 : ∀ (n : Nat) {cs : List Value} {x : DataW H × List MemPlace}, DataW.trod enc Tryz.prog w base spare held n 25 cs = some x → ∃ (y : S25) (A3 : Option Addr) (c3 : Nat) (A4 : Option Addr) (c4 : Nat), cs = [.int .i64 y.f0, .string y.f1, .string y.f2, .slice A3 y.f3.length c3, .slice A4 y.f4.length c4] ∧ NdR w y A3 c3 A4 c4 ∧ Bnd y := by
  intro n
  induction n using Nat.strongRecOn with
  | _ n ih =>
    intro cs x h
    have hc5 : Tryz.prog.cellsOf 25 = 5 := by kernel_rfl
    have e3 : Tryz.prog.cellsOf 3 = 1 := by kernel_rfl
    have e9 : Tryz.prog.cellsOf 9 = 1 := by kernel_rfl
    have e22 : Tryz.prog.cellsOf 22 = 1 := by kernel_rfl
    have e23 : Tryz.prog.cellsOf 23 = 1 := by kernel_rfl
    obtain ⟨xs, m, hnm, _, hl, hlen, hf⟩ := DataW.trod_struct Tryz.underlying25 h
    rw [hc5] at hl
    have hlen5 : xs.length = 5 := hlen
    match xs, hlen5 with
    | [x0, x1, x2, x3, x4], _ =>
      match cs, hl with
      | [v0, v1, v2, v3, v4], _ =>
        have h0 : DataW.trod enc Tryz.prog w base spare held m 3 [v0] = some x0 := by have := (show DataW.trod enc Tryz.prog w base spare held m 3 (([v0, v1, v2, v3, v4].drop 0).take (Tryz.prog.cellsOf 3)) = some x0 from hf 0 _ rfl); rw [e3] at this; exact this
        have h1 : DataW.trod enc Tryz.prog w base spare held m 9 [v1] = some x1 := by have := (show DataW.trod enc Tryz.prog w base spare held m 9 (([v0, v1, v2, v3, v4].drop 1).take (Tryz.prog.cellsOf 9)) = some x1 from hf 1 _ rfl); rw [e9] at this; exact this
        have h2 : DataW.trod enc Tryz.prog w base spare held m 9 [v2] = some x2 := by have := (show DataW.trod enc Tryz.prog w base spare held m 9 (([v0, v1, v2, v3, v4].drop 2).take (Tryz.prog.cellsOf 9)) = some x2 from hf 2 _ rfl); rw [e9] at this; exact this
        have h3 : DataW.trod enc Tryz.prog w base spare held m 22 [v3] = some x3 := by have := (show DataW.trod enc Tryz.prog w base spare held m 22 (([v0, v1, v2, v3, v4].drop 3).take (Tryz.prog.cellsOf 22)) = some x3 from hf 3 _ rfl); rw [e22] at this; exact this
        have h4 : DataW.trod enc Tryz.prog w base spare held m 23 [v4] = some x4 := by have := (show DataW.trod enc Tryz.prog w base spare held m 23 (([v0, v1, v2, v3, v4].drop 4).take (Tryz.prog.cellsOf 23)) = some x4 from hf 4 _ rfl); rw [e23] at this; exact this
        obtain ⟨k, hk, _, _⟩ := DataW.trod_int Tryz.underlying3 h0
        obtain ⟨s1, hs1, _, hb1⟩ := DataW.trod_string Tryz.underlying9 h1
        obtain ⟨s2, hs2, _, hb2⟩ := DataW.trod_string Tryz.underlying9 h2
        obtain ⟨l3, A3, c3, rfl, g3, g3', g3''⟩ := open_keys h3
        obtain ⟨l4, A4, c4, rfl, g4, g4', g4''⟩ := open_items (n := n) (fun m hm => @ih m hm) (by omega) h4
        injection hk with hk _
        injection hs1 with hs1 _
        injection hs2 with hs2 _
        subst hk; subst hs1; subst hs2
        have hmx : maxLen = 9223372036854775807 := rfl
        exact ⟨⟨k, s1, s2, l3, l4⟩, A3, c3, A4, c4, rfl, ⟨g3', g3, g4', g4⟩, .mk _ (by show s1.size ≤ _; omega) (by show s2.size ≤ _; omega) g3'' g4''⟩
end
end Go.Proofs.YtghmajlfmoggfaaGreat
