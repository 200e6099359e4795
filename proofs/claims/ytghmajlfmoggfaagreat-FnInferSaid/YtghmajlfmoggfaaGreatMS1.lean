import Derived.Test.YtghmajlfmoggfaaGreatMA
import Derived.Test.YtghmajlfmoggfaaGreatMX4
set_option linter.unusedSimpArgs false
set_option linter.unusedVariables false
namespace Go.Proofs.YtghmajlfmoggfaaGreat
open Go.RowKit Go.Proofs.YtghmajlfmoggfaaGreatW.PrintWords Go.Proofs.YtghmajlfmoggfaaGreatW.PrintLast PFnMerge
abbrev zeroV : Value := .agg #[.int .i64 0, .string noStr, .string noStr, nilS, nilS]
set_option maxRecDepth 20000 in
set_option maxHeartbeats 4000000 in
theorem field20 (w : World) (x : S25) (name : ByteArray) (A3 A4 : Option Addr) (c3 c4 : Nat) (h : NdR w x A3 c3 A4 c4) (hlen : x.f0 = 2 → x.f3.length ≤ x.f4.length) :
  Calls Tryz.prog 20 #[ndV x A3 c3 A4 c4, .string name] w fun e w' => Below w.heap.size w w' ∧
   ((∃ y B3 d3 B4 d4, e = .returned (.tuple #[ndV y B3 d3 B4 d4, .bool true]) ∧ x.f0 = 2 ∧ (∃ i : Nat, x.f3[i]? = some name ∧ x.f4[i]? = some y) ∧ NdR w' y B3 d3 B4 d4) ∨
    e = .returned (.tuple #[zeroV, .bool false]) ∧ ¬ (x.f0 = 2 ∧ name ∈ x.f3)) := by
 obtain ⟨k, r, hk, hr⟩ := place_some x.f3 name h.klen
 have hb0 := below_alloc (below_alloc (Below.refl w.heap.size w) (.cells #[.int .i64 x.f0, .string x.f1, .string x.f2, .slice A3 x.f3.length c3, .slice A4 x.f4.length c4] 25)) (.cells #[.int .i64 0, .string noStr, .string noStr, nilS, nilS] 25)
 have HB := Lib.hid hb0
 have H := Lib.hid h
 have HL := Lib.hid hlen
 have HK := Lib.hid hk
 have HR := Lib.hid hr
 clear hb0 h hlen hk hr
 obtain ⟨f0, f1, f2, f3, f4⟩ := x
 go_enter Tryz.func20, Tryz.ntmps20
 go_wp2_with fail
 refine (spec_Place.calls k A3 c3 f3 name r _ (Kd.C_below H.out.keys HB.out) H.out.kcap HK.out).mono ?_
 rintro e w' ⟨rfl, nd, rfl⟩
 have HRB := Lib.hid (show ((((w.alloc (.cells #[.int .i64 f0, .string f1, .string f2, .slice A3 f3.length c3, .slice A4 f4.length c4] 25)).alloc (.cells #[.int .i64 0, .string noStr, .string noStr, nilS, nilS] 25))).drewN nd).heap[w.heap.size + 1]? = some (.cells #[.int .i64 0, .string noStr, .string noStr, nilS, nilS] 25 (0, 0)) from blk_drewN (blk_new (by simp) _))
 have HBN := Lib.hid (pw_below_drewN HB.out nd)
 by_cases hf : f0 = 2
 ·subst hf
  rcases HR.out with ⟨rfl, hno⟩ | ⟨i, rfl, hi, hfi⟩
  ·have HNO := Lib.hid hno
   clear hno
   go_wp2_with fail
   refine bodyPost_ret (results_ct rfl _ _ (w.heap.size + 1) 25 #[.int .i64 0, .string noStr, .string noStr, nilS, nilS] (0, 0) _ rfl ?_ Tryz.underlying25 rfl (by kernel_rfl)) rfl ?_
   ·exact put5_blk HRB.out _ _ _ _ _
   ·exact ⟨put5_below HBN.out (Nat.le_succ _) _ _ _ _ _, .inr ⟨rfl, by simpa using HNO.out⟩⟩
  ·have hfl := HL.out rfl
   have hi4 : i < f4.length := by omega
   obtain ⟨y, hy⟩ : ∃ y, f4[i]? = some y := ⟨_, List.getElem?_eq_getElem hi4⟩
   obtain ⟨ad4, B3, d3, B4, d4, rfl, y0, y1, y2, y3, y4, z1, z2, z3, z4⟩ := nd_at H.out.items i y hi4 hy
   have HY := Lib.hid (And.intro hfi (And.intro hy (show NdR w y B3 d3 B4 d4 from ⟨z2, z1, z4, z3⟩)))
   have y0' := (HBN.out.cell (World.block_lt_of_cell? w _ y0)).trans y0
   have y1' := (HBN.out.cell (World.block_lt_of_cell? w _ y1)).trans y1
   have y2' := (HBN.out.cell (World.block_lt_of_cell? w _ y2)).trans y2
   have y3' := (HBN.out.cell (World.block_lt_of_cell? w _ y3)).trans y3
   have y4' := (HBN.out.cell (World.block_lt_of_cell? w _ y4)).trans y4
   clear y0 y1 y2 y3 y4 z1 z2 z3 z4 hfi hy
   go_wp2_with fail
   refine bodyPost_ret (results_ct rfl _ _ (w.heap.size + 1) 25 #[.int .i64 y.f0, .string y.f1, .string y.f2, .slice B3 y.f3.length d3, .slice B4 y.f4.length d4] (0, 0) _ rfl ?_ Tryz.underlying25 rfl (by kernel_rfl)) rfl ?_
   ·exact put5_blk HRB.out _ _ _ _ _
   ·have hbl := put5_below (g := w.heap.size + 1) HBN.out (Nat.le_succ _) (.int .i64 y.f0) (.string y.f1) (.string y.f2) (.slice B3 y.f3.length d3) (.slice B4 y.f4.length d4)
    exact ⟨hbl, .inl ⟨y, B3, d3, B4, d4, rfl, by first | exact ⟨⟨i, HY.out.1, HY.out.2.1⟩, HY.out.2.2.below hbl⟩ | exact ⟨rfl, ⟨i, HY.out.1, HY.out.2.1⟩, HY.out.2.2.below hbl⟩⟩⟩
 ·have hb : (f0 == 2) = false := beq_false_of_ne hf
  have HF := Lib.hid hf
  clear hf
  go_wp2_with fail
  refine bodyPost_ret (results_ct rfl _ _ (w.heap.size + 1) 25 #[.int .i64 0, .string noStr, .string noStr, nilS, nilS] (0, 0) _ rfl ?_ Tryz.underlying25 rfl (by kernel_rfl)) rfl ?_
  ·exact put5_blk HRB.out _ _ _ _ _
  ·exact ⟨put5_below HBN.out (Nat.le_succ _) _ _ _ _ _, .inr ⟨rfl, fun h => HF.out h.1⟩⟩
def TreeP : Nat → S25 → Prop
 | 0, _ => False
 | d + 1, x => (x.f0 = 1 ∧ x.f3 = [] ∧ x.f4 = [] ∧ ScalP x.f1 x.f2) ∨
  (x.f0 = 2 ∧ x.f1 = noStr ∧ x.f2 = noStr ∧ x.f3.length = x.f4.length ∧ x.f3.Nodup ∧ (∀ k ∈ x.f3, WordP k) ∧ x.f4 ≠ [] ∧ ∀ z ∈ x.f4, TreeP d z) ∨
  (x.f0 = 3 ∧ x.f1 = noStr ∧ x.f2 = noStr ∧ x.f3 = [] ∧ x.f4 ≠ [] ∧ ∀ z ∈ x.f4, TreeP d z)
def nodesN : Nat → S25 → Nat
 | 0, _ => 0
 | d + 1, x => 1 + (x.f4.map (nodesN d)).sum
structure NdF (w : World) (base : Nat) (x : S25) (A3 : Option Addr) (c3 : Nat) (A4 : Option Addr) (c4 : Nat) : Prop where
 keys : Kd.F Kd.string w (fun k => k < base) A3 x.f3.length x.f3
 kcap : x.f3.length ≤ c3
 items : Kd.F k25 w (fun k => k < base) A4 x.f4.length x.f4
 icap : x.f4.length ≤ c4
section
variable {w w' : World} {base : Nat} {x : S25} {A3 A4 : Option Addr} {c3 c4 : Nat}
theorem NdF.now (h : NdF w base x A3 c3 A4 c4) : NdR w x A3 c3 A4 c4 := ⟨Kd.F_now h.keys, h.kcap, Kd.F_now h.items, h.icap⟩
theorem NdF.keep (h : NdF w base x A3 c3 A4 c4) {T : Nat → Prop} (hk : Keep T w w') (ht : ∀ k, T k → base ≤ k) : NdF w' base x A3 c3 A4 c4 :=
 ⟨Kd.F_step h.keys fun k h1 h2 => hk.block k h2 fun e => by have := ht k e; omega, h.kcap, Kd.F_step h.items fun k h1 h2 => hk.block k h2 fun e => by have := ht k e; omega, h.icap⟩
theorem NdF.below (h : NdF w base x A3 c3 A4 c4) (hb : Below w.heap.size w w') : NdF w' base x A3 c3 A4 c4 := h.keep (Keep.of_below hb fun _ => False) fun _ h => h.elim
theorem NdR.frame (h : NdR w x A3 c3 A4 c4) : NdF w w.heap.size x A3 c3 A4 c4 := ⟨Kd.C_F Kd.heap_string h.keys, h.kcap, Kd.C_F k25_heap h.items, h.icap⟩
theorem NdF.item (h : NdF w base x A3 c3 A4 c4) (j : Nat) (y : S25) (hk : x.f4[j]? = some y) : ∃ ad B3 d3 B4 d4, A4 = some ad ∧ w.cell? (ad.add (j * 5)) = some (.int .i64 y.f0) ∧ w.cell? ⟨(ad.add (j * 5)).block, (ad.add (j * 5)).off + 1, none⟩ = some (.string y.f1) ∧ w.cell? ⟨(ad.add (j * 5)).block, (ad.add (j * 5)).off + 2, none⟩ = some (.string y.f2) ∧
  w.cell? ⟨(ad.add (j * 5)).block, (ad.add (j * 5)).off + 3, none⟩ = some (.slice B3 y.f3.length d3) ∧ w.cell? ⟨(ad.add (j * 5)).block, (ad.add (j * 5)).off + 4, none⟩ = some (.slice B4 y.f4.length d4) ∧ NdF w base y B3 d3 B4 d4 := by
 have hj : j < x.f4.length := (List.getElem?_eq_some_iff.1 hk).1
 obtain ⟨ad, B3, d3, B4, d4, e1, y0, y1, y2, y3, y4, z1, z2, z3, z4⟩ := nd_at (Kd.F_now h.items) j y hj hk
 subst e1
 obtain ⟨ad', c, he, hcl, hFK, hcc, _⟩ := Kd.F_get h.items z25 (j : Int) (by omega) (by omega)
 injection he with he
 subst he
 have e : x.f4.getD (j : Int).toNat z25 = y := by simp [List.getD, hk]
 rw [e] at hFK
 obtain ⟨B3', d3', B4', d4', rfl, l3, F3, l4, F4⟩ := k25_openF hFK
 have g3 := hcc 3 _ rfl
 have g4 := hcc 4 _ rfl
 have es : k25.sz = 5 := rfl
 simp only [Int.toNat_natCast, es] at g3 g4
 have q3 : w.cell? (ad.add (j * 5 + 3)) = some (.slice B3 y.f3.length d3) := by rw [add_field _ _ 3 (by omega)]; exact y3
 have q4 : w.cell? (ad.add (j * 5 + 4)) = some (.slice B4 y.f4.length d4) := by rw [add_field _ _ 4 (by omega)]; exact y4
 rw [q3] at g3
 rw [q4] at g4
 injection g3 with g3
 injection g4 with g4
 injection g3 with g3 _ g3'
 injection g4 with g4 _ g4'
 subst g3; subst g4; subst g3'; subst g4'
 exact ⟨ad, _, _, _, _, rfl, y0, y1, y2, y3, y4, ⟨F3, l3, F4, l4⟩⟩
end
theorem nodes_take {d : Nat} {l : List S25} {j : Nat} {y : S25} (h : l[j]? = some y) : ((l.take (j + 1)).map (nodesN d)).sum = ((l.take j).map (nodesN d)).sum + nodesN d y := by
 rw [List.take_add_one, h]
 simp
theorem empty_eq {s : ByteArray} (h : s.toList.isEmpty = true) : s = noStr := by
 refine toList_inj ?_
 rw [List.isEmpty_iff.1 h, ByteArray.toList_eq]
theorem take_succ {α : Type} {l : List α} {j : Nat} {y : α} (h : l[j]? = some y) : l.take (j + 1) = l.take j ++ [y] := by rw [List.take_add_one, h]; rfl
def CountQ (d : Nat) (x : S25) (n nb : Nat) (w : World) (e : Ending) (w' : World) : Prop := ∃ (b : Bool) (m : Nat), e = .returned (.bool b) ∧ w'.heap[nb]? = some (.cells #[.int .i64 (m : Int)] 3 (0, 0)) ∧ m ≤ 61 ∧ (b = true → TreeP d x ∧ m = n + nodesN d x ∧ m ≤ 60) ∧ Keep (fun k => k = nb) w w'
theorem CountQ.no {d : Nat} {x : S25} {n nb m : Nat} {w w' : World} (h : w'.heap[nb]? = some (.cells #[.int .i64 (m : Int)] 3 (0, 0))) (hm : m ≤ 61) (hk : Keep (fun k => k = nb) w w') : CountQ d x n nb w (.returned (.bool false)) w' := ⟨false, m, rfl, h, hm, by simp, hk⟩
def CountC (d : Nat) : Prop := ∀ (x : S25), Bnd x → ∀ (w : World) (base : Nat) (A3 : Option Addr) (c3 : Nat) (A4 : Option Addr) (c4 : Nat), NdF w base x A3 c3 A4 c4 → ∀ (nb n : Nat), base ≤ nb → w.heap[nb]? = some (.cells #[.int .i64 (n : Int)] 3 (0, 0)) → n ≤ 60 → ∀ dp : Int, dp = 7 - (d : Int) → d ≤ 6 →
 Calls Tryz.prog 23 #[ndV x A3 c3 A4 c4, .int .i64 dp, .pointer (some ⟨nb, 0, none⟩)] w fun e w' => CountQ d x n nb w e w'
set_option maxRecDepth 20000 in
set_option maxHeartbeats 8000000 in
theorem count23 : ∀ d, CountC d := by
 intro d
 induction d with
 | zero =>
  intro x hbd w base A3 c3 A4 c4 h nb n hnb hbx hn dp hdp _
  obtain ⟨f0, f1, f2, f3, f4⟩ := x
  have hdp7 : dp = 7 := by omega
  subst hdp7
  have hbx1 := blk_old (.cells #[.int .i64 f0, .string f1, .string f2, .slice A3 f3.length c3, .slice A4 f4.length c4] 25) hbx
  have n0 : (w.alloc (.cells #[.int .i64 f0, .string f1, .string f2, .slice A3 f3.length c3, .slice A4 f4.length c4] 25)).cell? ⟨nb, 0, none⟩ = some (.int .i64 (n : Int)) := (blk_cell hbx1 0).trans rfl
  have z0 := blk_frozen hbx1 0
  have hw1 : wrap64 ((n : Int) + 1) = (n : Int) + 1 := wr _ (by omega) (by omega)
  have HX := Lib.hid hbx1
  have HKP := Lib.hid (show Keep (fun k => k = nb) w ((w.alloc (.cells #[.int .i64 f0, .string f1, .string f2, .slice A3 f3.length c3, .slice A4 f4.length c4] 25)).setCell ⟨nb, 0, none⟩ (.int .i64 ((n : Int) + 1))) from (Keep.alloc (Keep.refl _ w) _).setCell _ _ fun _ => rfl)
  clear h hbx hbx1 hdp hbd
  go_enter Tryz.func23, Tryz.ntmps23
  go_wp2_with fail
  exact bodyPost_ret (v := .bool false) (by simp [results, Tryz.results23, go_sem]) rfl (CountQ.no (m := n + 1) ((blk_set HX.out 0 _).trans rfl) (by omega) HKP.out)
 | succ d ih =>
  intro x hbd w base A3 c3 A4 c4 h nb n hnb hbx hn dp hdp hd6
  obtain ⟨f0, f1, f2, f3, f4⟩ := x
  obtain ⟨L3, hL3⟩ : ∃ L3, L3 = f3.length := ⟨_, rfl⟩
  obtain ⟨L4, hL4⟩ : ∃ L4, L4 = f4.length := ⟨_, rfl⟩
  have hargs : ndV ⟨f0, f1, f2, f3, f4⟩ A3 c3 A4 c4 = .agg #[.int .i64 f0, .string f1, .string f2, .slice A3 L3 c3, .slice A4 L4 c4] := by rw [hL3, hL4]
  rw [hargs]
  clear hargs
  have hbx1 := blk_old (.cells #[.int .i64 f0, .string f1, .string f2, .slice A3 L3 c3, .slice A4 L4 c4] 25) hbx
  have n0 : (w.alloc (.cells #[.int .i64 f0, .string f1, .string f2, .slice A3 L3 c3, .slice A4 L4 c4] 25)).cell? ⟨nb, 0, none⟩ = some (.int .i64 (n : Int)) := (blk_cell hbx1 0).trans rfl
  have z0 := blk_frozen hbx1 0
  have hlt := lt_of_block hbx
  have hw1 : wrap64 ((n : Int) + 1) = (n : Int) + 1 := wr _ (by omega) (by omega)
  have hdw : wrap64 (dp + 1) = dp + 1 := wr _ (by omega) (by omega)
  have hkp : Keep (fun k => k = nb) w ((w.alloc (.cells #[.int .i64 f0, .string f1, .string f2, .slice A3 L3 c3, .slice A4 L4 c4] 25)).setCell ⟨nb, 0, none⟩ (.int .i64 ((n : Int) + 1))) := (Keep.alloc (Keep.refl _ w) _).setCell _ _ fun _ => rfl
  have hbox : ((w.alloc (.cells #[.int .i64 f0, .string f1, .string f2, .slice A3 L3 c3, .slice A4 L4 c4] 25)).setCell ⟨nb, 0, none⟩ (.int .i64 ((n : Int) + 1))).heap[w.heap.size]? = some (.cells #[.int .i64 f0, .string f1, .string f2, .slice A3 L3 c3, .slice A4 L4 c4] 25 (0, 0)) := blk_else _ (by show w.heap.size ≠ nb; omega) (blk_new rfl _)
  have hnx : ((w.alloc (.cells #[.int .i64 f0, .string f1, .string f2, .slice A3 L3 c3, .slice A4 L4 c4] 25)).setCell ⟨nb, 0, none⟩ (.int .i64 ((n : Int) + 1))).heap[nb]? = some (.cells #[.int .i64 ((n + 1 : Nat) : Int)] 3 (0, 0)) := (blk_set hbx1 0 _).trans rfl
  obtain ⟨b0, b1, b2, b3, b4⟩ := cl5 hbox
  have b5 : ((w.alloc (.cells #[.int .i64 f0, .string f1, .string f2, .slice A3 L3 c3, .slice A4 L4 c4] 25)).setCell ⟨nb, 0, none⟩ (.int .i64 ((n : Int) + 1))).cell? ⟨nb, 0, none⟩ = some (.int .i64 ((n : Int) + 1)) := (blk_cell hnx 0).trans rfl
  have HS := Lib.hid (And.intro hkp (And.intro hbox (And.intro hnx (h.keep hkp fun k e => e ▸ hnb))))
  have HB := Lib.hid (And.intro hbd (And.intro hdp (And.intro hd6 (And.intro hlt hnb))))
  have HI := Lib.hid ih
  have HL := Lib.hid (And.intro hL3 hL4)
  have hdp6 : ¬ (6 < dp) := by omega
  clear h hbx hbx1 hbd hdp ih hkp hbox hnx hd6 hlt hnb hL3 hL4
  by_cases hn60 : (60 : Int) < (n : Int) + 1
  ·go_enter Tryz.func23, Tryz.ntmps23
   go_wp2_with fail
   exact bodyPost_ret (v := .bool false) (by simp [results, Tryz.results23, go_sem]) rfl (CountQ.no (m := n + 1) HS.out.2.2.1 (by omega) HS.out.1)
  ·by_cases h1 : f0 = 1
   ·subst h1
    obtain ⟨k, r, hk, hr⟩ := scalar_some 1 f1 f2 f3 f4 HB.out.1.text
    have HK := Lib.hid (And.intro hk hr)
    clear hk hr
    go_enter Tryz.func23, Tryz.ntmps23
    go_wp2_with fail
    obtain ⟨W, hW⟩ : ∃ W, W = ((w.alloc (.cells #[.int .i64 1, .string f1, .string f2, .slice A3 L3 c3, .slice A4 L4 c4] 25)).setCell ⟨nb, 0, none⟩ (.int .i64 ((n : Int) + 1))) := ⟨_, rfl⟩
    rw [← hW] at HS b0 b1 b2 b3 b4 b5
    rw [← hW]
    clear hW b0 b1 b2 b3 b4 b5 n0
    skip
    have hcall := spec_isScalar.calls k 1 f1 f2 A3 c3 f3 A4 c4 f4 r W HS.out.2.2.2.now.keys HS.out.2.2.2.now.kcap HS.out.2.2.2.now.items HS.out.2.2.2.now.icap HK.out.1
    rw [← HL.out.1, ← HL.out.2] at hcall
    refine hcall.mono ?_
    rintro e w' ⟨rfl, hbl⟩
    have HBL := Lib.hid hbl
    clear hbl hcall
    go_wp2_with fail
    refine bodyPost_ret (v := .bool r) (by simp [results, Tryz.results23, go_sem]) rfl ⟨r, n + 1, rfl, (HBL.out.block _ (lt_of_block HS.out.2.2.1)).trans HS.out.2.2.1, by omega, fun h => ?_, HS.out.1.then HBL.out⟩
    obtain ⟨e3, e4, hs⟩ := HK.out.2 h
    exact ⟨.inl ⟨rfl, e3, e4, hs⟩, by simp [nodesN, e4], by omega⟩
   ·by_cases h2 : f0 = 2
    ·subst h2
     clear h1
     by_cases hl : L3 = L4
     ·subst hl
      obtain ⟨L, hLL⟩ : ∃ L, L = L3 := ⟨_, rfl⟩
      subst hLL
      cases e1 : f1.toList.isEmpty with
      | true =>
       obtain rfl := empty_eq e1
       clear e1
       cases e2 : f2.toList.isEmpty with
       | true =>
        obtain rfl := empty_eq e2
        clear e2
        go_enter Tryz.func23, Tryz.ntmps23
        go_wp2_with fail
        obtain ⟨W, hW⟩ : ∃ W, W = ((w.alloc (.cells #[.int .i64 2, .string noStr, .string noStr, .slice A3 L c3, .slice A4 L c4] 25)).setCell ⟨nb, 0, none⟩ (.int .i64 ((n : Int) + 1))) := ⟨_, rfl⟩
        rw [← hW] at HS b0 b1 b2 b3 b4 b5
        rw [← hW]
        clear hW b0 b1 b2 b3 b4 b5 n0
        have hNb : (L : Int) ≤ 9223372036854775807 := by have h1 := HS.out.2.2.2.now.ilen; have h2 := HL.out.2; simp only at h1; omega
        have HW0 := Lib.hid (show Keep (fun k => k = nb) W W ∧ W.heap[nb]? = some (.cells #[.int .i64 ((n + 1 : Nat) : Int)] 3 (0, 0)) from ⟨Keep.refl _ _, HS.out.2.2.1⟩)
        go_loopg [53] L (fun k i wr => ∃ j : Nat, j + k = L ∧ i = .int .i64 (j : Int) ∧ Hid (∃ nd, wr = W.drewN nd ∧ (f3.take j).Nodup ∧ ∀ k ∈ f3.take j, WordP k))
        case atStart => exact ⟨0, by omega, rfl, Lib.hid ⟨0, rfl, by simp, by simp⟩⟩
        case round =>
         obtain ⟨j, hj, rfl, hI⟩ := hrel
         obtain ⟨nd, rfl, hdup, hwd⟩ := hI.out
         have HJ := Lib.hid (And.intro hdup hwd)
         clear hdup hwd
         by_cases hlt : 1 ≤ gk
         ·have hj2 : (j : Int) < (L : Int) := by omega
          have hj3 : j < L := by omega
          have hjl : j < f3.length := by have := HL.out.1; omega
          obtain ⟨key, hkey⟩ : ∃ key, f3[j]? = some key := ⟨_, List.getElem?_eq_getElem hjl⟩
          have hcap : L ≤ c3 := by have := HS.out.2.2.2.kcap; have := HL.out.1; simp only at *; omega
          have hcap2 : (j : Int) ≤ (c3 : Int) := by omega
          have hcap3 : j ≤ c3 := by omega
          obtain ⟨ad3, rfl, x3⟩ := str_at (HS.out.2.2.2.now.keys) j key hjl hkey
          have x3' : (W.drewN nd).cell? (ad3.add j) = some (.string key) := x3
          obtain ⟨k1, r1, hk1, hr1⟩ := word_some key (HB.out.1.key key (List.mem_of_getElem? hkey))
          have htl : (f3.take j).length = j := by rw [List.length_take]; omega
          obtain ⟨k2, r2, hk2, hr2⟩ := place_some (f3.take j) key (by have := HS.out.2.2.2.now.klen; simp only at this; omega)
          have q3 : (W.drewN nd).cell? ⟨w.heap.size, 3, none⟩ = some (.slice (some ad3) L c3) := (blk_cell (blk_drewN (m := nd) HS.out.2.1) 3).trans rfl
          have HK := Lib.hid (And.intro hkey (And.intro hk1 (And.intro hr1 (And.intro hk2 (And.intro hr2 htl)))))
          clear hjl hkey hk1 hr1 hk2 hr2 htl x3
          go_wp2_with fail
          refine (spec_IsWord.calls k1 key r1 _ HK.out.2.1).mono ?_
          rintro e w' ⟨rfl, nd1, rfl⟩
          have q3' : (W.drewN (nd + nd1)).cell? ⟨w.heap.size, 3, none⟩ = some (.slice (some ad3) L c3) := q3
          cases r1 with
          | false =>
           go_wp2_with fail
           exact bodyPost_ret (v := .bool false) (by simp [results, Tryz.results23, go_sem]) rfl (CountQ.no (m := n + 1) (blk_drewN (m := nd + nd1) HS.out.2.2.1) (by omega) (HS.out.1.drewN (nd + nd1)))
          | true =>
           go_wp2_with fail
           have hcall := spec_Place.calls k2 (some ad3) c3 (f3.take j) key r2 (W.drewN (nd + nd1)) (Kd.C_drewN (Kd.C_take HS.out.2.2.2.now.keys (by have := HK.out.2.2.2.2.2; rw [List.length_take] at this; simp only; omega)) (nd + nd1)) (by have := HK.out.2.2.2.2.2; omega) HK.out.2.2.2.1
           rw [HK.out.2.2.2.2.2] at hcall
           refine hcall.mono ?_
           rintro e w' ⟨rfl, nd2, rfl⟩
           clear hcall
           rcases HK.out.2.2.2.2.1 with ⟨rfl, hno⟩ | ⟨i, rfl, hi, hfi⟩
           ·have HNO := Lib.hid hno
            clear hno
            go_wp2_with fail
            go_roundg (gk - 1)
            case measure => omega
            case rel =>
             refine ⟨j + 1, by omega, by go_num, Lib.hid ⟨nd + nd1 + nd2, rfl, ?_, ?_⟩⟩
             ·rw [take_succ HK.out.1]
              exact List.nodup_append.2 ⟨HJ.out.1, by simp, fun a ha b hb => by rw [List.mem_singleton.1 hb]; rintro rfl; exact HNO.out ha⟩
             ·intro z hz
              rw [take_succ HK.out.1] at hz
              rcases List.mem_append.1 hz with hz | hz
              ·exact HJ.out.2 z hz
              ·rw [List.mem_singleton.1 hz]; exact HK.out.2.2.1 (by first | trivial | rfl)
           ·clear hi hfi
            go_wp2_with fail
            exact bodyPost_ret (v := .bool false) (by simp [results, Tryz.results23, go_sem]) rfl (CountQ.no (m := n + 1) (blk_drewN (m := nd + nd1 + nd2) HS.out.2.2.1) (by omega) (HS.out.1.drewN (nd + nd1 + nd2)))
         ·have hqe : ¬ ((j : Int) < (L : Int)) := by omega
          have hqe' : ¬ (j < L) := by omega
          have hjl : j = f3.length := by have := HL.out.1; omega
          have HJF := Lib.hid (show f3.Nodup ∧ ∀ k ∈ f3, WordP k from by have := HJ.out; rwa [hjl, List.take_of_length_le (Nat.le_refl _)] at this)
          have q4 : (W.drewN nd).cell? ⟨w.heap.size, 4, none⟩ = some (.slice A4 L c4) := (blk_cell (blk_drewN (m := nd) HS.out.2.1) 4).trans rfl
          clear hjl hj hI
          have HW0 := Lib.hid (show Keep (fun k => k = nb) W (W.drewN nd) ∧ (W.drewN nd).heap[nb]? = some (.cells #[.int .i64 ((n + 1 : Nat) : Int)] 3 (0, 0)) from ⟨(Keep.refl _ _).drewN nd, blk_drewN HS.out.2.2.1⟩)
          go_wp2_with fail
          go_loopg [90] L (fun k i wr => ∃ j : Nat, j + k = L ∧ i = .int .i64 (j : Int) ∧ Hid (∃ m : Nat, wr.heap[nb]? = some (.cells #[.int .i64 (m : Int)] 3 (0, 0)) ∧ m = n + 1 + ((f4.take j).map (nodesN d)).sum ∧ m ≤ 60 ∧ (∀ z ∈ f4.take j, TreeP d z) ∧ Keep (fun k => k = nb) W wr))
          case atStart => exact ⟨0, by omega, rfl, Lib.hid ⟨n + 1, HW0.out.2, by simp, by omega, by simp, HW0.out.1⟩⟩
          case round =>
           obtain ⟨j, hj, rfl, hI⟩ := hrel
           by_cases hlt : 1 ≤ gk
           ·have hj2 : (j : Int) < (L : Int) := by omega
            have hj3 : j < L := by omega
            have hjl : j < f4.length := by have := HL.out.2; omega
            obtain ⟨y, hy⟩ : ∃ y, f4[j]? = some y := ⟨_, List.getElem?_eq_getElem hjl⟩
            obtain ⟨m, h1, h2, h3, h4, h5⟩ := hI.out
            obtain ⟨ad4, B3, d3, B4, d4, rfl, y0, y1, y2, y3, y4, hnd⟩ := (HS.out.2.2.2.keep h5 fun k e => e ▸ HB.out.2.2.2.2).item j y hy
            have HY := Lib.hid (And.intro hnd (And.intro hy (And.intro h1 (And.intro h2 (And.intro h3 (And.intro h4 h5))))))
            clear h1 h2 h3 h4 h5 hnd hy hjl
            go_wp2_with fail
            refine (HI.out y (HB.out.1.item y (List.mem_of_getElem? HY.out.2.1)) _ base B3 d3 B4 d4 (HY.out.1.below (below_alloc (Below.refl _ _) _)) nb m HB.out.2.2.2.2 (blk_old _ HY.out.2.2.1) HY.out.2.2.2.2.1 (dp + 1) (by have := HB.out.2.1; omega) (by have := HB.out.2.2.1; omega)).mono ?_
            rintro e w' ⟨b, m', rfl, hm', hle, hyes, hkq⟩
            have HQ := Lib.hid (And.intro hm' (And.intro hle (And.intro hyes (show Keep (fun k => k = nb) W w' from (HY.out.2.2.2.2.2.2.alloc _).trans hkq fun k _ e => e))))
            clear hm' hle hyes hkq
            cases b with
            | false =>
             go_wp2_with fail
             exact bodyPost_ret (v := .bool false) (by simp [results, Tryz.results23, go_sem]) rfl (CountQ.no HQ.out.1 HQ.out.2.1 (HS.out.1.trans HQ.out.2.2.2 fun k _ e => e))
            | true =>
             have HQY := Lib.hid (HQ.out.2.2.1 rfl)
             go_wp2_with fail
             go_roundg (gk - 1)
             case measure => omega
             case rel =>
              refine ⟨j + 1, by omega, by go_num, Lib.hid ⟨m', HQ.out.1, ?_, HQY.out.2.2, ?_, HQ.out.2.2.2⟩⟩
              ·rw [nodes_take HY.out.2.1, HQY.out.2.1, HY.out.2.2.2.1]; omega
              ·intro z hz
               rw [take_succ HY.out.2.1] at hz
               rcases List.mem_append.1 hz with hz | hz
               ·exact HY.out.2.2.2.2.2.1 z hz
               ·rw [List.mem_singleton.1 hz]; exact HQY.out.1
           ·obtain ⟨m, h1, h2, h3, h4, h5⟩ := hI.out
            have hqe : ¬ ((j : Int) < (L : Int)) := by omega
            have hqe' : ¬ (j < L) := by omega
            have x4 : wr.cell? ⟨w.heap.size, 4, none⟩ = some (.slice A4 L c4) := (blk_cell ((h5.block _ (lt_of_block HS.out.2.1) (by have := HB.out.2.2.2.1; omega)).trans HS.out.2.1) 4).trans rfl
            have hjl : j = f4.length := by have := HL.out.2; omega
            rw [hjl, List.take_of_length_le (Nat.le_refl _)] at h2 h4
            have HE := Lib.hid (And.intro h1 (And.intro h2 (And.intro h3 (And.intro h4 h5))))
            clear h1 h2 h3 h4 h5 hjl hI
            rcases Nat.eq_zero_or_pos L with hL0 | hL0
            ·have hL1 : ¬ (0 : Int) < (L : Int) := by omega
             have hL2 : ¬ 0 < L := by omega
             clear hL0
             go_wp2_with fail
             exact bodyPost_ret (v := .bool false) (by simp [results, Tryz.results23, go_sem]) rfl (CountQ.no HE.out.1 (by have := HE.out.2.2.1; omega) (HS.out.1.trans HE.out.2.2.2.2 fun k _ e => e))
            ·have hL1 : (0 : Int) < (L : Int) := by omega
             go_wp2_with fail
             refine bodyPost_ret (v := .bool true) (by simp [results, Tryz.results23, go_sem]) rfl ⟨true, m, rfl, HE.out.1, by have := HE.out.2.2.1; omega, fun _ => ⟨?_, by rw [HE.out.2.1]; show _ = n + (1 + (f4.map (nodesN d)).sum); omega, HE.out.2.2.1⟩, HS.out.1.trans HE.out.2.2.2.2 fun k _ e => e⟩
             have hne : f4 ≠ [] := fun e => by have := HL.out.2; rw [e] at this; simp at this; omega
             exact .inr (.inl ⟨rfl, rfl, rfl, by have h3 := HL.out.1; have h4 := HL.out.2; simp only; omega, HJF.out.1, HJF.out.2, hne, HE.out.2.2.2.1⟩)
       | false =>
        go_enter Tryz.func23, Tryz.ntmps23
        go_wp2_with fail
        exact bodyPost_ret (v := .bool false) (by simp [results, Tryz.results23, go_sem]) rfl (CountQ.no (m := n + 1) HS.out.2.2.1 (by omega) HS.out.1)
      | false =>
       go_enter Tryz.func23, Tryz.ntmps23
       go_wp2_with fail
       exact bodyPost_ret (v := .bool false) (by simp [results, Tryz.results23, go_sem]) rfl (CountQ.no (m := n + 1) HS.out.2.2.1 (by omega) HS.out.1)
     ·go_enter Tryz.func23, Tryz.ntmps23
      go_wp2_with fail
      exact bodyPost_ret (v := .bool false) (by simp [results, Tryz.results23, go_sem]) rfl (CountQ.no (m := n + 1) HS.out.2.2.1 (by omega) HS.out.1)
    ·by_cases h3 : f0 = 3
     ·subst h3
      clear h1 h2
      rcases Nat.eq_zero_or_pos L3 with hl | hl
      ·have hz1 : ¬ (0 : Int) < (L3 : Int) := by omega
       have hz2 : ¬ 0 < L3 := by omega
       have HZ := Lib.hid hl
       clear hl
       obtain ⟨L, hLL⟩ : ∃ L, L = L4 := ⟨_, rfl⟩
       subst hLL
       cases e1 : f1.toList.isEmpty with
       | true =>
        obtain rfl := empty_eq e1
        clear e1
        cases e2 : f2.toList.isEmpty with
        | true =>
         obtain rfl := empty_eq e2
         clear e2
         go_enter Tryz.func23, Tryz.ntmps23
         go_wp2_with fail
         obtain ⟨W, hW⟩ : ∃ W, W = ((w.alloc (.cells #[.int .i64 3, .string noStr, .string noStr, .slice A3 L3 c3, .slice A4 L c4] 25)).setCell ⟨nb, 0, none⟩ (.int .i64 ((n : Int) + 1))) := ⟨_, rfl⟩
         rw [← hW] at HS b0 b1 b2 b3 b4 b5
         rw [← hW]
         clear hW b0 b1 b2 b3 b4 b5 n0
         have hNb : (L : Int) ≤ 9223372036854775807 := by have h1 := HS.out.2.2.2.now.ilen; have h2 := HL.out.2; simp only at h1; omega
         have HW0 := Lib.hid (show Keep (fun k => k = nb) W W ∧ W.heap[nb]? = some (.cells #[.int .i64 ((n + 1 : Nat) : Int)] 3 (0, 0)) from ⟨Keep.refl _ _, HS.out.2.2.1⟩)
         go_loopg [90] L (fun k i wr => ∃ j : Nat, j + k = L ∧ i = .int .i64 (j : Int) ∧ Hid (∃ m : Nat, wr.heap[nb]? = some (.cells #[.int .i64 (m : Int)] 3 (0, 0)) ∧ m = n + 1 + ((f4.take j).map (nodesN d)).sum ∧ m ≤ 60 ∧ (∀ z ∈ f4.take j, TreeP d z) ∧ Keep (fun k => k = nb) W wr))
         case atStart => exact ⟨0, by omega, rfl, Lib.hid ⟨n + 1, HW0.out.2, by simp, by omega, by simp, HW0.out.1⟩⟩
         case round =>
          obtain ⟨j, hj, rfl, hI⟩ := hrel
          by_cases hlt : 1 ≤ gk
          ·have hj2 : (j : Int) < (L : Int) := by omega
           have hj3 : j < L := by omega
           have hjl : j < f4.length := by have := HL.out.2; omega
           obtain ⟨y, hy⟩ : ∃ y, f4[j]? = some y := ⟨_, List.getElem?_eq_getElem hjl⟩
           obtain ⟨m, h1, h2, h3, h4, h5⟩ := hI.out
           obtain ⟨ad4, B3, d3, B4, d4, rfl, y0, y1, y2, y3, y4, hnd⟩ := (HS.out.2.2.2.keep h5 fun k e => e ▸ HB.out.2.2.2.2).item j y hy
           have HY := Lib.hid (And.intro hnd (And.intro hy (And.intro h1 (And.intro h2 (And.intro h3 (And.intro h4 h5))))))
           clear h1 h2 h3 h4 h5 hnd hy hjl
           go_wp2_with fail
           refine (HI.out y (HB.out.1.item y (List.mem_of_getElem? HY.out.2.1)) _ base B3 d3 B4 d4 (HY.out.1.below (below_alloc (Below.refl _ _) _)) nb m HB.out.2.2.2.2 (blk_old _ HY.out.2.2.1) HY.out.2.2.2.2.1 (dp + 1) (by have := HB.out.2.1; omega) (by have := HB.out.2.2.1; omega)).mono ?_
           rintro e w' ⟨b, m', rfl, hm', hle, hyes, hkq⟩
           have HQ := Lib.hid (And.intro hm' (And.intro hle (And.intro hyes (show Keep (fun k => k = nb) W w' from (HY.out.2.2.2.2.2.2.alloc _).trans hkq fun k _ e => e))))
           clear hm' hle hyes hkq
           cases b with
           | false =>
            go_wp2_with fail
            exact bodyPost_ret (v := .bool false) (by simp [results, Tryz.results23, go_sem]) rfl (CountQ.no HQ.out.1 HQ.out.2.1 (HS.out.1.trans HQ.out.2.2.2 fun k _ e => e))
           | true =>
            have HQY := Lib.hid (HQ.out.2.2.1 rfl)
            go_wp2_with fail
            go_roundg (gk - 1)
            case measure => omega
            case rel =>
             refine ⟨j + 1, by omega, by go_num, Lib.hid ⟨m', HQ.out.1, ?_, HQY.out.2.2, ?_, HQ.out.2.2.2⟩⟩
             ·rw [nodes_take HY.out.2.1, HQY.out.2.1, HY.out.2.2.2.1]; omega
             ·intro z hz
              rw [take_succ HY.out.2.1] at hz
              rcases List.mem_append.1 hz with hz | hz
              ·exact HY.out.2.2.2.2.2.1 z hz
              ·rw [List.mem_singleton.1 hz]; exact HQY.out.1
          ·obtain ⟨m, h1, h2, h3, h4, h5⟩ := hI.out
           have hqe : ¬ ((j : Int) < (L : Int)) := by omega
           have hqe' : ¬ (j < L) := by omega
           have x4 : wr.cell? ⟨w.heap.size, 4, none⟩ = some (.slice A4 L c4) := (blk_cell ((h5.block _ (lt_of_block HS.out.2.1) (by have := HB.out.2.2.2.1; omega)).trans HS.out.2.1) 4).trans rfl
           have hjl : j = f4.length := by have := HL.out.2; omega
           rw [hjl, List.take_of_length_le (Nat.le_refl _)] at h2 h4
           have HE := Lib.hid (And.intro h1 (And.intro h2 (And.intro h3 (And.intro h4 h5))))
           clear h1 h2 h3 h4 h5 hjl hI
           rcases Nat.eq_zero_or_pos L with hL0 | hL0
           ·have hL1 : ¬ (0 : Int) < (L : Int) := by omega
            have hL2 : ¬ 0 < L := by omega
            clear hL0
            go_wp2_with fail
            exact bodyPost_ret (v := .bool false) (by simp [results, Tryz.results23, go_sem]) rfl (CountQ.no HE.out.1 (by have := HE.out.2.2.1; omega) (HS.out.1.trans HE.out.2.2.2.2 fun k _ e => e))
           ·have hL1 : (0 : Int) < (L : Int) := by omega
            go_wp2_with fail
            refine bodyPost_ret (v := .bool true) (by simp [results, Tryz.results23, go_sem]) rfl ⟨true, m, rfl, HE.out.1, by have := HE.out.2.2.1; omega, fun _ => ⟨?_, by rw [HE.out.2.1]; show _ = n + (1 + (f4.map (nodesN d)).sum); omega, HE.out.2.2.1⟩, HS.out.1.trans HE.out.2.2.2.2 fun k _ e => e⟩
            have hne : f4 ≠ [] := fun e => by have := HL.out.2; rw [e] at this; simp at this; omega
            exact .inr (.inr ⟨rfl, rfl, rfl, (show f3 = [] from List.eq_nil_of_length_eq_zero (by have h3 := HL.out.1; have := HZ.out; omega)), hne, HE.out.2.2.2.1⟩)
        | false =>
         go_enter Tryz.func23, Tryz.ntmps23
         go_wp2_with fail
         exact bodyPost_ret (v := .bool false) (by simp [results, Tryz.results23, go_sem]) rfl (CountQ.no (m := n + 1) HS.out.2.2.1 (by omega) HS.out.1)
       | false =>
        go_enter Tryz.func23, Tryz.ntmps23
        go_wp2_with fail
        exact bodyPost_ret (v := .bool false) (by simp [results, Tryz.results23, go_sem]) rfl (CountQ.no (m := n + 1) HS.out.2.2.1 (by omega) HS.out.1)
      ·have hz1 : (0 : Int) < (L3 : Int) := by omega
       go_enter Tryz.func23, Tryz.ntmps23
       go_wp2_with fail
       exact bodyPost_ret (v := .bool false) (by simp [results, Tryz.results23, go_sem]) rfl (CountQ.no (m := n + 1) HS.out.2.2.1 (by omega) HS.out.1)
     ·go_enter Tryz.func23, Tryz.ntmps23
      go_wp2_with fail
      exact bodyPost_ret (v := .bool false) (by simp [results, Tryz.results23, go_sem]) rfl (CountQ.no (m := n + 1) HS.out.2.2.1 (by omega) HS.out.1)
end Go.Proofs.YtghmajlfmoggfaaGreat
namespace Go.Proofs.YtghmajlfmoggfaaGreat
open Go.RowKit Go.Proofs.YtghmajlfmoggfaaGreatW.PrintWords Go.Proofs.YtghmajlfmoggfaaGreatW.PrintLast PFnMerge
def TreeQ (x : S25) (w : World) (e : Ending) (w' : World) : Prop := ∃ b : Bool, e = .returned (.bool b) ∧ (b = true → TreeP 6 x ∧ nodesN 6 x ≤ 60) ∧ Below w.heap.size w w'
def IsMapQ (x : S25) (w : World) (e : Ending) (w' : World) : Prop := ∃ b : Bool, e = .returned (.bool b) ∧ (b = true → x.f0 = 2 ∧ TreeP 6 x ∧ nodesN 6 x ≤ 60) ∧ Below w.heap.size w w'
set_option maxRecDepth 20000 in
set_option maxHeartbeats 4000000 in
theorem isTree11 (w : World) (x : S25) (A3 A4 : Option Addr) (c3 c4 : Nat) (h : NdR w x A3 c3 A4 c4) (hb : Bnd x) : Calls Tryz.prog 11 #[ndV x A3 c3 A4 c4] w fun e w' => TreeQ x w e w' := by
 have hb1 := below_alloc (below_alloc (Below.refl w.heap.size w) (.cells #[.int .i64 x.f0, .string x.f1, .string x.f2, .slice A3 x.f3.length c3, .slice A4 x.f4.length c4] 25)) (.cells #[.int .i64 0] 3)
 have HB := Lib.hid hb1
 have H := Lib.hid (And.intro h hb)
 clear hb1 h hb
 go_enter Tryz.func11, Tryz.ntmps11
 go_wp2_with fail
 have hc := count23 6 x H.out.2 _ w.heap.size A3 c3 A4 c4 (H.out.1.frame.below HB.out) (w.heap.size + 1) 0 (by omega) (blk_new (by simp) _) (by omega) 1 (by omega) (by omega)
 refine hc.mono ?_
 clear hc
 rintro e w' ⟨b, m, rfl, h1, h2, h3, h4⟩
 have HR := Lib.hid (And.intro h3 h4)
 clear h1 h2 h3 h4
 go_wp2_with fail
 refine bodyPost_ret (v := .bool b) (by simp [results, Tryz.results11, go_sem]) rfl ⟨b, rfl, fun hb => ?_, ?_⟩
 ·obtain ⟨h1, h2, h3⟩ := HR.out.1 hb
  exact ⟨h1, by omega⟩
 ·exact HB.out.trans (HR.out.2.below HB.out.size fun k _ e => by omega)
set_option maxRecDepth 20000 in
set_option maxHeartbeats 4000000 in
theorem isMap8 (w : World) (x : S25) (A3 A4 : Option Addr) (c3 c4 : Nat) (h : NdR w x A3 c3 A4 c4) (hb : Bnd x) : Calls Tryz.prog 8 #[ndV x A3 c3 A4 c4] w fun e w' => IsMapQ x w e w' := by
 have hb1 := below_alloc (Below.refl w.heap.size w) (.cells #[.int .i64 x.f0, .string x.f1, .string x.f2, .slice A3 x.f3.length c3, .slice A4 x.f4.length c4] 25)
 have HB := Lib.hid hb1
 have H := Lib.hid (And.intro h hb)
 clear hb1 h hb
 by_cases hf : x.f0 = 2
 ·have hfb : (x.f0 == 2) = true := beq_iff_eq.2 hf
  have HF := Lib.hid hf
  clear hf
  go_enter Tryz.func8, Tryz.ntmps8
  go_wp2_with fail
  refine (isTree11 _ x A3 A4 c3 c4 (H.out.1.below HB.out) H.out.2).mono ?_
  rintro e w' ⟨b, rfl, h3, h4⟩
  have HR := Lib.hid (And.intro h3 h4)
  clear h3 h4
  go_wp2_with fail
  exact bodyPost_ret (v := .bool b) (by simp [results, Tryz.results8, go_sem]) rfl ⟨b, rfl, fun hb => ⟨HF.out, HR.out.1 hb⟩, HB.out.trans (HR.out.2.mono HB.out.size)⟩
 ·have hfb : (x.f0 == 2) = false := beq_false_of_ne hf
  go_enter Tryz.func8, Tryz.ntmps8
  go_wp2_with fail
  exact bodyPost_ret (v := .bool false) (by simp [results, Tryz.results8, go_sem]) rfl ⟨false, rfl, by simp, HB.out⟩
end Go.Proofs.YtghmajlfmoggfaaGreat
