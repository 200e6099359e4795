import Derived.Test.YtghmajlfmoggfaaGreatMS5
import Derived.Test.YtghmajlfmoggfaaGreatMX4
import Derived.Test.YtghmajlfmoggfaaGreatMS4
import Derived.Test.YtghmajlfmoggfaaGreatMH
set_option linter.unusedSimpArgs false
set_option linter.unusedVariables false
namespace Go.Proofs.YtghmajlfmoggfaaGreat
open Go.RowKit Go.Proofs.YtghmajlfmoggfaaGreatW.PrintWords Go.Proofs.YtghmajlfmoggfaaGreatW.PrintLast PFnMerge
def CntQ (n : Nat) (w : World) (e : Ending) (w' : World) : Prop := e = .returned (.int .i64 (n : Int)) ∧ Below w.heap.size w w'
def CntC (d : Nat) : Prop := ∀ (x : S25), TreeB d x → ∀ (w : World) (A3 A4 : Option Addr) (c3 c4 : Nat), NdR w x A3 c3 A4 c4 → ∀ dp : Int, 1 ≤ dp → dp + (d : Int) ≤ 13 →
 Calls Tryz.prog 43 #[ndV x A3 c3 A4 c4, .int .i64 dp] w fun e w' => CntQ (nodesN d x) w e w'
structure CI (w : World) (cs : Array Value) (wr : World) : Prop where
 below : Below w.heap.size w wr
 box : wr.heap[w.heap.size]? = some (.cells cs 25 (0, 0))
theorem CI.under {w : World} {cs : Array Value} {wr wr' : World} (h : CI w cs wr) (hb : Below wr.heap.size wr wr') : CI w cs wr' :=
 ⟨h.below.trans (hb.mono h.below.size), (hb.block _ (lt_of_block h.box)).trans h.box⟩
theorem nodes_pref {d : Nat} {l : List S25} {j : Nat} : ((l.take j).map (nodesN d)).sum ≤ (l.map (nodesN d)).sum := by
 induction l generalizing j with
 | nil => simp
 | cons a l ih =>
  cases j with
  | zero => simp
  | succ j => simp only [List.take_succ_cons, List.map_cons, List.sum_cons]; have := ih (j := j); omega
theorem no200 {n m : Nat} (h : n + m ≤ 60) : ¬ (200 : Int) < (n : Int) + (m : Int) := by omega
theorem wr60 {n m : Nat} (h : n + m ≤ 60) : wrap64 ((n : Int) + (m : Int)) = (n : Int) + (m : Int) := by unfold wrap64; omega
theorem idx_lt2 {α : Type} {l : List α} {i : Nat} {a : α} (h : l[i]? = some a) : i < l.length := (List.getElem?_eq_some_iff.1 h).1
set_option maxRecDepth 20000 in
set_option maxHeartbeats 8000000 in
theorem count43 : ∀ d, CntC d := by
 intro d
 induction d with
 | zero => intro x hx; exact hx.1.elim
 | succ d ih =>
  intro x hx w A3 A4 c3 c4 h dp hdp hdd
  obtain ⟨f0, f1, f2, f3, f4⟩ := x
  have hd12 : ¬ (12 : Int) < dp := by omega
  have hdw : wrap64 (dp + 1) = dp + 1 := wr _ (by omega) (by omega)
  have HD := Lib.hid (And.intro hdp hdd)
  have HI := Lib.hid ih
  clear hdp hdd ih
  obtain ⟨L3, hL3⟩ : ∃ L3, L3 = f3.length := ⟨_, rfl⟩
  obtain ⟨L4, hL4⟩ : ∃ L4, L4 = f4.length := ⟨_, rfl⟩
  have hargs : ndV ⟨f0, f1, f2, f3, f4⟩ A3 c3 A4 c4 = .agg #[.int .i64 f0, .string f1, .string f2, .slice A3 L3 c3, .slice A4 L4 c4] := by rw [hL3, hL4]
  rw [hargs]
  clear hargs
  have HC := Lib.hid (show CI w #[.int .i64 f0, .string f1, .string f2, .slice A3 L3 c3, .slice A4 L4 c4] (w.alloc (.cells #[.int .i64 f0, .string f1, .string f2, .slice A3 L3 c3, .slice A4 L4 c4] 25)) from ⟨below_alloc (Below.refl _ _) _, blk_new rfl _⟩)
  have hNb : (L4 : Int) ≤ 1000000 := by have := hx.len; simp only at this; omega
  have HX := Lib.hid (And.intro hx (And.intro h (And.intro hL3 hL4)))
  rcases hx.1 with ⟨e0, e3, e4, hs⟩ | ⟨e0, e1, e2, hlen, hnd, hwd, hne, hit⟩ | ⟨e0, e1, e2, e3, hne, hit⟩
  ·simp only at e0 e3 e4 hs
   subst e0; subst e3; subst e4
   have hz3 : L3 = 0 := by simpa using hL3
   have hz4 : L4 = 0 := by simpa using hL4
   subst hz3; subst hz4
   have HK := Lib.hid hs
   clear hs hx h hL3 hL4
   go_enter Tryz.func43, Tryz.ntmps43
   go_wp2_with fail
   refine (HK.out.plainC _).mono ?_
   rintro e w' ⟨rfl, nd, rfl⟩
   go_wp2_with fail
   refine (HK.out.typedC _).mono ?_
   rintro e w' ⟨rfl, nd2, rfl⟩
   go_wp2_with fail
   refine bodyPost_ret (v := .int .i64 1) (by simp [results, Tryz.results43, go_sem]) rfl ⟨by simp [nodesN], ?_⟩
   exact pw_below_drewN (below_alloc (Below.refl _ _) _) _
  ·simp only at e0 e1 e2 hlen hnd hwd hne hit
   subst e0; subst e1; subst e2
   obtain rfl : L4 = L3 := by omega
   obtain ⟨L, hLL⟩ : ∃ L, L = L4 := ⟨_, rfl⟩
   subst hLL
   have HP := Lib.hid (And.intro hlen (And.intro hnd hwd))
   clear hx h hL3 hL4 hlen hnd hwd hne hit
   go_enter Tryz.func43, Tryz.ntmps43
   go_wp2_with fail
   go_loopg [61] L (fun k i wr => ∃ j : Nat, j + k = L ∧ i = .int .i64 (j : Int) ∧ Hid (CI w #[.int .i64 2, .string noStr, .string noStr, .slice A3 L c3, .slice A4 L c4] wr))
   case atStart => exact ⟨0, by omega, rfl, HC⟩
   case round =>
    obtain ⟨j, hj, rfl, hI⟩ := hrel
    by_cases hlt : 1 ≤ gk
    ·have hj2 : (j : Int) < (L : Int) := by omega
     have hj3 : j < L := by omega
     have hjl : j < f3.length := by have := HX.out.2.2.1; omega
     obtain ⟨key, hkey⟩ : ∃ key, f3[j]? = some key := ⟨_, List.getElem?_eq_getElem hjl⟩
     have hcap : L ≤ c3 := by have h1 := HX.out.2.1.kcap; have := HX.out.2.2.1; simp only at h1; omega
     have hcap2 : (j : Int) ≤ (c3 : Int) := by omega
     have hcap3 : j ≤ c3 := by omega
     obtain ⟨ad3, rfl, x3⟩ := str_at (HX.out.2.1.keys) j key hjl hkey
     have x3' := (hI.out.below.cell (World.block_lt_of_cell? w _ x3)).trans x3
     have hk1 := HP.out.2.2 key (List.mem_of_getElem? hkey)
     have htl : (f3.take j).length = j := by rw [List.length_take]; omega
     have hnot : key ∉ f3.take j := fun e => by
      obtain ⟨i, hi⟩ := List.getElem?_of_mem e
      have hl := idx_lt2 hi
      rw [List.length_take] at hl
      rw [List.getElem?_take, if_pos (by omega)] at hi
      have := (List.getElem?_inj (idx_lt2 hi) HP.out.2.1).1 (hi.trans hkey.symm)
      omega
     have q3 : wr.cell? ⟨w.heap.size, 3, none⟩ = some (.slice (some ad3) L c3) := (blk_cell hI.out.box 3).trans rfl
     have HK := Lib.hid (And.intro hk1 (And.intro hnot htl))
     clear hjl hkey hk1 htl hnot x3
     go_wp2_with fail
     refine (HK.out.1.plainC _).mono ?_
     rintro e w' ⟨rfl, nd, rfl⟩
     have q3' : (wr.drewN nd).cell? ⟨w.heap.size, 3, none⟩ = some (.slice (some ad3) L c3) := q3
     go_wp2_with fail
     have hcall := contains54_no (some ad3) c3 (f3.take j) key (wr.drewN nd) (Kd.C_drewN (Kd.C_take (Kd.C_below HX.out.2.1.keys hI.out.below) (by have := HK.out.2.2; rw [List.length_take] at this; simp only; omega)) nd) (by have := HK.out.2.2; omega) (by have := HK.out.2.2; omega) HK.out.2.1
     rw [HK.out.2.2] at hcall
     refine hcall.mono ?_
     clear hcall
     rintro e w' hw'
     have HW' := Lib.hid hw'
     clear hw'
     obtain rfl := HW'.out.1
     go_wp2_with fail
     go_roundg (gk - 1)
     case measure => omega
     case rel => exact ⟨j + 1, by omega, by go_num, Lib.hid ((hI.out.under (pw_below_drewN (Below.refl _ _) nd)).under (by obtain ⟨_, nd2, h2⟩ := HW'.out; rw [h2]; exact pw_below_drewN (Below.refl _ _) nd2))⟩
    ·have hqe : ¬ ((j : Int) < (L : Int)) := by omega
     have hqe' : ¬ (j < L) := by omega
     have q4 : wr.cell? ⟨w.heap.size, 4, none⟩ = some (.slice A4 L c4) := (blk_cell hI.out.box 4).trans rfl
     have HW0 := hI
     clear hj hI
     go_wp2_with fail
     go_loopg [97, 5] L (fun k i v wr => ∃ j : Nat, j + k = L ∧ i = .int .i64 (j : Int) ∧ Hid (CI w #[.int .i64 2, .string noStr, .string noStr, .slice A3 L c3, .slice A4 L c4] wr) ∧ v = .int .i64 ((1 + ((f4.take j).map (nodesN d)).sum : Nat) : Int))
     case atStart => exact ⟨0, by omega, rfl, HW0, by simp⟩
     case round =>
      obtain ⟨j, hj, rfl, hI, rfl⟩ := hrel
      obtain ⟨N, hN⟩ : ∃ N, N = 1 + ((f4.take j).map (nodesN d)).sum := ⟨_, rfl⟩
      rw [← hN]
      by_cases hlt : 1 ≤ gk
      ·have hj2 : (j : Int) < (L : Int) := by omega
       have hj3 : j < L := by omega
       obtain ⟨y, hy⟩ : ∃ y, f4[j]? = some y := ⟨_, List.getElem?_eq_getElem (by have := HX.out.2.2.2; omega)⟩
       obtain ⟨ad4, B3, d3, B4, d4, rfl, y0, y1, y2, y3, y4, hnd2⟩ := (HX.out.2.1.below hI.out.below).frame.item j y hy
       have HY := Lib.hid (And.intro hnd2.now (And.intro hy (List.mem_of_getElem? hy)))
       have hsum : N + nodesN d y ≤ 60 := by
        have h1 := nodes_take (d := d) hy
        have h2 := nodes_pref (d := d) (l := f4) (j := j + 1)
        have h3 := HX.out.1.2
        rw [nodesN] at h3
        simp only at h3
        omega
       obtain ⟨M, hM⟩ : ∃ M, M = nodesN d y := ⟨_, rfl⟩
       have hsum2 : N + M ≤ 60 := by rw [hM]; exact hsum
       have hwr := wr60 hsum2
       have hno := no200 hsum2
       clear hsum2
       have HN := Lib.hid (And.intro hN hM)
       clear hnd2 hy hsum hN hM
       go_wp2_with fail
       refine (HI.out y (HX.out.1.item y HY.out.2.2) (wr.alloc (.cells #[.int .i64 y.f0, .string y.f1, .string y.f2, .slice B3 y.f3.length d3, .slice B4 y.f4.length d4] 25)) B3 B4 d3 d4 (HY.out.1.below (below_alloc (Below.refl _ _) _)) (dp + 1) (by have := HD.out.1; omega) (by have := HD.out.2; omega)).mono ?_
       rintro e w' ⟨rfl, hb⟩
       rw [← HN.out.2]
       have HB := Lib.hid hb
       clear hb
       go_wp2_with fail
       go_roundg (gk - 1)
       case measure => omega
       case rel =>
        refine ⟨j + 1, by omega, by go_num, Lib.hid ((hI.out.under (below_alloc (Below.refl _ _) _)).under HB.out), ?_⟩
        rw [nodes_take HY.out.2.1, ← Nat.add_assoc, ← HN.out.1, ← HN.out.2]
        try simp only [Int.natCast_add]
      ·have hqe : ¬ ((j : Int) < (L : Int)) := by omega
       have hqe' : ¬ (j < L) := by omega
       have hjl : j = f4.length := by have := HX.out.2.2.2; omega
       rw [hjl, List.take_of_length_le (Nat.le_refl _)] at hN
       have HN := Lib.hid hN
       clear hN hjl
       go_wp2_with fail
       exact bodyPost_ret (v := .int .i64 (N : Int)) (by simp [results, Tryz.results43, go_sem]) rfl ⟨by rw [HN.out]; rfl, hI.out.below⟩
  ·simp only at e0 e1 e2 e3 hne hit
   subst e0; subst e1; subst e2; subst e3
   have hz3 : L3 = 0 := by simpa using hL3
   subst hz3
   obtain ⟨L, hLL⟩ : ∃ L, L = L4 := ⟨_, rfl⟩
   subst hLL
   have HW0 := HC
   clear hx h hL3 hL4 hne hit
   go_enter Tryz.func43, Tryz.ntmps43
   go_wp2_with fail
   go_loopg [97, 5] L (fun k i v wr => ∃ j : Nat, j + k = L ∧ i = .int .i64 (j : Int) ∧ Hid (CI w #[.int .i64 3, .string noStr, .string noStr, .slice A3 0 c3, .slice A4 L c4] wr) ∧ v = .int .i64 ((1 + ((f4.take j).map (nodesN d)).sum : Nat) : Int))
   case atStart => exact ⟨0, by omega, rfl, HW0, by simp⟩
   case round =>
    obtain ⟨j, hj, rfl, hI, rfl⟩ := hrel
    obtain ⟨N, hN⟩ : ∃ N, N = 1 + ((f4.take j).map (nodesN d)).sum := ⟨_, rfl⟩
    rw [← hN]
    by_cases hlt : 1 ≤ gk
    ·have hj2 : (j : Int) < (L : Int) := by omega
     have hj3 : j < L := by omega
     obtain ⟨y, hy⟩ : ∃ y, f4[j]? = some y := ⟨_, List.getElem?_eq_getElem (by have := HX.out.2.2.2; omega)⟩
     obtain ⟨ad4, B3, d3, B4, d4, rfl, y0, y1, y2, y3, y4, hnd2⟩ := (HX.out.2.1.below hI.out.below).frame.item j y hy
     have HY := Lib.hid (And.intro hnd2.now (And.intro hy (List.mem_of_getElem? hy)))
     have hsum : N + nodesN d y ≤ 60 := by
      have h1 := nodes_take (d := d) hy
      have h2 := nodes_pref (d := d) (l := f4) (j := j + 1)
      have h3 := HX.out.1.2
      rw [nodesN] at h3
      simp only at h3
      omega
     obtain ⟨M, hM⟩ : ∃ M, M = nodesN d y := ⟨_, rfl⟩
     have hsum2 : N + M ≤ 60 := by rw [hM]; exact hsum
     have hwr := wr60 hsum2
     have hno := no200 hsum2
     clear hsum2
     have HN := Lib.hid (And.intro hN hM)
     clear hnd2 hy hsum hN hM
     go_wp2_with fail
     refine (HI.out y (HX.out.1.item y HY.out.2.2) (wr.alloc (.cells #[.int .i64 y.f0, .string y.f1, .string y.f2, .slice B3 y.f3.length d3, .slice B4 y.f4.length d4] 25)) B3 B4 d3 d4 (HY.out.1.below (below_alloc (Below.refl _ _) _)) (dp + 1) (by have := HD.out.1; omega) (by have := HD.out.2; omega)).mono ?_
     rintro e w' ⟨rfl, hb⟩
     rw [← HN.out.2]
     have HB := Lib.hid hb
     clear hb
     go_wp2_with fail
     go_roundg (gk - 1)
     case measure => omega
     case rel =>
      refine ⟨j + 1, by omega, by go_num, Lib.hid ((hI.out.under (below_alloc (Below.refl _ _) _)).under HB.out), ?_⟩
      rw [nodes_take HY.out.2.1, ← Nat.add_assoc, ← HN.out.1, ← HN.out.2]
      try simp only [Int.natCast_add]
    ·have hqe : ¬ ((j : Int) < (L : Int)) := by omega
     have hqe' : ¬ (j < L) := by omega
     have hjl : j = f4.length := by have := HX.out.2.2.2; omega
     rw [hjl, List.take_of_length_le (Nat.le_refl _)] at hN
     have HN := Lib.hid hN
     clear hN hjl
     go_wp2_with fail
     exact bodyPost_ret (v := .int .i64 (N : Int)) (by simp [results, Tryz.results43, go_sem]) rfl ⟨by rw [HN.out]; rfl, hI.out.below⟩
def YesQ (w : World) (e : Ending) (w' : World) : Prop := e = .returned (.bool true) ∧ Below w.heap.size w w'
set_option maxRecDepth 20000 in
set_option maxHeartbeats 4000000 in
theorem right36 (w : World) (x : S25) (hx : TreeB 6 x) (A3 A4 : Option Addr) (c3 c4 : Nat) (h : NdR w x A3 c3 A4 c4) : Calls Tryz.prog 36 #[ndV x A3 c3 A4 c4] w fun e w' => YesQ w e w' := by
 have hb1 := below_alloc (Below.refl w.heap.size w) (.cells #[.int .i64 x.f0, .string x.f1, .string x.f2, .slice A3 x.f3.length c3, .slice A4 x.f4.length c4] 25)
 have HB := Lib.hid hb1
 have H := Lib.hid (And.intro h hx)
 obtain ⟨N, hN⟩ : ∃ N, N = nodesN 6 x := ⟨_, rfl⟩
 have hle : (N : Int) ≤ 200 := by have := hx.2; omega
 have HN := Lib.hid hN
 clear hb1 h hx hN
 go_enter Tryz.func36, Tryz.ntmps36
 go_wp2_with fail
 refine (count43 6 x H.out.2 _ A3 A4 c3 c4 (H.out.1.below HB.out) 1 (by omega) (by omega)).mono ?_
 rintro e w' ⟨rfl, hb⟩
 rw [← HN.out]
 have HB2 := Lib.hid hb
 clear hb
 go_wp2_with fail
 exact bodyPost_ret (v := .bool true) (by simp [results, Tryz.results36, go_sem]) rfl ⟨rfl, HB.out.trans (HB2.out.mono HB.out.size)⟩
theorem TreeP.kind_ne : ∀ {d : Nat} {x : S25}, TreeP d x → (x.f0 == 0) = false
 | 0, _, h => h.elim
 | d + 1, x, h => by rcases h with ⟨h, _⟩ | ⟨h, _⟩ | ⟨h, _⟩ <;> rw [h] <;> rfl
def RnQ (x : S25) (w : World) (e : Ending) (w' : World) : Prop := ∃ r b, e = .returned (.pointer (some ⟨r, 0, none⟩)) ∧ RNB w' r b ∧ Rep w' b x (fun k => w.heap.size ≤ k) ∧ Below w.heap.size w w'
def ToldQ (y : S25) (w : World) (e : Ending) (w' : World) : Prop := ∃ A3 c3 A4 c4, e = .returned (ndV y A3 c3 A4 c4) ∧ NdG w' (fun k => w.heap.size < k) y A3 c3 A4 c4 ∧ Below w.heap.size w w'
set_option maxRecDepth 20000 in
set_option maxHeartbeats 4000000 in
theorem told31 (w : World) (d : Nat) (y : S25) (r b : Nat) (F : Nat → Prop) (hr : RNB w r b) (hrep : Rep w b y F) (hsz : SzN d y) : Calls Tryz.prog 31 #[.pointer (some ⟨r, 0, none⟩)] w fun e w' => ToldQ y w e w' := by
 have hb1 := below_alloc (Below.refl w.heap.size w) (.cells #[.int .i64 0, .string noStr, .string noStr, nilS, nilS] 25)
 have HB := Lib.hid hb1
 have H := Lib.hid (And.intro hr (And.intro hrep hsz))
 clear hb1 hr hrep hsz
 obtain ⟨k, tag, val, C, hk1, hk2, _⟩ := H.out.2.1.node
 have HN := Lib.hid (And.intro hk1 hk2)
 clear hk1 hk2
 go_enter Tryz.func31, Tryz.ntmps31
 go_wp2_with fail
 refine (ynode_some _ (H.out.1.under HB.out) (HN.out.1.under HB.out) HN.out.2).mono ?_
 rintro e w' ⟨rfl, rfl⟩
 go_wp2_with fail
 refine (nodeOf41 d y H.out.2.2 _ b F (H.out.2.1.under HB.out)).mono ?_
 rintro e w' ⟨v, rfl, ⟨v3, v4, rfl, h3, h4⟩, hb⟩
 obtain ⟨A3, c3, rfl⟩ := Kd.R_slice h3
 obtain ⟨A4, c4, rfl⟩ := Kd.R_slice h4
 have HV := Lib.hid (And.intro h3 (And.intro h4 hb))
 have hres : w'.heap[w.heap.size]? = some (.cells #[.int .i64 0, .string noStr, .string noStr, nilS, nilS] 25 (0, 0)) := (hb.block _ (by simp)).trans (blk_new rfl _)
 have z0 := blk_frozen hres 0
 have z1 := blk_frozen hres 1
 have z2 := blk_frozen hres 2
 have z3 := blk_frozen hres 3
 have z4 := blk_frozen hres 4
 have r0 := (blk_cell hres 0).trans (show _ = some (.int .i64 0) from rfl)
 have r1 := (blk_cell hres 1).trans (show _ = some (.string noStr) from rfl)
 have r2 := (blk_cell hres 2).trans (show _ = some (.string noStr) from rfl)
 have r3 := (blk_cell hres 3).trans (show _ = some nilS from rfl)
 have r4 := (blk_cell hres 4).trans (show _ = some nilS from rfl)
 have HRES := Lib.hid hres
 clear h3 h4 hb hres
 go_wp2_with fail
 have hk := keep_put5 w' w.heap.size (.int .i64 y.f0) (.string y.f1) (.string y.f2) (.slice A3 y.f3.length c3) (.slice A4 y.f4.length c4)
 refine bodyPost_ret (results_cell_row rfl _ _ w.heap.size 25 #[.int .i64 y.f0, .string y.f1, .string y.f2, .slice A3 y.f3.length c3, .slice A4 y.f4.length c4] (0, 0) _ rfl (put5_blk HRES.out _ _ _ _ _) Tryz.underlying25 rfl (by kernel_rfl)) rfl ?_
 refine ⟨A3, c3, A4, c4, rfl, ?_, ?_⟩
 ·have hsz : w.heap.size < (w.alloc (.cells #[.int .i64 0, .string noStr, .string noStr, nilS, nilS] 25)).heap.size := by simp
  have g3 := Kd.R_mono HV.out.1 (ok' := fun k => w.heap.size < k) fun k hk => Nat.lt_trans hsz hk
  have g4 := Kd.R_mono HV.out.2.1 (ok' := fun k => w.heap.size < k) fun k hk => Nat.lt_trans hsz hk
  have hg : NdG w' (fun k => w.heap.size < k) y A3 c3 A4 c4 := ⟨Kd.R_F g3, (Kd.R_reads' g3).2.1, Kd.R_F g4, (Kd.R_reads' g4).2.1⟩
  exact hg.keep hk fun k h1 h2 => by omega
 ·exact (HB.out.trans (HV.out.2.2.mono HB.out.size)).trans (hk.below (Nat.le_trans HB.out.size HV.out.2.2.size) fun k _ e => by omega)
theorem WordP.good {k : ByteArray} (h : WordP k) : k.toList.isEmpty = false ∧ k.size ≤ 1000000 ∧ (patchKey.toList == k.toList) = false := by
 refine ⟨?_, by have := h.le; omega, ?_⟩
 ·have h1 := h.pos
  cases he : k.toList with
  | nil =>
   rw [ByteArray.toList_eq] at he
   have : k.data.size = 0 := by rw [← Array.length_toList, he]; rfl
   have h2 : k.size = k.data.size := rfl
   omega
  | cons a l => rfl
 ·refine beq_false_of_ne fun e => ?_
  have h1 := h.first
  have h2 : patchKey.toList = [36, 112, 97, 116, 99, 104] := (ByteArray.toList_eq _).trans rfl
  rw [h2] at e
  rw [bt_head e.symm] at h1
  have : ((36 : UInt8).toNat : Int) = 36 := by decide
  omega
theorem TreeB.tree : ∀ {d : Nat} {x : S25}, TreeB d x → TreeN d x := by
 intro d
 induction d with
 | zero => intro x h; exact h.1.elim
 | succ d ih =>
  intro x h
  have hl := h.len
  rcases h.1 with ⟨h1, h2, h3, _⟩ | ⟨h1, h2, h3, h4, h5, _, _, _⟩ | ⟨h1, h2, h3, h4, _, _⟩
  ·exact .inl ⟨h1, h2, h3⟩
  ·exact .inr (.inl ⟨h1, h2, h3, h4, by omega, h5, fun z hz => ih (h.item z hz)⟩)
  ·exact .inr (.inr ⟨h1, h2, h3, h4, by omega, fun z hz => ih (h.item z hz)⟩)
end Go.Proofs.YtghmajlfmoggfaaGreat
