import Derived.Test.YtghmajlfmoggfaaGreatMS5
import Derived.Test.YtghmajlfmoggfaaGreatMS4
import Derived.Test.YtghmajlfmoggfaaGreatMH
set_option linter.unusedSimpArgs false
set_option linter.unusedVariables false
namespace Go.Proofs.YtghmajlfmoggfaaGreat
open Go.RowKit Go.Proofs.YtghmajlfmoggfaaGreatW.PrintWords Go.Proofs.YtghmajlfmoggfaaGreatW.PrintLast PFnMerge
def CntQ (n : Nat) (w : World) (e : Ending) (w' : World) : Prop := e = .returned (.int .i64 (n : Int)) ∧ Below w.heap.size w w'
def CntC (d : Nat) : Prop := ∀ (x : S25), TreeB d x → ∀ (w : World) (A3 A4 : Option Addr) (c3 c4 : Nat), NdR w x A3 c3 A4 c4 → ∀ dp : Int, 1 ≤ dp → dp + (d : Int) ≤ 13 →
  Calls Tryz.prog 43 #[ndV x A3 c3 A4 c4, .int .i64 dp] w fun e w' => CntQ (nodesN d x) w e w'
structure CI (w : World) (cs : Array Value) (wr : World) : Prop where
  below : Below w.heap.size w wr
  box : wr.heap[w.heap.size]? = some (.cells cs 25 (0, 0))
theorem CI.under {w : World} {cs : Array Value} {wr wr' : World} (h : CI w cs wr) (hb : Below wr.heap.size wr wr') : CI w cs wr' :=
  ⟨h.below.trans (hb.mono h.below.size), (hb.block _ (lt_of_block h.box)).trans h.box⟩
theorem nodes_pref {d : Nat} {l : List S25} {j : Nat} : ((l.take j).map (nodesN d)).sum ≤ (l.map (nodesN d)).sum := by
  induction l generalizing j with
  | nil => simp
  | cons a l ih =>
    cases j with
    | zero => simp
    | succ j => simp only [List.take_succ_cons, List.map_cons, List.sum_cons]; have := ih (j := j); omega
theorem no200 {n m : Nat} (h : n + m ≤ 60) : ¬ (200 : Int) < (n : Int) + (m : Int) := by omega
theorem wr60 {n m : Nat} (h : n + m ≤ 60) : wrap64 ((n : Int) + (m : Int)) = (n : Int) + (m : Int) := by unfold wrap64; omega
theorem idx_lt2 {α : Type} {l : List α} {i : Nat} {a : α} (h : l[i]? = some a) : i < l.length := (List.getElem?_eq_some_iff.1 h).1
set_option maxRecDepth 20000 in
set_option maxHeartbeats 8000000 in
theorem count43 : ∀ d, CntC d := by
  intro d
  induction d with
  | zero => intro x hx; exact hx.1.elim
  | succ d ih =>
    intro x hx w A3 A4 c3 c4 h dp hdp hdd
    obtain ⟨f0, f1, f2, f3, f4⟩ := x
    have hd12 : ¬ (12 : Int) < dp := by omega
    have hdw : wrap64 (dp + 1) = dp + 1 := wr _ (by omega) (by omega)
    have HD := Lib.hid (And.intro hdp hdd)
    have HI := Lib.hid ih
    clear hdp hdd ih
    obtain ⟨L3, hL3⟩ : ∃ L3, L3 = f3.length := ⟨_, rfl⟩
    obtain ⟨L4, hL4⟩ : ∃ L4, L4 = f4.length := ⟨_, rfl⟩
    have hargs : ndV ⟨f0, f1, f2, f3, f4⟩ A3 c3 A4 c4 = .agg #[.int .i64 f0, .string f1, .string f2, .slice A3 L3 c3, .slice A4 L4 c4] := by rw [hL3, hL4]
    rw [hargs]
    clear hargs
    have HC := Lib.hid (show CI w #[.int .i64 f0, .string f1, .string f2, .slice A3 L3 c3, .slice A4 L4 c4] (w.alloc (.cells #[.int .i64 f0, .string f1, .string f2, .slice A3 L3 c3, .slice A4 L4 c4] 25)) from ⟨below_alloc (Below.refl _ _) _, blk_new rfl _⟩)
    have hNb : (L4 : Int) ≤ 1000000 := by have := hx.len; simp only at this; omega
    have HX := Lib.hid (And.intro hx (And.intro h (And.intro hL3 hL4)))
    rcases hx.1 with ⟨e0, e3, e4, hs⟩ | ⟨e0, e1, e2, hlen, hnd, hwd, hne, hit⟩ | ⟨e0, e1, e2, e3, hne, hit⟩
    · simp only at e0 e3 e4 hs
      subst e0; subst e3; subst e4
      have hz3 : L3 = 0 := by simpa using hL3
      have hz4 : L4 = 0 := by simpa using hL4
      subst hz3; subst hz4
      obtain ⟨k1, hk1⟩ := hs.plain
      obtain ⟨k2, hk2⟩ := hs.typed
      have HK := Lib.hid (And.intro hk1 hk2)
      clear hk1 hk2 hs hx h hL3 hL4
      go_enter Tryz.func43, Tryz.ntmps43
      go_wp2_with fail
      refine (impl_plain.calls k1 f1 true _ HK.out.1).mono ?_
      rintro e w' ⟨rfl, nd, rfl⟩
      go_wp2_with fail
      refine (impl_typed.calls k2 f1 f2 true _ HK.out.2).mono ?_
      rintro e w' ⟨rfl, nd2, rfl⟩
      go_wp2_with fail
      refine bodyPost_ret (v := .int .i64 1) (by simp [results, Tryz.results43, go_sem]) rfl ⟨by simp [nodesN], ?_⟩
      exact pw_below_drewN (below_alloc (Below.refl _ _) _) _
    · simp only at e0 e1 e2 hlen hnd hwd hne hit
      subst e0; subst e1; subst e2
      obtain rfl : L4 = L3 := by omega
      obtain ⟨L, hLL⟩ : ∃ L, L = L4 := ⟨_, rfl⟩
      subst hLL
      have HP := Lib.hid (And.intro hlen (And.intro hnd hwd))
      clear hx h hL3 hL4 hlen hnd hwd hne hit
      go_enter Tryz.func43, Tryz.ntmps43
      go_wp2_with fail
      go_loopg [61] L (fun k i wr => ∃ j : Nat, j + k = L ∧ i = .int .i64 (j : Int) ∧ Hid (CI w #[.int .i64 2, .string noStr, .string noStr, .slice A3 L c3, .slice A4 L c4] wr))
      case atStart => exact ⟨0, by omega, rfl, HC⟩
      case round =>
        obtain ⟨j, hj, rfl, hI⟩ := hrel
        by_cases hlt : 1 ≤ gk
        · have hj2 : (j : Int) < (L : Int) := by omega
          have hj3 : j < L := by omega
          have hjl : j < f3.length := by have := HX.out.2.2.1; omega
          obtain ⟨key, hkey⟩ : ∃ key, f3[j]? = some key := ⟨_, List.getElem?_eq_getElem hjl⟩
          have hcap : L ≤ c3 := by have h1 := HX.out.2.1.kcap; have := HX.out.2.2.1; simp only at h1; omega
          have hcap2 : (j : Int) ≤ (c3 : Int) := by omega
          have hcap3 : j ≤ c3 := by omega
          obtain ⟨ad3, rfl, x3⟩ := str_at (HX.out.2.1.keys) j key hjl hkey
          have x3' := (hI.out.below.cell (World.block_lt_of_cell? w _ x3)).trans x3
          obtain ⟨k1, hk1⟩ := (HP.out.2.2 key (List.mem_of_getElem? hkey)).plain
          have htl : (f3.take j).length = j := by rw [List.length_take]; omega
          have hnot : key ∉ f3.take j := fun e => by
            obtain ⟨i, hi⟩ := List.getElem?_of_mem e
            have hl := idx_lt2 hi
            rw [List.length_take] at hl
            rw [List.getElem?_take, if_pos (by omega)] at hi
            have := (List.getElem?_inj (idx_lt2 hi) HP.out.2.1).1 (hi.trans hkey.symm)
            omega
          obtain ⟨k2, hk2⟩ := contains_no (f3.take j) key (by have := HX.out.2.1.klen; simp only at this; omega) hnot
          have q3 : wr.cell? ⟨w.heap.size, 3, none⟩ = some (.slice (some ad3) L c3) := (blk_cell hI.out.box 3).trans rfl
          have HK := Lib.hid (And.intro hk1 (And.intro hk2 htl))
          clear hjl hkey hk1 hk2 htl hnot x3
          go_wp2_with fail
          refine (impl_plain.calls k1 key true _ HK.out.1).mono ?_
          rintro e w' ⟨rfl, nd, rfl⟩
          have q3' : (wr.drewN nd).cell? ⟨w.heap.size, 3, none⟩ = some (.slice (some ad3) L c3) := q3
          go_wp2_with fail
          have hcall := slices_Contains_string_string.calls k2 (some ad3) c3 (f3.take j) key false (wr.drewN nd) (Kd.C_drewN (Kd.C_take (Kd.C_below HX.out.2.1.keys hI.out.below) (by have := HK.out.2.2; rw [List.length_take] at this; simp only; omega)) nd) (by have := HK.out.2.2; omega) HK.out.2.1
          rw [HK.out.2.2] at hcall
          refine hcall.mono ?_
          clear hcall
          rintro e w' hw'
          have HW' := Lib.hid hw'
          clear hw'
          obtain rfl := HW'.out.1
          go_wp2_with fail
          go_roundg (gk - 1)
          case measure => omega
          case rel => exact ⟨j + 1, by omega, by go_num, Lib.hid ((hI.out.under (pw_below_drewN (Below.refl _ _) nd)).under (by obtain ⟨_, nd2, h2⟩ := HW'.out; rw [h2]; exact pw_below_drewN (Below.refl _ _) nd2))⟩
        · have hqe : ¬ ((j : Int) < (L : Int)) := by omega
          have hqe' : ¬ (j < L) := by omega
          have q4 : wr.cell? ⟨w.heap.size, 4, none⟩ = some (.slice A4 L c4) := (blk_cell hI.out.box 4).trans rfl
          have HW0 := hI
          clear hj hI
          go_wp2_with fail
          go_loopg [97, 5] L (fun k i v wr => ∃ j : Nat, j + k = L ∧ i = .int .i64 (j : Int) ∧ Hid (CI w #[.int .i64 2, .string noStr, .string noStr, .slice A3 L c3, .slice A4 L c4] wr) ∧ v = .int .i64 ((1 + ((f4.take j).map (nodesN d)).sum : Nat) : Int))
          case atStart => exact ⟨0, by omega, rfl, HW0, by simp⟩
          case round =>
            obtain ⟨j, hj, rfl, hI, rfl⟩ := hrel
            obtain ⟨N, hN⟩ : ∃ N, N = 1 + ((f4.take j).map (nodesN d)).sum := ⟨_, rfl⟩
            rw [← hN]
            by_cases hlt : 1 ≤ gk
            · have hj2 : (j : Int) < (L : Int) := by omega
              have hj3 : j < L := by omega
              obtain ⟨y, hy⟩ : ∃ y, f4[j]? = some y := ⟨_, List.getElem?_eq_getElem (by have := HX.out.2.2.2; omega)⟩
              obtain ⟨ad4, B3, d3, B4, d4, rfl, y0, y1, y2, y3, y4, hnd2⟩ := (HX.out.2.1.below hI.out.below).frame.item j y hy
              have HY := Lib.hid (And.intro hnd2.now (And.intro hy (List.mem_of_getElem? hy)))
              have hsum : N + nodesN d y ≤ 60 := by
                have h1 := nodes_take (d := d) hy
                have h2 := nodes_pref (d := d) (l := f4) (j := j + 1)
                have h3 := HX.out.1.2
                rw [nodesN] at h3
                simp only at h3
                omega
              obtain ⟨M, hM⟩ : ∃ M, M = nodesN d y := ⟨_, rfl⟩
              have hsum2 : N + M ≤ 60 := by rw [hM]; exact hsum
              have hwr := wr60 hsum2
              have hno := no200 hsum2
              clear hsum2
              have HN := Lib.hid (And.intro hN hM)
              clear hnd2 hy hsum hN hM
              go_wp2_with fail
              refine (HI.out y (HX.out.1.item y HY.out.2.2) (wr.alloc (.cells #[.int .i64 y.f0, .string y.f1, .string y.f2, .slice B3 y.f3.length d3, .slice B4 y.f4.length d4] 25)) B3 B4 d3 d4 (HY.out.1.below (below_alloc (Below.refl _ _) _)) (dp + 1) (by have := HD.out.1; omega) (by have := HD.out.2; omega)).mono ?_
              rintro e w' ⟨rfl, hb⟩
              rw [← HN.out.2]
              have HB := Lib.hid hb
              clear hb
              go_wp2_with fail
              go_roundg (gk - 1)
              case measure => omega
              case rel =>
                refine ⟨j + 1, by omega, by go_num, Lib.hid ((hI.out.under (below_alloc (Below.refl _ _) _)).under HB.out), ?_⟩
                rw [nodes_take HY.out.2.1, ← Nat.add_assoc, ← HN.out.1, ← HN.out.2]
                try simp only [Int.natCast_add]
            · have hqe : ¬ ((j : Int) < (L : Int)) := by omega
              have hqe' : ¬ (j < L) := by omega
              have hjl : j = f4.length := by have := HX.out.2.2.2; omega
              rw [hjl, List.take_of_length_le (Nat.le_refl _)] at hN
              have HN := Lib.hid hN
              clear hN hjl
              go_wp2_with fail
              exact bodyPost_ret (v := .int .i64 (N : Int)) (by simp [results, Tryz.results43, go_sem]) rfl ⟨by rw [HN.out]; rfl, hI.out.below⟩
    · simp only at e0 e1 e2 e3 hne hit
      subst e0; subst e1; subst e2; subst e3
      have hz3 : L3 = 0 := by simpa using hL3
      subst hz3
      obtain ⟨L, hLL⟩ : ∃ L, L = L4 := ⟨_, rfl⟩
      subst hLL
      have HW0 := HC
      clear hx h hL3 hL4 hne hit
      go_enter Tryz.func43, Tryz.ntmps43
      go_wp2_with fail
      go_loopg [97, 5] L (fun k i v wr => ∃ j : Nat, j + k = L ∧ i = .int .i64 (j : Int) ∧ Hid (CI w #[.int .i64 3, .string noStr, .string noStr, .slice A3 0 c3, .slice A4 L c4] wr) ∧ v = .int .i64 ((1 + ((f4.take j).map (nodesN d)).sum : Nat) : Int))
      case atStart => exact ⟨0, by omega, rfl, HW0, by simp⟩
      case round =>
        obtain ⟨j, hj, rfl, hI, rfl⟩ := hrel
        obtain ⟨N, hN⟩ : ∃ N, N = 1 + ((f4.take j).map (nodesN d)).sum := ⟨_, rfl⟩
        rw [← hN]
        by_cases hlt : 1 ≤ gk
        · have hj2 : (j : Int) < (L : Int) := by omega
          have hj3 : j < L := by omega
          obtain ⟨y, hy⟩ : ∃ y, f4[j]? = some y := ⟨_, List.getElem?_eq_getElem (by have := HX.out.2.2.2; omega)⟩
          obtain ⟨ad4, B3, d3, B4, d4, rfl, y0, y1, y2, y3, y4, hnd2⟩ := (HX.out.2.1.below hI.out.below).frame.item j y hy
          have HY := Lib.hid (And.intro hnd2.now (And.intro hy (List.mem_of_getElem? hy)))
          have hsum : N + nodesN d y ≤ 60 := by
            have h1 := nodes_take (d := d) hy
            have h2 := nodes_pref (d := d) (l := f4) (j := j + 1)
            have h3 := HX.out.1.2
            rw [nodesN] at h3
            simp only at h3
            omega
          obtain ⟨M, hM⟩ : ∃ M, M = nodesN d y := ⟨_, rfl⟩
          have hsum2 : N + M ≤ 60 := by rw [hM]; exact hsum
          have hwr := wr60 hsum2
          have hno := no200 hsum2
          clear hsum2
          have HN := Lib.hid (And.intro hN hM)
          clear hnd2 hy hsum hN hM
          go_wp2_with fail
          refine (HI.out y (HX.out.1.item y HY.out.2.2) (wr.alloc (.cells #[.int .i64 y.f0, .string y.f1, .string y.f2, .slice B3 y.f3.length d3, .slice B4 y.f4.length d4] 25)) B3 B4 d3 d4 (HY.out.1.below (below_alloc (Below.refl _ _) _)) (dp + 1) (by have := HD.out.1; omega) (by have := HD.out.2; omega)).mono ?_
          rintro e w' ⟨rfl, hb⟩
          rw [← HN.out.2]
          have HB := Lib.hid hb
          clear hb
          go_wp2_with fail
          go_roundg (gk - 1)
          case measure => omega
          case rel =>
            refine ⟨j + 1, by omega, by go_num, Lib.hid ((hI.out.under (below_alloc (Below.refl _ _) _)).under HB.out), ?_⟩
            rw [nodes_take HY.out.2.1, ← Nat.add_assoc, ← HN.out.1, ← HN.out.2]
            try simp only [Int.natCast_add]
        · have hqe : ¬ ((j : Int) < (L : Int)) := by omega
          have hqe' : ¬ (j < L) := by omega
          have hjl : j = f4.length := by have := HX.out.2.2.2; omega
          rw [hjl, List.take_of_length_le (Nat.le_refl _)] at hN
          have HN := Lib.hid hN
          clear hN hjl
          go_wp2_with fail
          exact bodyPost_ret (v := .int .i64 (N : Int)) (by simp [results, Tryz.results43, go_sem]) rfl ⟨by rw [HN.out]; rfl, hI.out.below⟩
end Go.Proofs.YtghmajlfmoggfaaGreat
namespace Go.Proofs.YtghmajlfmoggfaaGreat
open Go.RowKit Go.Proofs.YtghmajlfmoggfaaGreatW.PrintWords Go.Proofs.YtghmajlfmoggfaaGreatW.PrintLast PFnMerge
def YesQ (w : World) (e : Ending) (w' : World) : Prop := e = .returned (.bool true) ∧ Below w.heap.size w w'
set_option maxRecDepth 20000 in
set_option maxHeartbeats 4000000 in
theorem right36 (w : World) (x : S25) (hx : TreeB 6 x) (A3 A4 : Option Addr) (c3 c4 : Nat) (h : NdR w x A3 c3 A4 c4) : Calls Tryz.prog 36 #[ndV x A3 c3 A4 c4] w fun e w' => YesQ w e w' := by
  have hb1 := below_alloc (Below.refl w.heap.size w) (.cells #[.int .i64 x.f0, .string x.f1, .string x.f2, .slice A3 x.f3.length c3, .slice A4 x.f4.length c4] 25)
  have HB := Lib.hid hb1
  have H := Lib.hid (And.intro h hx)
  obtain ⟨N, hN⟩ : ∃ N, N = nodesN 6 x := ⟨_, rfl⟩
  have hle : (N : Int) ≤ 200 := by have := hx.2; omega
  have HN := Lib.hid hN
  clear hb1 h hx hN
  go_enter Tryz.func36, Tryz.ntmps36
  go_wp2_with fail
  refine (count43 6 x H.out.2 _ A3 A4 c3 c4 (H.out.1.below HB.out) 1 (by omega) (by omega)).mono ?_
  rintro e w' ⟨rfl, hb⟩
  rw [← HN.out]
  have HB2 := Lib.hid hb
  clear hb
  go_wp2_with fail
  exact bodyPost_ret (v := .bool true) (by simp [results, Tryz.results36, go_sem]) rfl ⟨rfl, HB.out.trans (HB2.out.mono HB.out.size)⟩
theorem TreeP.kind_ne : ∀ {d : Nat} {x : S25}, TreeP d x → (x.f0 == 0) = false
  | 0, _, h => h.elim
  | d + 1, x, h => by rcases h with ⟨h, _⟩ | ⟨h, _⟩ | ⟨h, _⟩ <;> rw [h] <;> rfl
set_option maxRecDepth 20000 in
set_option maxHeartbeats 4000000 in
theorem taken26 (w : World) (x : S25) (hx : TreeB 6 x) (A3 A4 : Option Addr) (c3 c4 : Nat) (h : NdR w x A3 c3 A4 c4) : Calls Tryz.prog 26 #[ndV x A3 c3 A4 c4] w fun e w' => YesQ w e w' := by
  have hb1 := below_alloc (Below.refl w.heap.size w) (.cells #[.int .i64 x.f0, .string x.f1, .string x.f2, .slice A3 x.f3.length c3, .slice A4 x.f4.length c4] 25)
  have HB := Lib.hid hb1
  have H := Lib.hid (And.intro h hx)
  have hkk := hx.1.kind_ne
  clear hb1 h hx
  go_enter Tryz.func26, Tryz.ntmps26
  go_wp2_with fail
  refine (right36 _ x H.out.2 A3 A4 c3 c4 (H.out.1.below HB.out)).mono ?_
  rintro e w' ⟨rfl, hb⟩
  have HB2 := Lib.hid hb
  clear hb
  go_wp2_with fail
  exact bodyPost_ret (v := .bool true) (by simp [results, Tryz.results26, go_sem]) rfl ⟨rfl, HB.out.trans (HB2.out.mono HB.out.size)⟩
def RnQ (x : S25) (w : World) (e : Ending) (w' : World) : Prop := ∃ r b, e = .returned (.pointer (some ⟨r, 0, none⟩)) ∧ RNB w' r b ∧ Rep w' b x (fun k => w.heap.size ≤ k) ∧ Below w.heap.size w w'
set_option maxRecDepth 20000 in
set_option maxHeartbeats 4000000 in
theorem rnodeOf30 (w : World) (d : Nat) (x : S25) (hx : TreeP d x) (hwf : WfN d x) (A3 A4 : Option Addr) (c3 c4 : Nat) (h : NdR w x A3 c3 A4 c4) : Calls Tryz.prog 30 #[ndV x A3 c3 A4 c4] w fun e w' => RnQ x w e w' := by
  have hb1 := below_alloc (Below.refl w.heap.size w) (.cells #[.int .i64 x.f0, .string x.f1, .string x.f2, .slice A3 x.f3.length c3, .slice A4 x.f4.length c4] 25)
  have HB := Lib.hid hb1
  have H := Lib.hid (And.intro h hwf)
  have hkk := hx.kind_ne
  clear hb1 h hx hwf
  go_enter Tryz.func30, Tryz.ntmps30
  go_wp2_with fail
  refine (treeOf40 d x H.out.2 _ A3 A4 c3 c4 (Kd.C_below H.out.1.keys HB.out) H.out.1.kcap (Kd.C_below H.out.1.items HB.out) H.out.1.icap).mono ?_
  rintro e w' ⟨b, rfl, hrp, hb⟩
  have HR := Lib.hid (And.intro hrp hb)
  clear hrp hb
  go_wp2_with fail
  refine (newRNode w' (b := b)).mono ?_
  rintro e w'' ⟨rfl, rfl⟩
  go_wp2_with fail
  refine bodyPost_ret (v := .pointer (some ⟨w'.heap.size, 0, none⟩)) (by simp [results, Tryz.results30, go_sem]) rfl ⟨_, b, rfl, blk_new rfl _, ?_, ?_⟩
  · exact (HR.out.1.under (below_alloc (Below.refl _ _) _)).mono fun k hk => by have := HB.out.size; simp at hk this; omega
  · exact below_alloc (HB.out.trans (HR.out.2.mono HB.out.size)) _
def ToldQ (y : S25) (w : World) (e : Ending) (w' : World) : Prop := ∃ A3 c3 A4 c4, e = .returned (ndV y A3 c3 A4 c4) ∧ NdG w' (fun k => w.heap.size < k) y A3 c3 A4 c4 ∧ Below w.heap.size w w'
set_option maxRecDepth 20000 in
set_option maxHeartbeats 4000000 in
theorem told31 (w : World) (d : Nat) (y : S25) (r b : Nat) (F : Nat → Prop) (hr : RNB w r b) (hrep : Rep w b y F) (hsz : SzN d y) : Calls Tryz.prog 31 #[.pointer (some ⟨r, 0, none⟩)] w fun e w' => ToldQ y w e w' := by
  have hb1 := below_alloc (Below.refl w.heap.size w) (.cells #[.int .i64 0, .string noStr, .string noStr, nilS, nilS] 25)
  have HB := Lib.hid hb1
  have H := Lib.hid (And.intro hr (And.intro hrep hsz))
  clear hb1 hr hrep hsz
  obtain ⟨k, tag, val, C, hk1, hk2, _⟩ := H.out.2.1.node
  have HN := Lib.hid (And.intro hk1 hk2)
  clear hk1 hk2
  go_enter Tryz.func31, Tryz.ntmps31
  go_wp2_with fail
  refine (ynode_some _ (H.out.1.under HB.out) (HN.out.1.under HB.out) HN.out.2).mono ?_
  rintro e w' ⟨rfl, rfl⟩
  go_wp2_with fail
  refine (nodeOf41 d y H.out.2.2 _ b F (H.out.2.1.under HB.out)).mono ?_
  rintro e w' ⟨v, rfl, ⟨v3, v4, rfl, h3, h4⟩, hb⟩
  obtain ⟨A3, c3, rfl⟩ := Kd.R_slice h3
  obtain ⟨A4, c4, rfl⟩ := Kd.R_slice h4
  have HV := Lib.hid (And.intro h3 (And.intro h4 hb))
  have hres : w'.heap[w.heap.size]? = some (.cells #[.int .i64 0, .string noStr, .string noStr, nilS, nilS] 25 (0, 0)) := (hb.block _ (by simp)).trans (blk_new rfl _)
  have z0 := blk_frozen hres 0
  have z1 := blk_frozen hres 1
  have z2 := blk_frozen hres 2
  have z3 := blk_frozen hres 3
  have z4 := blk_frozen hres 4
  have r0 := (blk_cell hres 0).trans (show _ = some (.int .i64 0) from rfl)
  have r1 := (blk_cell hres 1).trans (show _ = some (.string noStr) from rfl)
  have r2 := (blk_cell hres 2).trans (show _ = some (.string noStr) from rfl)
  have r3 := (blk_cell hres 3).trans (show _ = some nilS from rfl)
  have r4 := (blk_cell hres 4).trans (show _ = some nilS from rfl)
  have HRES := Lib.hid hres
  clear h3 h4 hb hres
  go_wp2_with fail
  have hk := keep_put5 w' w.heap.size (.int .i64 y.f0) (.string y.f1) (.string y.f2) (.slice A3 y.f3.length c3) (.slice A4 y.f4.length c4)
  refine bodyPost_ret (results_cell_row rfl _ _ w.heap.size 25 #[.int .i64 y.f0, .string y.f1, .string y.f2, .slice A3 y.f3.length c3, .slice A4 y.f4.length c4] (0, 0) _ rfl (put5_blk HRES.out _ _ _ _ _) Tryz.underlying25 rfl (by kernel_rfl)) rfl ?_
  refine ⟨A3, c3, A4, c4, rfl, ?_, ?_⟩
  · have hsz : w.heap.size < (w.alloc (.cells #[.int .i64 0, .string noStr, .string noStr, nilS, nilS] 25)).heap.size := by simp
    have g3 := Kd.R_mono HV.out.1 (ok' := fun k => w.heap.size < k) fun k hk => Nat.lt_trans hsz hk
    have g4 := Kd.R_mono HV.out.2.1 (ok' := fun k => w.heap.size < k) fun k hk => Nat.lt_trans hsz hk
    have hg : NdG w' (fun k => w.heap.size < k) y A3 c3 A4 c4 := ⟨Kd.R_F g3, (Kd.R_reads' g3).2.1, Kd.R_F g4, (Kd.R_reads' g4).2.1⟩
    exact hg.keep hk fun k h1 h2 => by omega
  · exact (HB.out.trans (HV.out.2.2.mono HB.out.size)).trans (hk.below (Nat.le_trans HB.out.size HV.out.2.2.size) fun k _ e => by omega)
end Go.Proofs.YtghmajlfmoggfaaGreat
namespace Go.Proofs.YtghmajlfmoggfaaGreat
open Go.RowKit Go.Proofs.YtghmajlfmoggfaaGreatW.PrintWords Go.Proofs.YtghmajlfmoggfaaGreatW.PrintLast PFnMerge
theorem WordP.good {k : ByteArray} (h : WordP k) : k.toList.isEmpty = false ∧ k.size ≤ 1000000 ∧ (patchKey.toList == k.toList) = false := by
  refine ⟨?_, by have := h.le; omega, ?_⟩
  · have h1 := h.pos
    cases he : k.toList with
    | nil =>
      rw [ByteArray.toList_eq] at he
      have : k.data.size = 0 := by rw [← Array.length_toList, he]; rfl
      have h2 : k.size = k.data.size := rfl
      omega
    | cons a l => rfl
  · refine beq_false_of_ne fun e => ?_
    have h1 := h.first
    have h2 : patchKey.toList = [36, 112, 97, 116, 99, 104] := (ByteArray.toList_eq _).trans rfl
    rw [h2] at e
    rw [bt_head e.symm] at h1
    have : ((36 : UInt8).toNat : Int) = 36 := by decide
    omega
theorem TreeB.good : ∀ {d : Nat} {x : S25}, TreeB d x → Good d x := by
  intro d
  induction d with
  | zero => intro x h; exact h.1.elim
  | succ d ih =>
    intro x h
    have hl := h.len
    rcases h.1 with ⟨h1, _, _, h2⟩ | ⟨h1, _, _, h2, h3, h4, h5, h6⟩ | ⟨h1, _, _, _, h2, h3⟩
    · exact .inl ⟨h1, h2.tag_ne.1⟩
    · exact .inr (.inr ⟨h1, fun e => h5 (List.eq_nil_of_length_eq_zero (by rw [← h2, e]; rfl)), by omega, h3, fun k hk => (h4 k hk).good, fun z hz => ih (h.item z hz)⟩)
    · exact .inr (.inl ⟨h1, h2, by omega⟩)
theorem TreeB.tree : ∀ {d : Nat} {x : S25}, TreeB d x → TreeN d x := by
  intro d
  induction d with
  | zero => intro x h; exact h.1.elim
  | succ d ih =>
    intro x h
    have hl := h.len
    rcases h.1 with ⟨h1, h2, h3, _⟩ | ⟨h1, h2, h3, h4, h5, _, _, _⟩ | ⟨h1, h2, h3, h4, _, _⟩
    · exact .inl ⟨h1, h2, h3⟩
    · exact .inr (.inl ⟨h1, h2, h3, h4, by omega, h5, fun z hz => ih (h.item z hz)⟩)
    · exact .inr (.inr ⟨h1, h2, h3, h4, by omega, fun z hz => ih (h.item z hz)⟩)
def ZzQ (d : Nat) (yd ys : S25) (Fd : Nat → Prop) (w : World) (e : Ending) (w' : World) : Prop := ∃ r b ym F, e = .returned (.tuple #[.pointer (some ⟨r, 0, none⟩), .nilIface]) ∧ RNB w' r b ∧ MRel d yd ys ym ∧ Rep w' b ym F ∧ Keep Fd w w'
set_option maxRecDepth 20000 in
set_option maxHeartbeats 4000000 in
theorem zz29 (w : World) (d : Nat) (hd : d ≤ 100) (yd ys : S25) (hgd : Good d yd) (hgs : Good d ys) (hal : AlikeN d yd ys) (rd rs bd bs : Nat) (Fd Fs : Nat → Prop) (hrd : Rep w bd yd Fd) (hrs : Rep w bs ys Fs) (htd : ∀ k, Fd k → TB w k) (hts : ∀ k, Fs k → TB w k) (hdis : ∀ k, Fd k → Fs k → False) (hnd : RNB w rd bd) (hns : RNB w rs bs) (way : Int) :
    Calls Tryz.prog 29 #[.pointer (some ⟨rs, 0, none⟩), .pointer (some ⟨rd, 0, none⟩), .bool false, .agg #[.int .i64 way]] w fun e w' => ZzQ d yd ys Fd w e w' := by
  have H := Lib.hid (And.intro hgd (And.intro hgs (And.intro hal (And.intro hrd (And.intro hrs (And.intro htd (And.intro hts (And.intro hdis (And.intro hnd hns)))))))))
  clear hgd hgs hal hrd hrs htd hts hdis hnd hns
  go_enter Tryz.func29, Tryz.ntmps29
  go_wp2_with fail
  have hb : Below w.heap.size w ((w.alloc (.cells #[.int .i64 way] 54)).alloc (.cells #[.pointer (some ⟨rd, 0, none⟩), .pointer (some ⟨rs, 0, none⟩)] 47)) := below_alloc (below_alloc (Below.refl _ _) _) _
  have hs : SrcAt ((w.alloc (.cells #[.int .i64 way] 54)).alloc (.cells #[.pointer (some ⟨rd, 0, none⟩), .pointer (some ⟨rs, 0, none⟩)] 47)) (w.heap.size + 1) (some ⟨rd, 0, none⟩) (some ⟨rs, 0, none⟩) := ⟨_, blk_new (by simp) _, rfl, rfl⟩
  obtain ⟨W, hW⟩ : ∃ W, W = (w.alloc (.cells #[.int .i64 way] 54)).alloc (.cells #[.pointer (some ⟨rd, 0, none⟩), .pointer (some ⟨rs, 0, none⟩)] 47) := ⟨_, rfl⟩
  rw [← hW] at hb hs
  rw [← hW]
  clear hW
  have HB := Lib.hid (And.intro hb hs)
  clear hb hs
  refine (walk_both d yd ys H.out.1 H.out.2.1 H.out.2.2.1 W bd bs Fd Fs (H.out.2.2.2.1.under HB.out.1) (H.out.2.2.2.2.1.under HB.out.1) (fun k hk => (H.out.2.2.2.2.2.1 k hk).under HB.out.1) (fun k hk => (H.out.2.2.2.2.2.2.1 k hk).under HB.out.1) H.out.2.2.2.2.2.2.2.1 rd rs (H.out.2.2.2.2.2.2.2.2.1.under HB.out.1) (H.out.2.2.2.2.2.2.2.2.2.under HB.out.1) (.iface 60 (.agg #[])) (.slice none 0 0) (.int .i64 way) (w.heap.size + 1) 2 0 0 HB.out.2 VisQ.top (by omega) (PathOk.nil _) (by omega)).mono ?_
  rintro e w' ⟨q, rfl, r, b', ym, rfl, h1, h2, h3, _, h4⟩
  have HR := Lib.hid (And.intro h1 (And.intro h2 (And.intro h3 h4)))
  clear h1 h2 h3 h4
  go_wp2_with fail
  refine bodyPost_ret (v := .tuple #[.pointer (some ⟨r, 0, none⟩), .nilIface]) (by simp [results, Tryz.results29, go_sem]) rfl ⟨r, b', ym, _, rfl, HR.out.1, HR.out.2.1, HR.out.2.2.1, ?_⟩
  rcases HR.out.2.2.2 with ⟨_, hk⟩ | ⟨_, _, hk⟩
  · refine (Keep.of_below HB.out.1 Fd).trans hk fun k hlt hT => ?_
    rcases hT with hT | hT | hT
    · exact hT
    · omega
    · simp [Value.ownBlock] at hT
  · refine (Keep.of_below HB.out.1 Fd).trans hk fun k hlt hT => ?_
    rcases hT with hT | hT
    · omega
    · simp [Value.ownBlock] at hT
end Go.Proofs.YtghmajlfmoggfaaGreat
namespace Go.Proofs.YtghmajlfmoggfaaGreat
open Go.RowKit Go.Proofs.YtghmajlfmoggfaaGreatW.PrintWords Go.Proofs.YtghmajlfmoggfaaGreatW.PrintLast PFnMerge
def MeQ (y x : S25) (bo : Nat) (w : World) (e : Ending) (w' : World) : Prop := e = .returned (.bool true) ∧ ∃ ym A3 c3 A4 c4, MRel 6 y x ym ∧ w'.heap[bo]? = some (.cells #[.int .i64 ym.f0, .string ym.f1, .string ym.f2, .slice A3 ym.f3.length c3, .slice A4 ym.f4.length c4] 25 (0, 0)) ∧ NdG w' (fun k => w.heap.size ≤ k) ym A3 c3 A4 c4 ∧ Keep (fun k => k = bo) w w'
set_option maxRecDepth 20000 in
set_option maxHeartbeats 4000000 in
theorem merge28 (w : World) (x y : S25) (hx : TreeB 6 x) (hy : TreeB 6 y) (hal : AlikeN 6 y x) (A3 A4 B3 B4 : Option Addr) (c3 c4 d3 d4 : Nat) (hxr : NdR w x A3 c3 A4 c4) (hyr : NdR w y B3 d3 B4 d4) (ba bs bd bi bo : Nat) (ahead : Bool)
    (h1 : w.heap[ba]? = some (.cells #[.bool ahead] 4 (0, 0))) (h2 : w.heap[bs]? = some (.cells #[.int .i64 x.f0, .string x.f1, .string x.f2, .slice A3 x.f3.length c3, .slice A4 x.f4.length c4] 25 (0, 0))) (h3 : w.heap[bd]? = some (.cells #[.int .i64 y.f0, .string y.f1, .string y.f2, .slice B3 y.f3.length d3, .slice B4 y.f4.length d4] 25 (0, 0))) (h4 : w.heap[bi]? = some (.cells #[.bool false] 4 (0, 0))) (h5 : w.heap[bo]? = some (.cells #[.int .i64 0, .string noStr, .string noStr, nilS, nilS] 25 (0, 0))) :
    Calls Tryz.prog 28 #[.pointer (some ⟨ba, 0, none⟩), .pointer (some ⟨bs, 0, none⟩), .pointer (some ⟨bd, 0, none⟩), .pointer (some ⟨bi, 0, none⟩), .pointer (some ⟨bo, 0, none⟩)] w fun e w' => MeQ y x bo w e w' := by
  have a0 : w.cell? ⟨ba, 0, none⟩ = some (.bool ahead) := (blk_cell h1 0).trans rfl
  have x0 : w.cell? ⟨bs, 0, none⟩ = some (.int .i64 x.f0) := (blk_cell h2 0).trans rfl
  have x1 : w.cell? ⟨bs, 1, none⟩ = some (.string x.f1) := (blk_cell h2 1).trans rfl
  have x2 : w.cell? ⟨bs, 2, none⟩ = some (.string x.f2) := (blk_cell h2 2).trans rfl
  have x3 : w.cell? ⟨bs, 3, none⟩ = some (.slice A3 x.f3.length c3) := (blk_cell h2 3).trans rfl
  have x4 : w.cell? ⟨bs, 4, none⟩ = some (.slice A4 x.f4.length c4) := (blk_cell h2 4).trans rfl
  have y0 : w.cell? ⟨bd, 0, none⟩ = some (.int .i64 y.f0) := (blk_cell h3 0).trans rfl
  have y1 : w.cell? ⟨bd, 1, none⟩ = some (.string y.f1) := (blk_cell h3 1).trans rfl
  have y2 : w.cell? ⟨bd, 2, none⟩ = some (.string y.f2) := (blk_cell h3 2).trans rfl
  have y3 : w.cell? ⟨bd, 3, none⟩ = some (.slice B3 y.f3.length d3) := (blk_cell h3 3).trans rfl
  have y4 : w.cell? ⟨bd, 4, none⟩ = some (.slice B4 y.f4.length d4) := (blk_cell h3 4).trans rfl
  have i0 : w.cell? ⟨bi, 0, none⟩ = some (.bool false) := (blk_cell h4 0).trans rfl
  have H := Lib.hid (And.intro hx (And.intro hy (And.intro hal (And.intro hxr (And.intro hyr h5)))))
  clear hx hy hal hxr hyr h1 h2 h3 h4 h5
  cases ahead
  · go_enter Tryz.func28, Tryz.ntmps28
    go_wp2_with fail
    refine start_ (n := 13) (S := fun w' => w'.cell? ⟨bs, 0, none⟩ = some (.int .i64 x.f0) ∧ w'.cell? ⟨bs, 1, none⟩ = some (.string x.f1) ∧ w'.cell? ⟨bs, 2, none⟩ = some (.string x.f2) ∧ w'.cell? ⟨bs, 3, none⟩ = some (.slice A3 x.f3.length c3) ∧ w'.cell? ⟨bs, 4, none⟩ = some (.slice A4 x.f4.length c4) ∧ w'.cell? ⟨bd, 0, none⟩ = some (.int .i64 y.f0) ∧ w'.cell? ⟨bd, 1, none⟩ = some (.string y.f1) ∧ w'.cell? ⟨bd, 2, none⟩ = some (.string y.f2) ∧ w'.cell? ⟨bd, 3, none⟩ = some (.slice B3 y.f3.length d3) ∧ w'.cell? ⟨bd, 4, none⟩ = some (.slice B4 y.f4.length d4) ∧ w'.cell? ⟨bi, 0, none⟩ = some (.bool false)) (ds := []) #[false, false, false, false, false, false, false, false, false, false, false, false, false] (by kernel_rfl) rfl rfl ⟨x0, x1, x2, x3, x4, y0, y1, y2, y3, y4, i0⟩ (fun hHeld => ?_)
    refine pure_ (i := 5) (N := some 16) (v := ?_) (a' := ?_) (bl 13 32) rfl rfl (by kernel_rfl) (fun _ _ _ h => h) (Or.inl ⟨by rfl, ?_⟩) ?_ ?_; rotate_left; (· (intro w'; go_simp; with_reducible rfl)); rotate_left; (· (simp only [np]; rfl))
    refine pure_ (i := 6) (N := some 17) (v := ?_) (a' := ?_) (bl 13 96) rfl rfl (by kernel_rfl) (fun _ _ _ h => h) (Or.inl ⟨by rfl, ?_⟩) ?_ ?_; rotate_left; (· (intro w'; go_simp; with_reducible rfl)); rotate_left; (· (simp only [np]; rfl))
    refine take_ (i := 0) (N := some 11) (v := ?_) (a' := ?_) (bl 13 97) rfl rfl (by kernel_rfl) (fun _ _ _ h => h) (Or.inl ⟨by rfl, ?_⟩) hHeld ?_ ?_; rotate_left; (· (rintro w' ⟨s0, s1, s2, s3, s4, s5, s6, s7, s8, s9, s10⟩; go_simp; with_reducible rfl)); rotate_left; (· (simp only [np]; rfl))
    refine take_ (i := 2) (N := some 13) (v := ?_) (a' := ?_) (bl 13 101) rfl rfl (by kernel_rfl) (fun _ _ _ h => h) (Or.inl ⟨by rfl, ?_⟩) hHeld ?_ ?_; rotate_left; (· (rintro w' ⟨s0, s1, s2, s3, s4, s5, s6, s7, s8, s9, s10⟩; go_simp; with_reducible rfl)); rotate_left; (· (simp only [np]; rfl))
    refine take_ (i := 4) (N := some 15) (v := ?_) (a' := ?_) (bl 13 117) rfl rfl (by kernel_rfl) (fun _ _ _ h => h) (Or.inl ⟨by rfl, ?_⟩) hHeld ?_ ?_; rotate_left; (· (rintro w' ⟨s0, s1, s2, s3, s4, s5, s6, s7, s8, s9, s10⟩; go_simp; with_reducible rfl)); rotate_left; (· (simp only [np]; rfl))
    refine one_ (i := 1) (N := some 12) (bl 13 119) rfl rfl (by kernel_rfl) (by decide) (fun K hK => ?_)
    refine goes_ Tryz.func30 (by kernel_rfl) rfl #[ndV x A3 c3 A4 c4] (by rfl) rfl rfl (by simp only [List.map_toArray, List.map_cons, List.map_nil]; rfl) ?_
    refine (rnodeOf30 w.drew 6 x H.out.1.1 H.out.1.tree.wf A3 A4 c3 c4 (H.out.2.2.2.1.below (below_drew (Below.refl _ _)))).mono ?_
    rintro e w7 ⟨r1, b1, rfl, hr1, hp1, hb7⟩
    have H7 := Lib.hid (And.intro hr1 (And.intro hp1 hb7))
    have HB7 := Lib.hid hb7
    clear hr1 hp1 hb7
    refine ⟨_, rfl, ?_⟩
    refine hK.out _ _ ⟨(HB7.out.cell (World.block_lt_of_cell? _ _ hHeld.1)).trans hHeld.1, (HB7.out.cell (World.block_lt_of_cell? _ _ hHeld.2.1)).trans hHeld.2.1, (HB7.out.cell (World.block_lt_of_cell? _ _ hHeld.2.2.1)).trans hHeld.2.2.1, (HB7.out.cell (World.block_lt_of_cell? _ _ hHeld.2.2.2.1)).trans hHeld.2.2.2.1, (HB7.out.cell (World.block_lt_of_cell? _ _ hHeld.2.2.2.2.1)).trans hHeld.2.2.2.2.1, (HB7.out.cell (World.block_lt_of_cell? _ _ hHeld.2.2.2.2.2.1)).trans hHeld.2.2.2.2.2.1, (HB7.out.cell (World.block_lt_of_cell? _ _ hHeld.2.2.2.2.2.2.1)).trans hHeld.2.2.2.2.2.2.1, (HB7.out.cell (World.block_lt_of_cell? _ _ hHeld.2.2.2.2.2.2.2.1)).trans hHeld.2.2.2.2.2.2.2.1, (HB7.out.cell (World.block_lt_of_cell? _ _ hHeld.2.2.2.2.2.2.2.2.1)).trans hHeld.2.2.2.2.2.2.2.2.1, (HB7.out.cell (World.block_lt_of_cell? _ _ hHeld.2.2.2.2.2.2.2.2.2.1)).trans hHeld.2.2.2.2.2.2.2.2.2.1, (HB7.out.cell (World.block_lt_of_cell? _ _ hHeld.2.2.2.2.2.2.2.2.2.2)).trans hHeld.2.2.2.2.2.2.2.2.2.2⟩ (fun hHeld => ?_)
    clear hK K
    refine norm_ (a' := ?_) ?_ ?_; rotate_left; (· (show Act.put _ (some 12) _ = _; simp only [np]; rfl))
    refine one_ (i := 3) (N := some 14) (bl 13 127) rfl rfl (by kernel_rfl) (by decide) (fun K hK => ?_)
    refine goes_ Tryz.func30 (by kernel_rfl) rfl #[ndV y B3 d3 B4 d4] (by rfl) rfl rfl (by simp only [List.map_toArray, List.map_cons, List.map_nil]; rfl) ?_
    refine (rnodeOf30 w7 6 y H.out.2.1.1 H.out.2.1.tree.wf B3 B4 d3 d4 (H.out.2.2.2.2.1.below ((below_drew (Below.refl w.heap.size w)).trans HB7.out))).mono ?_
    rintro e w8 ⟨r2, b2, rfl, hr2, hp2, hb8⟩
    have H8 := Lib.hid (And.intro hr2 (And.intro hp2 hb8))
    have HB8 := Lib.hid hb8
    clear hr2 hp2 hb8
    refine ⟨_, rfl, ?_⟩
    refine hK.out _ _ ⟨(HB8.out.cell (World.block_lt_of_cell? _ _ hHeld.1)).trans hHeld.1, (HB8.out.cell (World.block_lt_of_cell? _ _ hHeld.2.1)).trans hHeld.2.1, (HB8.out.cell (World.block_lt_of_cell? _ _ hHeld.2.2.1)).trans hHeld.2.2.1, (HB8.out.cell (World.block_lt_of_cell? _ _ hHeld.2.2.2.1)).trans hHeld.2.2.2.1, (HB8.out.cell (World.block_lt_of_cell? _ _ hHeld.2.2.2.2.1)).trans hHeld.2.2.2.2.1, (HB8.out.cell (World.block_lt_of_cell? _ _ hHeld.2.2.2.2.2.1)).trans hHeld.2.2.2.2.2.1, (HB8.out.cell (World.block_lt_of_cell? _ _ hHeld.2.2.2.2.2.2.1)).trans hHeld.2.2.2.2.2.2.1, (HB8.out.cell (World.block_lt_of_cell? _ _ hHeld.2.2.2.2.2.2.2.1)).trans hHeld.2.2.2.2.2.2.2.1, (HB8.out.cell (World.block_lt_of_cell? _ _ hHeld.2.2.2.2.2.2.2.2.1)).trans hHeld.2.2.2.2.2.2.2.2.1, (HB8.out.cell (World.block_lt_of_cell? _ _ hHeld.2.2.2.2.2.2.2.2.2.1)).trans hHeld.2.2.2.2.2.2.2.2.2.1, (HB8.out.cell (World.block_lt_of_cell? _ _ hHeld.2.2.2.2.2.2.2.2.2.2)).trans hHeld.2.2.2.2.2.2.2.2.2.2⟩ (fun hHeld => ?_)
    clear hK K
    refine norm_ (a' := ?_) ?_ ?_; rotate_left; (· (show Act.put _ (some 14) _ = _; simp only [np]; rfl))
    refine one_ (i := 7) (N := some 18) (bl 13 255) rfl rfl (by kernel_rfl) (by decide) (fun K hK => ?_)
    refine goes_ Tryz.func29 (by kernel_rfl) rfl #[.pointer (some ⟨r1, 0, none⟩), .pointer (some ⟨r2, 0, none⟩), .bool false, .agg #[.int .i64 0]] (by rfl) rfl rfl (by simp only [List.map_toArray, List.map_cons, List.map_nil]; rfl) ?_
    have hps := H7.out.2.1.bound
    have hpd := H8.out.2.1.bound
    refine (zz29 w8 6 (by omega) y x H.out.2.1.good H.out.1.good H.out.2.2.1 r2 r1 b2 b1 _ _ hpd (hps.under HB8.out) (fun k hk => hk.2) (fun k hk => hk.2.under HB8.out) (fun k h1 h2 => Nat.lt_irrefl _ (Nat.lt_of_lt_of_le h2.2.lt h1.1)) H8.out.1 (H7.out.1.under HB8.out) 0).mono ?_
    rintro e w9 ⟨r, b, ym, F, rfl, h1, h2, h3, h4⟩
    have HB9 := Lib.hid (show Below w.heap.size w w9 from (((below_drew (Below.refl w.heap.size w)).trans HB7.out).trans (HB8.out.mono (show w.heap.size ≤ w7.heap.size from HB7.out.size))).trans (h4.below (Nat.le_trans (show w.heap.size ≤ w7.heap.size from HB7.out.size) HB8.out.size) fun k _ hk => Nat.le_trans (show w.heap.size ≤ w7.heap.size from HB7.out.size) hk.1))
    have HZ := Lib.hid (And.intro h1 (And.intro h2 h3))
    clear h1 h2 h3 h4 hps hpd
    refine ⟨_, rfl, ?_⟩
    refine hK.out _ _ ⟨(HB9.out.cell (World.block_lt_of_cell? w _ (x0))).trans (x0), (HB9.out.cell (World.block_lt_of_cell? w _ (x1))).trans (x1), (HB9.out.cell (World.block_lt_of_cell? w _ (x2))).trans (x2), (HB9.out.cell (World.block_lt_of_cell? w _ (x3))).trans (x3), (HB9.out.cell (World.block_lt_of_cell? w _ (x4))).trans (x4), (HB9.out.cell (World.block_lt_of_cell? w _ (y0))).trans (y0), (HB9.out.cell (World.block_lt_of_cell? w _ (y1))).trans (y1), (HB9.out.cell (World.block_lt_of_cell? w _ (y2))).trans (y2), (HB9.out.cell (World.block_lt_of_cell? w _ (y3))).trans (y3), (HB9.out.cell (World.block_lt_of_cell? w _ (y4))).trans (y4), (HB9.out.cell (World.block_lt_of_cell? w _ (i0))).trans (i0)⟩ (fun hHeld => ?_)
    clear hK K
    refine norm_ (a' := ?_) ?_ ?_; rotate_left; (· (show Act.put _ (some 18) _ = _; simp only [np]; rfl))
    refine pure_ (i := 8) (N := some 10) (v := ?_) (a' := ?_) (bl 13 511) rfl rfl (by kernel_rfl) (fun _ _ _ h => h) (Or.inl ⟨by rfl, ?_⟩) ?_ ?_; rotate_left; (· (intro w'; go_simp; with_reducible rfl)); rotate_left; (· (simp only [np]; rfl))
    refine pure_ (i := 9) (N := some 19) (v := ?_) (a' := ?_) (bl 13 1023) rfl rfl (by kernel_rfl) (fun _ _ _ h => h) (Or.inl ⟨by rfl, ?_⟩) ?_ ?_; rotate_left; (· (intro w'; go_simp; with_reducible rfl)); rotate_left; (· (simp only [np]; rfl))
    refine pure_ (i := 10) (N := some 20) (v := ?_) (a' := ?_) (bl 13 2047) rfl rfl (by kernel_rfl) (fun _ _ _ h => h) (Or.inl ⟨by rfl, ?_⟩) ?_ ?_; rotate_left; (· (intro w'; go_simp; with_reducible rfl)); rotate_left; (· (simp only [np]; rfl))
    refine pure_ (i := 11) (N := some 7) (v := ?_) (a' := ?_) (bl 13 4095) rfl rfl (by kernel_rfl) (fun _ _ _ h => h) (Or.inl ⟨by rfl, ?_⟩) ?_ ?_; rotate_left; (· (intro w'; go_simp; with_reducible rfl)); rotate_left; (· (simp only [np]; rfl))
    refine pure_ (i := 12) (N := some 8) (v := ?_) (a' := ?_) (bl 13 8191) rfl rfl (by kernel_rfl) (fun _ _ _ h => h) (Or.inl ⟨by rfl, ?_⟩) ?_ ?_; rotate_left; (· (intro w'; go_simp; with_reducible rfl)); rotate_left; (· (simp only [np]; rfl))
    refine done_ (by kernel_rfl) ?_
    go_wp2_with fail
    refine (told31 w9 6 ym r b F HZ.out.1 HZ.out.2.2 (mrel_size H.out.2.1.tree H.out.1.tree H.out.2.2.1 HZ.out.2.1)).mono ?_
    rintro e w10 ⟨M3, m3, M4, m4, rfl, hng, hb10⟩
    have HT := Lib.hid (And.intro hng hb10)
    have hbo := ((HB9.out.trans (hb10.mono HB9.out.size)).block bo (lt_of_block H.out.2.2.2.2.2)).trans H.out.2.2.2.2.2
    have z0 := blk_frozen hbo 0
    have z1 := blk_frozen hbo 1
    have z2 := blk_frozen hbo 2
    have z3 := blk_frozen hbo 3
    have z4 := blk_frozen hbo 4
    have k0 := (blk_cell hbo 0).trans (show _ = some (.int .i64 0) from rfl)
    have k1 := (blk_cell hbo 1).trans (show _ = some (.string noStr) from rfl)
    have k2 := (blk_cell hbo 2).trans (show _ = some (.string noStr) from rfl)
    have k3 := (blk_cell hbo 3).trans (show _ = some nilS from rfl)
    have k4 := (blk_cell hbo 4).trans (show _ = some nilS from rfl)
    have HBO := Lib.hid hbo
    clear hng hb10 hbo
    go_wp2_with fail
    have hk := keep_put5 w10 bo (.int .i64 ym.f0) (.string ym.f1) (.string ym.f2) (.slice M3 ym.f3.length m3) (.slice M4 ym.f4.length m4)
    have hlt := lt_of_block H.out.2.2.2.2.2
    have hs9 := HB9.out.size
    refine bodyPost_ret (v := .bool true) (by simp [results, Tryz.results28, go_sem]) rfl ⟨rfl, ym, M3, m3, M4, m4, HZ.out.2.1, put5_blk HBO.out _ _ _ _ _, ?_, ?_⟩
    · exact (HT.out.1.keep hk fun k h1 h2 => by omega).mono fun k hk' => by omega
    · exact (Keep.of_below (HB9.out.trans (HT.out.2.mono HB9.out.size)) fun k => k = bo).trans hk fun k _ e => e
  · go_enter Tryz.func28, Tryz.ntmps28
    go_wp2_with fail
    refine start_ (n := 13) (S := fun w' => w'.cell? ⟨bs, 0, none⟩ = some (.int .i64 x.f0) ∧ w'.cell? ⟨bs, 1, none⟩ = some (.string x.f1) ∧ w'.cell? ⟨bs, 2, none⟩ = some (.string x.f2) ∧ w'.cell? ⟨bs, 3, none⟩ = some (.slice A3 x.f3.length c3) ∧ w'.cell? ⟨bs, 4, none⟩ = some (.slice A4 x.f4.length c4) ∧ w'.cell? ⟨bd, 0, none⟩ = some (.int .i64 y.f0) ∧ w'.cell? ⟨bd, 1, none⟩ = some (.string y.f1) ∧ w'.cell? ⟨bd, 2, none⟩ = some (.string y.f2) ∧ w'.cell? ⟨bd, 3, none⟩ = some (.slice B3 y.f3.length d3) ∧ w'.cell? ⟨bd, 4, none⟩ = some (.slice B4 y.f4.length d4) ∧ w'.cell? ⟨bi, 0, none⟩ = some (.bool false)) (ds := []) #[false, false, false, false, false, false, false, false, false, false, false, false, false] (by kernel_rfl) rfl rfl ⟨x0, x1, x2, x3, x4, y0, y1, y2, y3, y4, i0⟩ (fun hHeld => ?_)
    refine pure_ (i := 5) (N := some 16) (v := ?_) (a' := ?_) (bl 13 32) rfl rfl (by kernel_rfl) (fun _ _ _ h => h) (Or.inl ⟨by rfl, ?_⟩) ?_ ?_; rotate_left; (· (intro w'; go_simp; with_reducible rfl)); rotate_left; (· (simp only [np]; rfl))
    refine pure_ (i := 6) (N := some 17) (v := ?_) (a' := ?_) (bl 13 96) rfl rfl (by kernel_rfl) (fun _ _ _ h => h) (Or.inl ⟨by rfl, ?_⟩) ?_ ?_; rotate_left; (· (intro w'; go_simp; with_reducible rfl)); rotate_left; (· (simp only [np]; rfl))
    refine take_ (i := 0) (N := some 11) (v := ?_) (a' := ?_) (bl 13 97) rfl rfl (by kernel_rfl) (fun _ _ _ h => h) (Or.inl ⟨by rfl, ?_⟩) hHeld ?_ ?_; rotate_left; (· (rintro w' ⟨s0, s1, s2, s3, s4, s5, s6, s7, s8, s9, s10⟩; go_simp; with_reducible rfl)); rotate_left; (· (simp only [np]; rfl))
    refine take_ (i := 2) (N := some 13) (v := ?_) (a' := ?_) (bl 13 101) rfl rfl (by kernel_rfl) (fun _ _ _ h => h) (Or.inl ⟨by rfl, ?_⟩) hHeld ?_ ?_; rotate_left; (· (rintro w' ⟨s0, s1, s2, s3, s4, s5, s6, s7, s8, s9, s10⟩; go_simp; with_reducible rfl)); rotate_left; (· (simp only [np]; rfl))
    refine take_ (i := 4) (N := some 15) (v := ?_) (a' := ?_) (bl 13 117) rfl rfl (by kernel_rfl) (fun _ _ _ h => h) (Or.inl ⟨by rfl, ?_⟩) hHeld ?_ ?_; rotate_left; (· (rintro w' ⟨s0, s1, s2, s3, s4, s5, s6, s7, s8, s9, s10⟩; go_simp; with_reducible rfl)); rotate_left; (· (simp only [np]; rfl))
    refine one_ (i := 1) (N := some 12) (bl 13 119) rfl rfl (by kernel_rfl) (by decide) (fun K hK => ?_)
    refine goes_ Tryz.func30 (by kernel_rfl) rfl #[ndV x A3 c3 A4 c4] (by rfl) rfl rfl (by simp only [List.map_toArray, List.map_cons, List.map_nil]; rfl) ?_
    refine (rnodeOf30 w.drew 6 x H.out.1.1 H.out.1.tree.wf A3 A4 c3 c4 (H.out.2.2.2.1.below (below_drew (Below.refl _ _)))).mono ?_
    rintro e w7 ⟨r1, b1, rfl, hr1, hp1, hb7⟩
    have H7 := Lib.hid (And.intro hr1 (And.intro hp1 hb7))
    have HB7 := Lib.hid hb7
    clear hr1 hp1 hb7
    refine ⟨_, rfl, ?_⟩
    refine hK.out _ _ ⟨(HB7.out.cell (World.block_lt_of_cell? _ _ hHeld.1)).trans hHeld.1, (HB7.out.cell (World.block_lt_of_cell? _ _ hHeld.2.1)).trans hHeld.2.1, (HB7.out.cell (World.block_lt_of_cell? _ _ hHeld.2.2.1)).trans hHeld.2.2.1, (HB7.out.cell (World.block_lt_of_cell? _ _ hHeld.2.2.2.1)).trans hHeld.2.2.2.1, (HB7.out.cell (World.block_lt_of_cell? _ _ hHeld.2.2.2.2.1)).trans hHeld.2.2.2.2.1, (HB7.out.cell (World.block_lt_of_cell? _ _ hHeld.2.2.2.2.2.1)).trans hHeld.2.2.2.2.2.1, (HB7.out.cell (World.block_lt_of_cell? _ _ hHeld.2.2.2.2.2.2.1)).trans hHeld.2.2.2.2.2.2.1, (HB7.out.cell (World.block_lt_of_cell? _ _ hHeld.2.2.2.2.2.2.2.1)).trans hHeld.2.2.2.2.2.2.2.1, (HB7.out.cell (World.block_lt_of_cell? _ _ hHeld.2.2.2.2.2.2.2.2.1)).trans hHeld.2.2.2.2.2.2.2.2.1, (HB7.out.cell (World.block_lt_of_cell? _ _ hHeld.2.2.2.2.2.2.2.2.2.1)).trans hHeld.2.2.2.2.2.2.2.2.2.1, (HB7.out.cell (World.block_lt_of_cell? _ _ hHeld.2.2.2.2.2.2.2.2.2.2)).trans hHeld.2.2.2.2.2.2.2.2.2.2⟩ (fun hHeld => ?_)
    clear hK K
    refine norm_ (a' := ?_) ?_ ?_; rotate_left; (· (show Act.put _ (some 12) _ = _; simp only [np]; rfl))
    refine one_ (i := 3) (N := some 14) (bl 13 127) rfl rfl (by kernel_rfl) (by decide) (fun K hK => ?_)
    refine goes_ Tryz.func30 (by kernel_rfl) rfl #[ndV y B3 d3 B4 d4] (by rfl) rfl rfl (by simp only [List.map_toArray, List.map_cons, List.map_nil]; rfl) ?_
    refine (rnodeOf30 w7 6 y H.out.2.1.1 H.out.2.1.tree.wf B3 B4 d3 d4 (H.out.2.2.2.2.1.below ((below_drew (Below.refl w.heap.size w)).trans HB7.out))).mono ?_
    rintro e w8 ⟨r2, b2, rfl, hr2, hp2, hb8⟩
    have H8 := Lib.hid (And.intro hr2 (And.intro hp2 hb8))
    have HB8 := Lib.hid hb8
    clear hr2 hp2 hb8
    refine ⟨_, rfl, ?_⟩
    refine hK.out _ _ ⟨(HB8.out.cell (World.block_lt_of_cell? _ _ hHeld.1)).trans hHeld.1, (HB8.out.cell (World.block_lt_of_cell? _ _ hHeld.2.1)).trans hHeld.2.1, (HB8.out.cell (World.block_lt_of_cell? _ _ hHeld.2.2.1)).trans hHeld.2.2.1, (HB8.out.cell (World.block_lt_of_cell? _ _ hHeld.2.2.2.1)).trans hHeld.2.2.2.1, (HB8.out.cell (World.block_lt_of_cell? _ _ hHeld.2.2.2.2.1)).trans hHeld.2.2.2.2.1, (HB8.out.cell (World.block_lt_of_cell? _ _ hHeld.2.2.2.2.2.1)).trans hHeld.2.2.2.2.2.1, (HB8.out.cell (World.block_lt_of_cell? _ _ hHeld.2.2.2.2.2.2.1)).trans hHeld.2.2.2.2.2.2.1, (HB8.out.cell (World.block_lt_of_cell? _ _ hHeld.2.2.2.2.2.2.2.1)).trans hHeld.2.2.2.2.2.2.2.1, (HB8.out.cell (World.block_lt_of_cell? _ _ hHeld.2.2.2.2.2.2.2.2.1)).trans hHeld.2.2.2.2.2.2.2.2.1, (HB8.out.cell (World.block_lt_of_cell? _ _ hHeld.2.2.2.2.2.2.2.2.2.1)).trans hHeld.2.2.2.2.2.2.2.2.2.1, (HB8.out.cell (World.block_lt_of_cell? _ _ hHeld.2.2.2.2.2.2.2.2.2.2)).trans hHeld.2.2.2.2.2.2.2.2.2.2⟩ (fun hHeld => ?_)
    clear hK K
    refine norm_ (a' := ?_) ?_ ?_; rotate_left; (· (show Act.put _ (some 14) _ = _; simp only [np]; rfl))
    refine one_ (i := 7) (N := some 18) (bl 13 255) rfl rfl (by kernel_rfl) (by decide) (fun K hK => ?_)
    refine goes_ Tryz.func29 (by kernel_rfl) rfl #[.pointer (some ⟨r1, 0, none⟩), .pointer (some ⟨r2, 0, none⟩), .bool false, .agg #[.int .i64 1]] (by rfl) rfl rfl (by simp only [List.map_toArray, List.map_cons, List.map_nil]; rfl) ?_
    have hps := H7.out.2.1.bound
    have hpd := H8.out.2.1.bound
    refine (zz29 w8 6 (by omega) y x H.out.2.1.good H.out.1.good H.out.2.2.1 r2 r1 b2 b1 _ _ hpd (hps.under HB8.out) (fun k hk => hk.2) (fun k hk => hk.2.under HB8.out) (fun k h1 h2 => Nat.lt_irrefl _ (Nat.lt_of_lt_of_le h2.2.lt h1.1)) H8.out.1 (H7.out.1.under HB8.out) 1).mono ?_
    rintro e w9 ⟨r, b, ym, F, rfl, h1, h2, h3, h4⟩
    have HB9 := Lib.hid (show Below w.heap.size w w9 from (((below_drew (Below.refl w.heap.size w)).trans HB7.out).trans (HB8.out.mono (show w.heap.size ≤ w7.heap.size from HB7.out.size))).trans (h4.below (Nat.le_trans (show w.heap.size ≤ w7.heap.size from HB7.out.size) HB8.out.size) fun k _ hk => Nat.le_trans (show w.heap.size ≤ w7.heap.size from HB7.out.size) hk.1))
    have HZ := Lib.hid (And.intro h1 (And.intro h2 h3))
    clear h1 h2 h3 h4 hps hpd
    refine ⟨_, rfl, ?_⟩
    refine hK.out _ _ ⟨(HB9.out.cell (World.block_lt_of_cell? w _ (x0))).trans (x0), (HB9.out.cell (World.block_lt_of_cell? w _ (x1))).trans (x1), (HB9.out.cell (World.block_lt_of_cell? w _ (x2))).trans (x2), (HB9.out.cell (World.block_lt_of_cell? w _ (x3))).trans (x3), (HB9.out.cell (World.block_lt_of_cell? w _ (x4))).trans (x4), (HB9.out.cell (World.block_lt_of_cell? w _ (y0))).trans (y0), (HB9.out.cell (World.block_lt_of_cell? w _ (y1))).trans (y1), (HB9.out.cell (World.block_lt_of_cell? w _ (y2))).trans (y2), (HB9.out.cell (World.block_lt_of_cell? w _ (y3))).trans (y3), (HB9.out.cell (World.block_lt_of_cell? w _ (y4))).trans (y4), (HB9.out.cell (World.block_lt_of_cell? w _ (i0))).trans (i0)⟩ (fun hHeld => ?_)
    clear hK K
    refine norm_ (a' := ?_) ?_ ?_; rotate_left; (· (show Act.put _ (some 18) _ = _; simp only [np]; rfl))
    refine pure_ (i := 8) (N := some 10) (v := ?_) (a' := ?_) (bl 13 511) rfl rfl (by kernel_rfl) (fun _ _ _ h => h) (Or.inl ⟨by rfl, ?_⟩) ?_ ?_; rotate_left; (· (intro w'; go_simp; with_reducible rfl)); rotate_left; (· (simp only [np]; rfl))
    refine pure_ (i := 9) (N := some 19) (v := ?_) (a' := ?_) (bl 13 1023) rfl rfl (by kernel_rfl) (fun _ _ _ h => h) (Or.inl ⟨by rfl, ?_⟩) ?_ ?_; rotate_left; (· (intro w'; go_simp; with_reducible rfl)); rotate_left; (· (simp only [np]; rfl))
    refine pure_ (i := 10) (N := some 20) (v := ?_) (a' := ?_) (bl 13 2047) rfl rfl (by kernel_rfl) (fun _ _ _ h => h) (Or.inl ⟨by rfl, ?_⟩) ?_ ?_; rotate_left; (· (intro w'; go_simp; with_reducible rfl)); rotate_left; (· (simp only [np]; rfl))
    refine pure_ (i := 11) (N := some 7) (v := ?_) (a' := ?_) (bl 13 4095) rfl rfl (by kernel_rfl) (fun _ _ _ h => h) (Or.inl ⟨by rfl, ?_⟩) ?_ ?_; rotate_left; (· (intro w'; go_simp; with_reducible rfl)); rotate_left; (· (simp only [np]; rfl))
    refine pure_ (i := 12) (N := some 8) (v := ?_) (a' := ?_) (bl 13 8191) rfl rfl (by kernel_rfl) (fun _ _ _ h => h) (Or.inl ⟨by rfl, ?_⟩) ?_ ?_; rotate_left; (· (intro w'; go_simp; with_reducible rfl)); rotate_left; (· (simp only [np]; rfl))
    refine done_ (by kernel_rfl) ?_
    go_wp2_with fail
    refine (told31 w9 6 ym r b F HZ.out.1 HZ.out.2.2 (mrel_size H.out.2.1.tree H.out.1.tree H.out.2.2.1 HZ.out.2.1)).mono ?_
    rintro e w10 ⟨M3, m3, M4, m4, rfl, hng, hb10⟩
    have HT := Lib.hid (And.intro hng hb10)
    have hbo := ((HB9.out.trans (hb10.mono HB9.out.size)).block bo (lt_of_block H.out.2.2.2.2.2)).trans H.out.2.2.2.2.2
    have z0 := blk_frozen hbo 0
    have z1 := blk_frozen hbo 1
    have z2 := blk_frozen hbo 2
    have z3 := blk_frozen hbo 3
    have z4 := blk_frozen hbo 4
    have k0 := (blk_cell hbo 0).trans (show _ = some (.int .i64 0) from rfl)
    have k1 := (blk_cell hbo 1).trans (show _ = some (.string noStr) from rfl)
    have k2 := (blk_cell hbo 2).trans (show _ = some (.string noStr) from rfl)
    have k3 := (blk_cell hbo 3).trans (show _ = some nilS from rfl)
    have k4 := (blk_cell hbo 4).trans (show _ = some nilS from rfl)
    have HBO := Lib.hid hbo
    clear hng hb10 hbo
    go_wp2_with fail
    have hk := keep_put5 w10 bo (.int .i64 ym.f0) (.string ym.f1) (.string ym.f2) (.slice M3 ym.f3.length m3) (.slice M4 ym.f4.length m4)
    have hlt := lt_of_block H.out.2.2.2.2.2
    have hs9 := HB9.out.size
    refine bodyPost_ret (v := .bool true) (by simp [results, Tryz.results28, go_sem]) rfl ⟨rfl, ym, M3, m3, M4, m4, HZ.out.2.1, put5_blk HBO.out _ _ _ _ _, ?_, ?_⟩
    · exact (HT.out.1.keep hk fun k h1 h2 => by omega).mono fun k hk' => by omega
    · exact (Keep.of_below (HB9.out.trans (HT.out.2.mono HB9.out.size)) fun k => k = bo).trans hk fun k _ e => e
end Go.Proofs.YtghmajlfmoggfaaGreat
