import Derived.Test.YtghmajlfmoggfaaGreatMS4
import Derived.Test.YtghmajlfmoggfaaGreatMG2
set_option linter.unusedSimpArgs false
set_option linter.unusedVariables false
namespace Go.Proofs.YtghmajlfmoggfaaGreat
open Go.RowKit Go.Proofs.YtghmajlfmoggfaaGreatW.PrintWords Go.Proofs.YtghmajlfmoggfaaGreatW.PrintLast PFnMerge
theorem sum_le_of_mem {α : Type} (f : α → Nat) {l : List α} {z : α} (h : z ∈ l) : f z ≤ (l.map f).sum := by
  induction l with
  | nil => cases h
  | cons a l ih =>
    rw [List.map_cons, List.sum_cons]
    rcases List.mem_cons.1 h with h | h
    · rw [h]; omega
    · have := ih h; omega
theorem len_le_sum {α : Type} (f : α → Nat) {l : List α} (h : ∀ z ∈ l, 1 ≤ f z) : l.length ≤ (l.map f).sum := by
  induction l with
  | nil => simp
  | cons a l ih =>
    rw [List.map_cons, List.sum_cons, List.length_cons]
    have h1 := h a (by simp)
    have h2 := ih fun z hz => h z (by simp [hz])
    omega
theorem TreeP.pos : ∀ {d : Nat} {x : S25}, TreeP d x → 1 ≤ nodesN d x
  | 0, _, h => h.elim
  | d + 1, x, _ => by rw [nodesN]; omega
def TreeB (d : Nat) (x : S25) : Prop := TreeP d x ∧ nodesN d x ≤ 60
theorem TreeB.item {d : Nat} {x : S25} (h : TreeB (d + 1) x) : ∀ z ∈ x.f4, TreeB d z := fun z hz => by
  refine ⟨h.1.item z hz, ?_⟩
  have h1 := sum_le_of_mem (nodesN d) hz
  have h2 := h.2
  rw [nodesN] at h2
  omega
theorem TreeB.len : ∀ {d : Nat} {x : S25}, TreeB d x → x.f4.length ≤ 60
  | 0, _, h => h.1.elim
  | d + 1, x, h => by
    have h1 := len_le_sum (nodesN d) fun z hz => (h.1.item z hz).pos
    have h2 := h.2
    rw [nodesN] at h2
    omega
theorem fld_at' {x : S25} {key : ByteArray} {v : S25} (h : fld x key v) : ∃ i : Nat, x.f3[i]? = some key ∧ x.f4[i]? = some v := by
  obtain ⟨i, hi⟩ := List.getElem?_of_mem h
  exact ⟨i, List.getElem?_zip_eq_some.1 hi⟩
def AlikeQ (d : Nat) (x y : S25) (w : World) (e : Ending) (w' : World) : Prop := ∃ b : Bool, e = .returned (.bool b) ∧ (b = true → AlikeN d x y) ∧ Below w.heap.size w w'
def AlikeC (d : Nat) : Prop := ∀ (x y : S25), TreeB d x → TreeB d y → ∀ (w : World) (A3 A4 B3 B4 : Option Addr) (c3 c4 d3 d4 : Nat), NdR w x A3 c3 A4 c4 → NdR w y B3 d3 B4 d4 → Calls Tryz.prog 22 #[ndV x A3 c3 A4 c4, ndV y B3 d3 B4 d4] w fun e w' => AlikeQ d x y w e w'
structure AK (w : World) (cs ds : Array Value) (wr : World) : Prop where
  below : Below w.heap.size w wr
  boxa : wr.heap[w.heap.size]? = some (.cells cs 25 (0, 0))
  boxb : wr.heap[w.heap.size + 1]? = some (.cells ds 25 (0, 0))
theorem AK.under {w : World} {cs ds : Array Value} {wr wr' : World} (h : AK w cs ds wr) (hb : Below wr.heap.size wr wr') : AK w cs ds wr' :=
  ⟨h.below.trans (hb.mono h.below.size), (hb.block _ (lt_of_block h.boxa)).trans h.boxa, (hb.block _ (lt_of_block h.boxb)).trans h.boxb⟩
set_option maxRecDepth 20000 in
set_option maxHeartbeats 8000000 in
theorem alike22 : ∀ d, AlikeC d := by
  intro d
  induction d with
  | zero => intro x y hx; exact hx.1.elim
  | succ d ih =>
    intro x y hx hy w A3 A4 B3 B4 c3 c4 d3 d4 ha hb
    obtain ⟨f0, f1, f2, f3, f4⟩ := x
    obtain ⟨g0, g1, g2, g3, g4⟩ := y
    obtain ⟨L3, hL3⟩ : ∃ L3, L3 = f3.length := ⟨_, rfl⟩
    obtain ⟨L4, hL4⟩ : ∃ L4, L4 = f4.length := ⟨_, rfl⟩
    obtain ⟨M3, hM3⟩ : ∃ M3, M3 = g3.length := ⟨_, rfl⟩
    obtain ⟨M4, hM4⟩ : ∃ M4, M4 = g4.length := ⟨_, rfl⟩
    have hargs : ndV ⟨f0, f1, f2, f3, f4⟩ A3 c3 A4 c4 = .agg #[.int .i64 f0, .string f1, .string f2, .slice A3 L3 c3, .slice A4 L4 c4] := by rw [hL3, hL4]
    have hargs2 : ndV ⟨g0, g1, g2, g3, g4⟩ B3 d3 B4 d4 = .agg #[.int .i64 g0, .string g1, .string g2, .slice B3 M3 d3, .slice B4 M4 d4] := by rw [hM3, hM4]
    rw [hargs, hargs2]
    clear hargs hargs2
    have HX := Lib.hid (And.intro hx (And.intro hy (And.intro ha hb)))
    have HL := Lib.hid (And.intro hL3 (And.intro hL4 (And.intro hM3 hM4)))
    have HI := Lib.hid ih
    have hn3 : (L3 : Int) ≤ 9223372036854775807 := by have := ha.klen; simp only at this; omega
    have hn4 : (L4 : Int) ≤ 1000000 := by have := hx.len; simp only at this; omega
    have hm4 : (M4 : Int) ≤ 1000000 := by have := hy.len; simp only at this; omega
    have HAK := Lib.hid (show AK w #[.int .i64 f0, .string f1, .string f2, .slice A3 L3 c3, .slice A4 L4 c4] #[.int .i64 g0, .string g1, .string g2, .slice B3 M3 d3, .slice B4 M4 d4] ((w.alloc (.cells #[.int .i64 f0, .string f1, .string f2, .slice A3 L3 c3, .slice A4 L4 c4] 25)).alloc (.cells #[.int .i64 g0, .string g1, .string g2, .slice B3 M3 d3, .slice B4 M4 d4] 25)) from ⟨below_alloc (below_alloc (Below.refl _ _) _) _, blk_old _ (blk_new rfl _), blk_new (by simp) _⟩)
    clear hx hy ha hb ih hL3 hL4 hM3 hM4
    by_cases hk : f0 = g0
    · subst hk
      go_enter Tryz.func22, Tryz.ntmps22
      go_wp2_with fail
      go_loopg [21] L3 (fun k i wr => ∃ j : Nat, j + k = L3 ∧ i = .int .i64 (j : Int) ∧ Hid (AK w #[.int .i64 f0, .string f1, .string f2, .slice A3 L3 c3, .slice A4 L4 c4] #[.int .i64 f0, .string g1, .string g2, .slice B3 M3 d3, .slice B4 M4 d4] wr ∧ ∀ (i : Nat) key a b, i < j → f3[i]? = some key → f4[i]? = some a → fieldO ⟨f0, g1, g2, g3, g4⟩ key = some b → AlikeN d a b))
      case atStart => exact ⟨0, by omega, rfl, Lib.hid ⟨HAK.out, fun i _ _ _ h => by omega⟩⟩
      case round =>
        obtain ⟨j, hj, rfl, hI⟩ := hrel
        by_cases hlt : 1 ≤ gk
        · have hj2 : (j : Int) < (L3 : Int) := by omega
          have hj3 : j < L3 := by omega
          have hjl : j < f3.length := by have := HL.out.1; omega
          obtain ⟨key, hkey⟩ : ∃ key, f3[j]? = some key := ⟨_, List.getElem?_eq_getElem hjl⟩
          have hf2 : f0 = 2 := by
            rcases HX.out.1.1 with ⟨_, h, _⟩ | ⟨h, _⟩ | ⟨_, _, _, h, _⟩
            · simp only at h; rw [h] at hjl; simp at hjl
            · exact h
            · simp only at h; rw [h] at hjl; simp at hjl
          have hl34 : f3.length = f4.length := HX.out.1.1.nd.2 hf2
          obtain ⟨a, haj⟩ : ∃ a, f4[j]? = some a := ⟨_, List.getElem?_eq_getElem (by omega)⟩
          have hj4 : (j : Int) < (L4 : Int) := by have := HL.out.2.1; omega
          have hj4' : j < L4 := by omega
          obtain ⟨ad3, rfl, x3⟩ := str_at (HX.out.2.2.1.keys) j key hjl hkey
          have x3' := (hI.out.1.below.cell (World.block_lt_of_cell? w _ x3)).trans x3
          have b0 : wr.cell? ⟨w.heap.size + 1, 0, none⟩ = some (.int .i64 f0) := (blk_cell hI.out.1.boxb 0).trans rfl
          have b1 : wr.cell? ⟨w.heap.size + 1, 1, none⟩ = some (.string g1) := (blk_cell hI.out.1.boxb 1).trans rfl
          have b2 : wr.cell? ⟨w.heap.size + 1, 2, none⟩ = some (.string g2) := (blk_cell hI.out.1.boxb 2).trans rfl
          have b3 : wr.cell? ⟨w.heap.size + 1, 3, none⟩ = some (.slice B3 M3 d3) := (blk_cell hI.out.1.boxb 3).trans rfl
          have b4 : wr.cell? ⟨w.heap.size + 1, 4, none⟩ = some (.slice B4 M4 d4) := (blk_cell hI.out.1.boxb 4).trans rfl
          have HK := Lib.hid (And.intro hkey (And.intro haj (List.mem_of_getElem? haj)))
          clear hjl hkey hf2 hl34 haj x3
          go_wp2_with fail
          have hcall := fieldX wr ⟨f0, g1, g2, g3, g4⟩ key B3 B4 d3 d4 (HX.out.2.2.2.below hI.out.1.below) HX.out.2.1.1.nd
          simp only [ndV, ← HL.out.2.2.1, ← HL.out.2.2.2] at hcall
          refine hcall.mono ?_
          clear hcall
          rintro e w' ⟨hb, ⟨v, E3, e3, E4, e4, rfl, h0, h1⟩ | ⟨rfl, h0⟩⟩
          · have HA1 := Lib.hid (hI.out.1.under hb)
            have HV := Lib.hid (And.intro h0 (And.intro h1 (And.intro hb (fieldO_inv h0))))
            clear h0 h1 hb b0 b1 b2 b3 b4
            go_wp2_with fail
            obtain ⟨W, hW⟩ : ∃ W, W = w'.alloc (.cells #[.int .i64 v.f0, .string v.f1, .string v.f2, .slice E3 v.f3.length e3, .slice E4 v.f4.length e4] 25) := ⟨_, rfl⟩
            have HA2 := Lib.hid (show AK w #[.int .i64 f0, .string f1, .string f2, .slice (some ad3) L3 c3, .slice A4 L4 c4] #[.int .i64 f0, .string g1, .string g2, .slice B3 M3 d3, .slice B4 M4 d4] W from hW ▸ HA1.out.under (below_alloc (Below.refl _ _) _))
            have HVW := Lib.hid (show NdR W v E3 e3 E4 e4 from hW ▸ HV.out.2.1.below (below_alloc (Below.refl _ _) _))
            have HBX := Lib.hid (show W.heap[w'.heap.size]? = some (.cells #[.int .i64 v.f0, .string v.f1, .string v.f2, .slice E3 v.f3.length e3, .slice E4 v.f4.length e4] 25 (0, 0)) from hW ▸ blk_new rfl _)
            rw [← hW]
            clear hW x3'
            obtain ⟨ad4, C3, cc3, C4, cc4, e4_, y0, y1, y2, y3, y4, hnd⟩ := (HX.out.2.2.1.below HA2.out.below).frame.item j a HK.out.2.1
            subst e4_
            have HND := Lib.hid hnd.now
            have x4 : W.cell? ⟨w.heap.size, 4, none⟩ = some (.slice (some ad4) L4 c4) := (blk_cell HA2.out.boxa 4).trans rfl
            have v0 : W.cell? ⟨w'.heap.size, 0, none⟩ = some (.int .i64 v.f0) := (blk_cell HBX.out 0).trans rfl
            have v1 : W.cell? ⟨w'.heap.size, 1, none⟩ = some (.string v.f1) := (blk_cell HBX.out 1).trans rfl
            have v2 : W.cell? ⟨w'.heap.size, 2, none⟩ = some (.string v.f2) := (blk_cell HBX.out 2).trans rfl
            have v3 : W.cell? ⟨w'.heap.size, 3, none⟩ = some (.slice E3 v.f3.length e3) := (blk_cell HBX.out 3).trans rfl
            have v4 : W.cell? ⟨w'.heap.size, 4, none⟩ = some (.slice E4 v.f4.length e4) := (blk_cell HBX.out 4).trans rfl
            clear hnd
            obtain ⟨vb, hvb⟩ : ∃ vb, vb = w'.heap.size := ⟨_, rfl⟩
            rw [← hvb] at v0 v1 v2 v3 v4
            rw [← hvb]
            clear hvb
            refine start_ (n := 11) (S := fun w' => w'.cell? ⟨w.heap.size, 4, none⟩ = some (.slice (some ad4) L4 c4) ∧ w'.cell? (ad4.add (j * 5)) = some (.int .i64 a.f0) ∧ w'.cell? ⟨(ad4.add (j * 5)).block, (ad4.add (j * 5)).off + 1, none⟩ = some (.string a.f1) ∧ w'.cell? ⟨(ad4.add (j * 5)).block, (ad4.add (j * 5)).off + 2, none⟩ = some (.string a.f2) ∧ w'.cell? ⟨(ad4.add (j * 5)).block, (ad4.add (j * 5)).off + 3, none⟩ = some (.slice C3 a.f3.length cc3) ∧ w'.cell? ⟨(ad4.add (j * 5)).block, (ad4.add (j * 5)).off + 4, none⟩ = some (.slice C4 a.f4.length cc4) ∧ w'.cell? ⟨vb, 0, none⟩ = some (.int .i64 v.f0) ∧ w'.cell? ⟨vb, 1, none⟩ = some (.string v.f1) ∧ w'.cell? ⟨vb, 2, none⟩ = some (.string v.f2) ∧ w'.cell? ⟨vb, 3, none⟩ = some (.slice E3 v.f3.length e3) ∧ w'.cell? ⟨vb, 4, none⟩ = some (.slice E4 v.f4.length e4)) (ds := []) #[false, false, false, false, false, false, false, false, false, false, false] (by kernel_rfl) rfl rfl ⟨x4, y0, y1, y2, y3, y4, v0, v1, v2, v3, v4⟩ (fun hHeld => ?_)
            refine pure_ (i := 0) (N := some 32) (v := ?_) (a' := ?_) (bl 11 1) rfl rfl (by kernel_rfl) (fun _ _ _ h => h) (Or.inl ⟨by rfl, ?_⟩) ?_ ?_; rotate_left; (· (intro w'; go_simp; with_reducible rfl)); rotate_left; (· (simp only [np]; rfl))
            refine pure_ (i := 1) (N := some 33) (v := ?_) (a' := ?_) (bl 11 3) rfl rfl (by kernel_rfl) (fun _ _ _ h => h) (Or.inl ⟨by rfl, ?_⟩) ?_ ?_; rotate_left; (· (intro w'; go_simp; with_reducible rfl)); rotate_left; (· (simp only [np]; rfl))
            refine pure_ (i := 2) (N := some 34) (v := ?_) (a' := ?_) (bl 11 7) rfl rfl (by kernel_rfl) (fun _ _ _ h => h) (Or.inl ⟨by rfl, ?_⟩) ?_ ?_; rotate_left; (· (intro w'; go_simp; with_reducible rfl)); rotate_left; (· (simp only [np]; rfl))
            refine pure_ (i := 4) (N := some 36) (v := ?_) (a' := ?_) (bl 11 23) rfl rfl (by kernel_rfl) (fun _ _ _ h => h) (Or.inl ⟨by rfl, ?_⟩) ?_ ?_; rotate_left; (· (intro w'; go_simp; with_reducible rfl)); rotate_left; (· (simp only [np]; rfl))
            refine take_ (i := 3) (N := some 35) (v := ?_) (a' := ?_) (bl 11 31) rfl rfl (by kernel_rfl) (fun _ _ _ h => h) (Or.inl ⟨by rfl, ?_⟩) hHeld ?_ ?_; rotate_left; (· (rintro w' ⟨s0, s1, s2, s3, s4, s5, s6, s7, s8, s9, s10⟩; go_simp; with_reducible rfl)); rotate_left; (· (simp only [np]; rfl))
            refine pure_ (i := 5) (N := some 37) (v := ?_) (a' := ?_) (bl 11 63) rfl rfl (by kernel_rfl) (fun _ _ _ h => h) (Or.inl ⟨by rfl, ?_⟩) ?_ ?_; rotate_left; (· (intro w'; go_simp; with_reducible rfl)); rotate_left; (· (simp only [np]; rfl))
            refine take_ (i := 6) (N := some 38) (v := ?_) (a' := ?_) (bl 11 127) rfl rfl (by kernel_rfl) (fun _ _ _ h => h) (Or.inl ⟨by rfl, ?_⟩) hHeld ?_ ?_; rotate_left; (· (rintro w' ⟨s0, s1, s2, s3, s4, s5, s6, s7, s8, s9, s10⟩; go_simp; with_reducible rfl)); rotate_left; (· (simp only [np]; rfl))
            refine take_ (i := 7) (N := some 39) (v := ?_) (a' := ?_) (bl 11 255) rfl rfl (by kernel_rfl) (fun _ _ _ h => h) (Or.inl ⟨by rfl, ?_⟩) hHeld ?_ ?_; rotate_left; (· (rintro w' ⟨s0, s1, s2, s3, s4, s5, s6, s7, s8, s9, s10⟩; go_simp; with_reducible rfl)); rotate_left; (· (simp only [np]; rfl))
            refine one_ (i := 8) (N := some 40) (bl 11 511) rfl rfl (by kernel_rfl) (by decide) (fun K hK => ?_)
            refine goes_ Tryz.func22 (by kernel_rfl) rfl #[ndV a C3 cc3 C4 cc4, ndV v E3 e3 E4 e4] (by rfl) rfl rfl (by simp only [List.map_toArray, List.map_cons, List.map_nil]; rfl) ?_
            refine (HI.out a v (HX.out.1.item a HK.out.2.2) (HX.out.2.1.item v (by obtain ⟨_, i, _, h⟩ := HV.out.2.2.2; exact List.mem_of_getElem? h)) _ C3 C4 E3 E4 cc3 cc4 e3 e4 (HND.out.below (below_drew (Below.refl _ _))) (HVW.out.below (below_drew (Below.refl _ _)))).mono ?_
            rintro e w9 ⟨bq, rfl, hq, hbc⟩
            have HQ := Lib.hid (And.intro hq hbc)
            have HBC := Lib.hid hbc
            clear hq hbc
            refine ⟨_, rfl, ?_⟩
            refine hK.out _ _ ⟨(HBC.out.cell (World.block_lt_of_cell? _ _ hHeld.1)).trans hHeld.1, (HBC.out.cell (World.block_lt_of_cell? _ _ hHeld.2.1)).trans hHeld.2.1, (HBC.out.cell (World.block_lt_of_cell? _ _ hHeld.2.2.1)).trans hHeld.2.2.1, (HBC.out.cell (World.block_lt_of_cell? _ _ hHeld.2.2.2.1)).trans hHeld.2.2.2.1, (HBC.out.cell (World.block_lt_of_cell? _ _ hHeld.2.2.2.2.1)).trans hHeld.2.2.2.2.1, (HBC.out.cell (World.block_lt_of_cell? _ _ hHeld.2.2.2.2.2.1)).trans hHeld.2.2.2.2.2.1, (HBC.out.cell (World.block_lt_of_cell? _ _ hHeld.2.2.2.2.2.2.1)).trans hHeld.2.2.2.2.2.2.1, (HBC.out.cell (World.block_lt_of_cell? _ _ hHeld.2.2.2.2.2.2.2.1)).trans hHeld.2.2.2.2.2.2.2.1, (HBC.out.cell (World.block_lt_of_cell? _ _ hHeld.2.2.2.2.2.2.2.2.1)).trans hHeld.2.2.2.2.2.2.2.2.1, (HBC.out.cell (World.block_lt_of_cell? _ _ hHeld.2.2.2.2.2.2.2.2.2.1)).trans hHeld.2.2.2.2.2.2.2.2.2.1, (HBC.out.cell (World.block_lt_of_cell? _ _ hHeld.2.2.2.2.2.2.2.2.2.2)).trans hHeld.2.2.2.2.2.2.2.2.2.2⟩ (fun hHeld => ?_)
            clear hK K
            refine norm_ (a' := ?_) ?_ ?_; rotate_left; (· (show Act.put _ (some 40) _ = _; simp only [np]; rfl))
            refine pure_ (i := 9) (N := some 41) (v := ?_) (a' := ?_) (bl 11 1023) rfl rfl (by kernel_rfl) (fun _ _ _ h => h) (Or.inl ⟨by rfl, ?_⟩) ?_ ?_; rotate_left; (· (intro w'; go_simp; with_reducible rfl)); rotate_left; (· (simp only [np]; rfl))
            refine pure_ (i := 10) (N := some 42) (v := ?_) (a' := ?_) (bl 11 2047) rfl rfl (by kernel_rfl) (fun _ _ _ h => h) (Or.inl ⟨by rfl, ?_⟩) ?_ ?_; rotate_left; (· (intro w'; go_simp; with_reducible rfl)); rotate_left; (· (simp only [np]; rfl))
            refine done_ (by kernel_rfl) ?_
            cases bq with
            | true =>
              go_wp2_with fail
              go_roundg (gk - 1)
              case measure => omega
              case rel =>
                refine ⟨j + 1, by omega, by go_num, Lib.hid ⟨HA2.out.under ((below_drew (Below.refl _ _)).trans HQ.out.2), fun i key' a' b' hi h1 h2 h3 => ?_⟩⟩
                rcases Nat.lt_or_ge i j with h4 | h4
                · exact hI.out.2 i key' a' b' h4 h1 h2 h3
                · obtain rfl : i = j := by omega
                  rw [HK.out.1] at h1
                  rw [HK.out.2.1] at h2
                  injection h1 with h1
                  injection h2 with h2
                  subst h1; subst h2
                  rw [HV.out.1] at h3
                  injection h3 with h3
                  subst h3
                  exact HQ.out.1 (by first | trivial | rfl)
            | false =>
              go_wp2_with fail
              exact bodyPost_ret (v := .bool false) (by simp [results, Tryz.results22, go_sem]) rfl ⟨false, rfl, by simp, (HA2.out.under ((below_drew (Below.refl _ _)).trans HQ.out.2)).below⟩
          · have HA1 := Lib.hid (hI.out.1.under hb)
            have HV := Lib.hid h0
            clear h0 hb b0 b1 b2 b3 b4
            go_wp2_with fail
            obtain ⟨W, hW⟩ : ∃ W, W = w'.alloc (.cells #[.int .i64 0, .string noStr, .string noStr, nilS, nilS] 25) := ⟨_, rfl⟩
            have HA2 := Lib.hid (show AK w #[.int .i64 f0, .string f1, .string f2, .slice (some ad3) L3 c3, .slice A4 L4 c4] #[.int .i64 f0, .string g1, .string g2, .slice B3 M3 d3, .slice B4 M4 d4] W from hW ▸ HA1.out.under (below_alloc (Below.refl _ _) _))
            rw [← hW]
            clear hW x3'
            refine start_ (n := 11) (S := fun w' => True) (ds := []) #[false, false, false, false, false, false, false, false, false, false, false] (by kernel_rfl) rfl rfl trivial (fun hHeld => ?_)
            refine pure_ (i := 0) (N := some 32) (v := ?_) (a' := ?_) (bl 11 1) rfl rfl (by kernel_rfl) (fun _ _ _ h => h) (Or.inl ⟨by rfl, ?_⟩) ?_ ?_; rotate_left; (· (intro w'; go_simp; with_reducible rfl)); rotate_left; (· (simp only [np]; rfl))
            refine pure_ (i := 1) (N := some 33) (v := ?_) (a' := ?_) (bl 11 3) rfl rfl (by kernel_rfl) (fun _ _ _ h => h) (Or.inl ⟨by rfl, ?_⟩) ?_ ?_; rotate_left; (· (intro w'; go_simp; with_reducible rfl)); rotate_left; (· (simp only [np]; rfl))
            refine pure_ (i := 2) (N := some 34) (v := undef) (a' := ?_) (bl 11 7) rfl rfl (by kernel_rfl) (fun _ _ _ h => h) (Or.inr ⟨by rfl, rfl⟩) ?_ ?_; rotate_left; (· (simp only [np]; rfl))
            refine pure_ (i := 3) (N := some 35) (v := undef) (a' := ?_) (bl 11 15) rfl rfl (by kernel_rfl) (fun _ _ _ h => h) (Or.inr ⟨by rfl, rfl⟩) ?_ ?_; rotate_left; (· (simp only [np]; rfl))
            refine pure_ (i := 4) (N := some 36) (v := undef) (a' := ?_) (bl 11 31) rfl rfl (by kernel_rfl) (fun _ _ _ h => h) (Or.inr ⟨by rfl, rfl⟩) ?_ ?_; rotate_left; (· (simp only [np]; rfl))
            refine pure_ (i := 5) (N := some 37) (v := undef) (a' := ?_) (bl 11 63) rfl rfl (by kernel_rfl) (fun _ _ _ h => h) (Or.inr ⟨by rfl, rfl⟩) ?_ ?_; rotate_left; (· (simp only [np]; rfl))
            refine pure_ (i := 6) (N := some 38) (v := undef) (a' := ?_) (bl 11 127) rfl rfl (by kernel_rfl) (fun _ _ _ h => h) (Or.inr ⟨by rfl, rfl⟩) ?_ ?_; rotate_left; (· (simp only [np]; rfl))
            refine pure_ (i := 7) (N := some 39) (v := undef) (a' := ?_) (bl 11 255) rfl rfl (by kernel_rfl) (fun _ _ _ h => h) (Or.inr ⟨by rfl, rfl⟩) ?_ ?_; rotate_left; (· (simp only [np]; rfl))
            refine pure_ (i := 8) (N := some 40) (v := undef) (a' := ?_) (bl 11 511) rfl rfl (by kernel_rfl) (fun _ _ _ h => h) (Or.inr ⟨by rfl, rfl⟩) ?_ ?_; rotate_left; (· (simp only [np]; rfl))
            refine pure_ (i := 9) (N := some 41) (v := undef) (a' := ?_) (bl 11 1023) rfl rfl (by kernel_rfl) (fun _ _ _ h => h) (Or.inr ⟨by rfl, rfl⟩) ?_ ?_; rotate_left; (· (simp only [np]; rfl))
            refine pure_ (i := 10) (N := some 42) (v := ?_) (a' := ?_) (bl 11 2047) rfl rfl (by kernel_rfl) (fun _ _ _ h => h) (Or.inl ⟨by rfl, ?_⟩) ?_ ?_; rotate_left; (· (intro w'; go_simp; with_reducible rfl)); rotate_left; (· (simp only [np]; rfl))
            refine done_ (by kernel_rfl) ?_
            go_wp2_with fail
            go_roundg (gk - 1)
            case measure => omega
            case rel =>
              refine ⟨j + 1, by omega, by go_num, Lib.hid ⟨HA2.out.under (below_drew (Below.refl _ _)), fun i key' a' b' hi h1 h2 h3 => ?_⟩⟩
              rcases Nat.lt_or_ge i j with h4 | h4
              · exact hI.out.2 i key' a' b' h4 h1 h2 h3
              · obtain rfl : i = j := by omega
                rw [HK.out.1] at h1
                injection h1 with h1
                subst h1
                rw [HV.out] at h3
                cases h3
        · have hqe : ¬ ((j : Int) < (L3 : Int)) := by omega
          have hqe' : ¬ (j < L3) := by omega
          have HAL := Lib.hid (show AlikeN (d + 1) ⟨f0, f1, f2, f3, f4⟩ ⟨f0, g1, g2, g3, g4⟩ from ⟨rfl, fun h2 key a b ha hb => by
            obtain ⟨i, h1, h3⟩ := fld_at' ha
            obtain ⟨i', h1', h3'⟩ := fld_at' hb
            exact hI.out.2 i key a b (by have := (List.getElem?_eq_some_iff.1 h1).1; have := HL.out.1; simp only at *; omega) h1 h3 (fieldO_some HX.out.2.1.1.nd.1 ⟨h2, i', h1', h3'⟩)⟩)
          have HA0 := Lib.hid hI.out.1
          have a0 : wr.cell? ⟨w.heap.size, 0, none⟩ = some (.int .i64 f0) := (blk_cell hI.out.1.boxa 0).trans rfl
          clear hI hj
          by_cases hf3 : f0 = 3
          · subst hf3
            obtain ⟨nx, hnx⟩ : ∃ b, b = namedB ⟨3, f1, f2, f3, f4⟩ := ⟨_, rfl⟩
            obtain ⟨ny, hny⟩ : ∃ b, b = namedB ⟨3, g1, g2, g3, g4⟩ := ⟨_, rfl⟩
            have HNX := Lib.hid (And.intro hnx hny)
            clear hnx hny
            have a1 : wr.cell? ⟨w.heap.size, 1, none⟩ = some (.string f1) := (blk_cell HA0.out.boxa 1).trans rfl
            have a2 : wr.cell? ⟨w.heap.size, 2, none⟩ = some (.string f2) := (blk_cell HA0.out.boxa 2).trans rfl
            have a3 : wr.cell? ⟨w.heap.size, 3, none⟩ = some (.slice A3 L3 c3) := (blk_cell HA0.out.boxa 3).trans rfl
            have a4 : wr.cell? ⟨w.heap.size, 4, none⟩ = some (.slice A4 L4 c4) := (blk_cell HA0.out.boxa 4).trans rfl
            have b0 : wr.cell? ⟨w.heap.size + 1, 0, none⟩ = some (.int .i64 3) := (blk_cell HA0.out.boxb 0).trans rfl
            have b1 : wr.cell? ⟨w.heap.size + 1, 1, none⟩ = some (.string g1) := (blk_cell HA0.out.boxb 1).trans rfl
            have b2 : wr.cell? ⟨w.heap.size + 1, 2, none⟩ = some (.string g2) := (blk_cell HA0.out.boxb 2).trans rfl
            have b3 : wr.cell? ⟨w.heap.size + 1, 3, none⟩ = some (.slice B3 M3 d3) := (blk_cell HA0.out.boxb 3).trans rfl
            have b4 : wr.cell? ⟨w.heap.size + 1, 4, none⟩ = some (.slice B4 M4 d4) := (blk_cell HA0.out.boxb 4).trans rfl
            go_wp2_with fail
            refine start_ (n := 5) (S := fun w' => w'.cell? ⟨w.heap.size, 0, none⟩ = some (.int .i64 3) ∧ w'.cell? ⟨w.heap.size, 1, none⟩ = some (.string f1) ∧ w'.cell? ⟨w.heap.size, 2, none⟩ = some (.string f2) ∧ w'.cell? ⟨w.heap.size, 3, none⟩ = some (.slice A3 L3 c3) ∧ w'.cell? ⟨w.heap.size, 4, none⟩ = some (.slice A4 L4 c4) ∧ w'.cell? ⟨w.heap.size + 1, 0, none⟩ = some (.int .i64 3) ∧ w'.cell? ⟨w.heap.size + 1, 1, none⟩ = some (.string g1) ∧ w'.cell? ⟨w.heap.size + 1, 2, none⟩ = some (.string g2) ∧ w'.cell? ⟨w.heap.size + 1, 3, none⟩ = some (.slice B3 M3 d3) ∧ w'.cell? ⟨w.heap.size + 1, 4, none⟩ = some (.slice B4 M4 d4)) (ds := []) #[false, false, false, false, false] (by kernel_rfl) rfl rfl ⟨a0, a1, a2, a3, a4, b0, b1, b2, b3, b4⟩ (fun hHeld => ?_)
            refine take_ (i := 0) (N := some 47) (v := ?_) (a' := ?_) (bl 5 1) rfl rfl (by kernel_rfl) (fun _ _ _ h => h) (Or.inl ⟨by rfl, ?_⟩) hHeld ?_ ?_; rotate_left; (· (rintro w' ⟨s0, s1, s2, s3, s4, s5, s6, s7, s8, s9⟩; go_simp; with_reducible rfl)); rotate_left; (· (simp only [np]; rfl))
            refine take_ (i := 2) (N := some 49) (v := ?_) (a' := ?_) (bl 5 5) rfl rfl (by kernel_rfl) (fun _ _ _ h => h) (Or.inl ⟨by rfl, ?_⟩) hHeld ?_ ?_; rotate_left; (· (rintro w' ⟨s0, s1, s2, s3, s4, s5, s6, s7, s8, s9⟩; go_simp; with_reducible rfl)); rotate_left; (· (simp only [np]; rfl))
            refine one_ (i := 1) (N := some 48) (bl 5 7) rfl rfl (by kernel_rfl) (by decide) (fun K hK => ?_)
            refine goes_ Tryz.func21 (by kernel_rfl) rfl #[.agg #[.int .i64 3, .string f1, .string f2, .slice A3 L3 c3, .slice A4 L4 c4]] (by rfl) rfl rfl (by simp only [List.map_toArray, List.map_cons, List.map_nil]; rfl) ?_
            have hcall := areNamed21 wr.drew ⟨3, f1, f2, f3, f4⟩ A3 A4 c3 c4 (HX.out.2.2.1.below (below_drew HA0.out.below)) (fun z hz => (HX.out.1.item z hz).1.nd) (by have := HX.out.1.len; simp only at *; omega)
            simp only [ndV, ← HL.out.1, ← HL.out.2.1] at hcall
            refine hcall.mono ?_
            clear hcall
            rintro e w7 ⟨e7, hbc⟩
            rw [← HNX.out.1] at e7
            subst e7
            have HB7 := Lib.hid hbc
            clear hbc
            refine ⟨_, rfl, ?_⟩
            refine hK.out _ _ ⟨(HB7.out.cell (World.block_lt_of_cell? _ _ hHeld.1)).trans hHeld.1, (HB7.out.cell (World.block_lt_of_cell? _ _ hHeld.2.1)).trans hHeld.2.1, (HB7.out.cell (World.block_lt_of_cell? _ _ hHeld.2.2.1)).trans hHeld.2.2.1, (HB7.out.cell (World.block_lt_of_cell? _ _ hHeld.2.2.2.1)).trans hHeld.2.2.2.1, (HB7.out.cell (World.block_lt_of_cell? _ _ hHeld.2.2.2.2.1)).trans hHeld.2.2.2.2.1, (HB7.out.cell (World.block_lt_of_cell? _ _ hHeld.2.2.2.2.2.1)).trans hHeld.2.2.2.2.2.1, (HB7.out.cell (World.block_lt_of_cell? _ _ hHeld.2.2.2.2.2.2.1)).trans hHeld.2.2.2.2.2.2.1, (HB7.out.cell (World.block_lt_of_cell? _ _ hHeld.2.2.2.2.2.2.2.1)).trans hHeld.2.2.2.2.2.2.2.1, (HB7.out.cell (World.block_lt_of_cell? _ _ hHeld.2.2.2.2.2.2.2.2.1)).trans hHeld.2.2.2.2.2.2.2.2.1, (HB7.out.cell (World.block_lt_of_cell? _ _ hHeld.2.2.2.2.2.2.2.2.2)).trans hHeld.2.2.2.2.2.2.2.2.2⟩ (fun hHeld => ?_)
            clear hK K
            refine norm_ (a' := ?_) ?_ ?_; rotate_left; (· (show Act.put _ (some 48) _ = _; simp only [np]; rfl))
            refine one_ (i := 3) (N := some 50) (bl 5 15) rfl rfl (by kernel_rfl) (by decide) (fun K hK => ?_)
            refine goes_ Tryz.func21 (by kernel_rfl) rfl #[.agg #[.int .i64 3, .string g1, .string g2, .slice B3 M3 d3, .slice B4 M4 d4]] (by rfl) rfl rfl (by simp only [List.map_toArray, List.map_cons, List.map_nil]; rfl) ?_
            have hcall := areNamed21 w7 ⟨3, g1, g2, g3, g4⟩ B3 B4 d3 d4 (HX.out.2.2.2.below (HA0.out.under ((below_drew (Below.refl wr.heap.size wr)).trans HB7.out)).below) (fun z hz => (HX.out.2.1.item z hz).1.nd) (by have := HX.out.2.1.len; simp only at *; omega)
            simp only [ndV, ← HL.out.2.2.1, ← HL.out.2.2.2] at hcall
            refine hcall.mono ?_
            clear hcall
            rintro e w8 ⟨e7, hbc⟩
            rw [← HNX.out.2] at e7
            subst e7
            have HB8 := Lib.hid hbc
            clear hbc
            refine ⟨_, rfl, ?_⟩
            refine hK.out _ _ ⟨(HB8.out.cell (World.block_lt_of_cell? _ _ hHeld.1)).trans hHeld.1, (HB8.out.cell (World.block_lt_of_cell? _ _ hHeld.2.1)).trans hHeld.2.1, (HB8.out.cell (World.block_lt_of_cell? _ _ hHeld.2.2.1)).trans hHeld.2.2.1, (HB8.out.cell (World.block_lt_of_cell? _ _ hHeld.2.2.2.1)).trans hHeld.2.2.2.1, (HB8.out.cell (World.block_lt_of_cell? _ _ hHeld.2.2.2.2.1)).trans hHeld.2.2.2.2.1, (HB8.out.cell (World.block_lt_of_cell? _ _ hHeld.2.2.2.2.2.1)).trans hHeld.2.2.2.2.2.1, (HB8.out.cell (World.block_lt_of_cell? _ _ hHeld.2.2.2.2.2.2.1)).trans hHeld.2.2.2.2.2.2.1, (HB8.out.cell (World.block_lt_of_cell? _ _ hHeld.2.2.2.2.2.2.2.1)).trans hHeld.2.2.2.2.2.2.2.1, (HB8.out.cell (World.block_lt_of_cell? _ _ hHeld.2.2.2.2.2.2.2.2.1)).trans hHeld.2.2.2.2.2.2.2.2.1, (HB8.out.cell (World.block_lt_of_cell? _ _ hHeld.2.2.2.2.2.2.2.2.2)).trans hHeld.2.2.2.2.2.2.2.2.2⟩ (fun hHeld => ?_)
            clear hK K
            refine norm_ (a' := ?_) ?_ ?_; rotate_left; (· (show Act.put _ (some 50) _ = _; simp only [np]; rfl))
            refine pure_ (i := 4) (N := some 51) (v := ?_) (a' := ?_) (bl 5 31) rfl rfl (by kernel_rfl) (fun _ _ _ h => h) (Or.inl ⟨by rfl, ?_⟩) ?_ ?_; rotate_left; (· (intro w'; go_simp; with_reducible rfl)); rotate_left; (· (simp only [np]; rfl))
            refine done_ (by kernel_rfl) ?_
            clear a0 a1 a2 a3 a4 b0 b1 b2 b3 b4
            have HA8 := Lib.hid ((HA0.out.under ((below_drew (Below.refl wr.heap.size wr)).trans HB7.out)).under HB8.out)
            have a4 : w8.cell? ⟨w.heap.size, 4, none⟩ = some (.slice A4 L4 c4) := (blk_cell HA8.out.boxa 4).trans rfl
            by_cases hxy : nx = ny
            · subst hxy
              have hxb : (nx != nx) = false := by cases nx <;> rfl
              have hxc : (!(nx == nx)) = false := by cases nx <;> rfl
              first | rw [hxb] | rw [hxc] | trace_state
              go_wp2_with fail
              clear a4 hxb hxc
              go_loopg [55] L4 (fun k i wr => ∃ j : Nat, j + k = L4 ∧ i = .int .i64 (j : Int) ∧ Hid (AK w #[.int .i64 3, .string f1, .string f2, .slice A3 L3 c3, .slice A4 L4 c4] #[.int .i64 3, .string g1, .string g2, .slice B3 M3 d3, .slice B4 M4 d4] wr))
              case atStart => exact ⟨0, by omega, rfl, HA8⟩
              case round =>
                obtain ⟨j, hj, rfl, hI⟩ := hrel
                obtain ⟨gk0, hgk0⟩ : ∃ g, g = gk := ⟨_, rfl⟩
                by_cases hlt : 1 ≤ gk
                · have hj2 : (j : Int) < (L4 : Int) := by omega
                  have hj3 : j < L4 := by omega
                  obtain ⟨a, haj⟩ : ∃ a, f4[j]? = some a := ⟨_, List.getElem?_eq_getElem (by have := HL.out.2.1; omega)⟩
                  obtain ⟨ad4, C3, cc3, C4, cc4, e4_, y0, y1, y2, y3, y4, hnd⟩ := (HX.out.2.2.1.below hI.out.below).frame.item j a haj
                  subst e4_
                  have b4 : wr.cell? ⟨w.heap.size + 1, 4, none⟩ = some (.slice B4 M4 d4) := (blk_cell hI.out.boxb 4).trans rfl
                  have b4' : (wr.alloc (.cells #[.int .i64 a.f0, .string a.f1, .string a.f2, .slice C3 a.f3.length cc3, .slice C4 a.f4.length cc4] 25)).cell? ⟨w.heap.size + 1, 4, none⟩ = some (.slice B4 M4 d4) := (blk_cell (blk_old _ hI.out.boxb) 4).trans rfl
                  have HND := Lib.hid (And.intro hnd.now (List.mem_of_getElem? haj))
                  clear hnd haj
                  go_wp2_with fail
                  obtain ⟨W, hW⟩ : ∃ W, W = wr.alloc (.cells #[.int .i64 a.f0, .string a.f1, .string a.f2, .slice C3 a.f3.length cc3, .slice C4 a.f4.length cc4] 25) := ⟨_, rfl⟩
                  obtain ⟨ab, hab⟩ : ∃ ab, ab = wr.heap.size := ⟨_, rfl⟩
                  have HAW := Lib.hid (show AK w #[.int .i64 3, .string f1, .string f2, .slice A3 L3 c3, .slice (some ad4) L4 c4] #[.int .i64 3, .string g1, .string g2, .slice B3 M3 d3, .slice B4 M4 d4] W ∧ W.heap[ab]? = some (.cells #[.int .i64 a.f0, .string a.f1, .string a.f2, .slice C3 a.f3.length cc3, .slice C4 a.f4.length cc4] 25 (0, 0)) ∧ NdR W a C3 cc3 C4 cc4 from hW ▸ ⟨hI.out.under (below_alloc (Below.refl _ _) _), hab ▸ blk_new rfl _, HND.out.1.below (below_alloc (Below.refl _ _) _)⟩)
                  rw [← hW, ← hab]
                  clear hW hab y0 y1 y2 y3 y4 b4 b4'
                  go_loopg [62] M4 (fun k i wr => ∃ q : Nat, q + k = M4 ∧ i = .int .i64 (q : Int) ∧ Hid (AK w #[.int .i64 3, .string f1, .string f2, .slice A3 L3 c3, .slice (some ad4) L4 c4] #[.int .i64 3, .string g1, .string g2, .slice B3 M3 d3, .slice B4 M4 d4] wr ∧ wr.heap[ab]? = some (.cells #[.int .i64 a.f0, .string a.f1, .string a.f2, .slice C3 a.f3.length cc3, .slice C4 a.f4.length cc4] 25 (0, 0)) ∧ NdR wr a C3 cc3 C4 cc4))
                  case atStart => exact ⟨0, by omega, rfl, HAW⟩
                  case round =>
                    obtain ⟨q, hq, rfl, hJ⟩ := hrel
                    by_cases hlt2 : 1 ≤ gk
                    · have hq2 : (q : Int) < (M4 : Int) := by omega
                      have hq3 : q < M4 := by omega
                      obtain ⟨v, hvq⟩ : ∃ v, g4[q]? = some v := ⟨_, List.getElem?_eq_getElem (by have := HL.out.2.2.2; omega)⟩
                      obtain ⟨bd4, E3, e3, E4, e4, e4_, y0, y1, y2, y3, y4, hnd⟩ := (HX.out.2.2.2.below hJ.out.1.below).frame.item q v hvq
                      subst e4_
                      have HVD := Lib.hid (And.intro hnd.now (List.mem_of_getElem? hvq))
                      clear hnd hvq
                      go_wp2_with fail
                      obtain ⟨Z, hZ⟩ : ∃ Z, Z = wr.alloc (.cells #[.int .i64 v.f0, .string v.f1, .string v.f2, .slice E3 v.f3.length e3, .slice E4 v.f4.length e4] 25) := ⟨_, rfl⟩
                      obtain ⟨vb, hvb⟩ : ∃ vb, vb = wr.heap.size := ⟨_, rfl⟩
                      have HZ := Lib.hid (show (AK w #[.int .i64 3, .string f1, .string f2, .slice A3 L3 c3, .slice (some ad4) L4 c4] #[.int .i64 3, .string g1, .string g2, .slice B3 M3 d3, .slice (some bd4) M4 d4] Z ∧ Z.heap[ab]? = some (.cells #[.int .i64 a.f0, .string a.f1, .string a.f2, .slice C3 a.f3.length cc3, .slice C4 a.f4.length cc4] 25 (0, 0)) ∧ NdR Z a C3 cc3 C4 cc4) ∧ Z.heap[vb]? = some (.cells #[.int .i64 v.f0, .string v.f1, .string v.f2, .slice E3 v.f3.length e3, .slice E4 v.f4.length e4] 25 (0, 0)) ∧ NdR Z v E3 e3 E4 e4 from hZ ▸ ⟨⟨hJ.out.1.under (below_alloc (Below.refl _ _) _), blk_old _ hJ.out.2.1, hJ.out.2.2.below (below_alloc (Below.refl _ _) _)⟩, hvb ▸ blk_new rfl _, HVD.out.1.below (below_alloc (Below.refl _ _) _)⟩)
                      rw [← hZ, ← hvb]
                      clear hZ hvb y0 y1 y2 y3 y4
                      have s0 : Z.cell? ⟨w.heap.size, 0, none⟩ = some (.int .i64 3) := (blk_cell HZ.out.1.1.boxa 0).trans rfl
                      have s1 : Z.cell? ⟨w.heap.size, 1, none⟩ = some (.string f1) := (blk_cell HZ.out.1.1.boxa 1).trans rfl
                      have s2 : Z.cell? ⟨w.heap.size, 2, none⟩ = some (.string f2) := (blk_cell HZ.out.1.1.boxa 2).trans rfl
                      have s3 : Z.cell? ⟨w.heap.size, 3, none⟩ = some (.slice A3 L3 c3) := (blk_cell HZ.out.1.1.boxa 3).trans rfl
                      have s4 : Z.cell? ⟨w.heap.size, 4, none⟩ = some (.slice (some ad4) L4 c4) := (blk_cell HZ.out.1.1.boxa 4).trans rfl
                      have t0 : Z.cell? ⟨ab, 0, none⟩ = some (.int .i64 a.f0) := (blk_cell HZ.out.1.2.1 0).trans rfl
                      have t1 : Z.cell? ⟨ab, 1, none⟩ = some (.string a.f1) := (blk_cell HZ.out.1.2.1 1).trans rfl
                      have t2 : Z.cell? ⟨ab, 2, none⟩ = some (.string a.f2) := (blk_cell HZ.out.1.2.1 2).trans rfl
                      have t3 : Z.cell? ⟨ab, 3, none⟩ = some (.slice C3 a.f3.length cc3) := (blk_cell HZ.out.1.2.1 3).trans rfl
                      have t4 : Z.cell? ⟨ab, 4, none⟩ = some (.slice C4 a.f4.length cc4) := (blk_cell HZ.out.1.2.1 4).trans rfl
                      have r0 : Z.cell? ⟨vb, 0, none⟩ = some (.int .i64 v.f0) := (blk_cell HZ.out.2.1 0).trans rfl
                      have r1 : Z.cell? ⟨vb, 1, none⟩ = some (.string v.f1) := (blk_cell HZ.out.2.1 1).trans rfl
                      have r2 : Z.cell? ⟨vb, 2, none⟩ = some (.string v.f2) := (blk_cell HZ.out.2.1 2).trans rfl
                      have r3 : Z.cell? ⟨vb, 3, none⟩ = some (.slice E3 v.f3.length e3) := (blk_cell HZ.out.2.1 3).trans rfl
                      have r4 : Z.cell? ⟨vb, 4, none⟩ = some (.slice E4 v.f4.length e4) := (blk_cell HZ.out.2.1 4).trans rfl
                      cases nx with
                      | false =>
                        refine start_ (n := 15) (S := fun w' => w'.cell? ⟨w.heap.size, 0, none⟩ = some (.int .i64 3) ∧ w'.cell? ⟨w.heap.size, 1, none⟩ = some (.string f1) ∧ w'.cell? ⟨w.heap.size, 2, none⟩ = some (.string f2) ∧ w'.cell? ⟨w.heap.size, 3, none⟩ = some (.slice A3 L3 c3) ∧ w'.cell? ⟨w.heap.size, 4, none⟩ = some (.slice (some ad4) L4 c4) ∧ w'.cell? ⟨ab, 0, none⟩ = some (.int .i64 a.f0) ∧ w'.cell? ⟨ab, 1, none⟩ = some (.string a.f1) ∧ w'.cell? ⟨ab, 2, none⟩ = some (.string a.f2) ∧ w'.cell? ⟨ab, 3, none⟩ = some (.slice C3 a.f3.length cc3) ∧ w'.cell? ⟨ab, 4, none⟩ = some (.slice C4 a.f4.length cc4) ∧ w'.cell? ⟨vb, 0, none⟩ = some (.int .i64 v.f0) ∧ w'.cell? ⟨vb, 1, none⟩ = some (.string v.f1) ∧ w'.cell? ⟨vb, 2, none⟩ = some (.string v.f2) ∧ w'.cell? ⟨vb, 3, none⟩ = some (.slice E3 v.f3.length e3) ∧ w'.cell? ⟨vb, 4, none⟩ = some (.slice E4 v.f4.length e4)) (ds := []) #[false, false, false, false, false, false, false, false, false, false, false, false, false, false, false] (by kernel_rfl) rfl rfl ⟨s0, s1, s2, s3, s4, t0, t1, t2, t3, t4, r0, r1, r2, r3, r4⟩ (fun hHeld => ?_)
                        refine take_ (i := 0) (N := some 66) (v := ?_) (a' := ?_) (bl 15 1) rfl rfl (by kernel_rfl) (fun _ _ _ h => h) (Or.inl ⟨by rfl, ?_⟩) hHeld ?_ ?_; rotate_left; (· (rintro w' ⟨s0, s1, s2, s3, s4, s5, s6, s7, s8, s9, s10, s11, s12, s13, s14⟩; go_simp; with_reducible rfl)); rotate_left; (· (simp only [np]; rfl))
                        refine one_ (i := 1) (N := some 67) (bl 15 3) rfl rfl (by kernel_rfl) (by decide) (fun K hK => ?_)
                        refine goes_ Tryz.func21 (by kernel_rfl) rfl #[.agg #[.int .i64 3, .string f1, .string f2, .slice A3 L3 c3, .slice (some ad4) L4 c4]] (by rfl) rfl rfl (by simp only [List.map_toArray, List.map_cons, List.map_nil]; rfl) ?_
                        have hcall := areNamed21 Z.drew ⟨3, f1, f2, f3, f4⟩ A3 (some ad4) c3 c4 (HX.out.2.2.1.below (below_drew HZ.out.1.1.below)) (fun z hz => (HX.out.1.item z hz).1.nd) (by have := HX.out.1.len; simp only at *; omega)
                        simp only [ndV, ← HL.out.1, ← HL.out.2.1] at hcall
                        refine hcall.mono ?_
                        clear hcall
                        rintro e w7 ⟨e7, hbc⟩
                        rw [← HNX.out.1] at e7
                        subst e7
                        have HB7 := Lib.hid hbc
                        clear hbc
                        refine ⟨_, rfl, ?_⟩
                        refine hK.out _ _ ⟨(HB7.out.cell (World.block_lt_of_cell? _ _ hHeld.1)).trans hHeld.1, (HB7.out.cell (World.block_lt_of_cell? _ _ hHeld.2.1)).trans hHeld.2.1, (HB7.out.cell (World.block_lt_of_cell? _ _ hHeld.2.2.1)).trans hHeld.2.2.1, (HB7.out.cell (World.block_lt_of_cell? _ _ hHeld.2.2.2.1)).trans hHeld.2.2.2.1, (HB7.out.cell (World.block_lt_of_cell? _ _ hHeld.2.2.2.2.1)).trans hHeld.2.2.2.2.1, (HB7.out.cell (World.block_lt_of_cell? _ _ hHeld.2.2.2.2.2.1)).trans hHeld.2.2.2.2.2.1, (HB7.out.cell (World.block_lt_of_cell? _ _ hHeld.2.2.2.2.2.2.1)).trans hHeld.2.2.2.2.2.2.1, (HB7.out.cell (World.block_lt_of_cell? _ _ hHeld.2.2.2.2.2.2.2.1)).trans hHeld.2.2.2.2.2.2.2.1, (HB7.out.cell (World.block_lt_of_cell? _ _ hHeld.2.2.2.2.2.2.2.2.1)).trans hHeld.2.2.2.2.2.2.2.2.1, (HB7.out.cell (World.block_lt_of_cell? _ _ hHeld.2.2.2.2.2.2.2.2.2.1)).trans hHeld.2.2.2.2.2.2.2.2.2.1, (HB7.out.cell (World.block_lt_of_cell? _ _ hHeld.2.2.2.2.2.2.2.2.2.2.1)).trans hHeld.2.2.2.2.2.2.2.2.2.2.1, (HB7.out.cell (World.block_lt_of_cell? _ _ hHeld.2.2.2.2.2.2.2.2.2.2.2.1)).trans hHeld.2.2.2.2.2.2.2.2.2.2.2.1, (HB7.out.cell (World.block_lt_of_cell? _ _ hHeld.2.2.2.2.2.2.2.2.2.2.2.2.1)).trans hHeld.2.2.2.2.2.2.2.2.2.2.2.2.1, (HB7.out.cell (World.block_lt_of_cell? _ _ hHeld.2.2.2.2.2.2.2.2.2.2.2.2.2.1)).trans hHeld.2.2.2.2.2.2.2.2.2.2.2.2.2.1, (HB7.out.cell (World.block_lt_of_cell? _ _ hHeld.2.2.2.2.2.2.2.2.2.2.2.2.2.2)).trans hHeld.2.2.2.2.2.2.2.2.2.2.2.2.2.2⟩ (fun hHeld => ?_)
                        clear hK K
                        refine norm_ (a' := ?_) ?_ ?_; rotate_left; (· (show Act.put _ (some 67) _ = _; simp only [np]; rfl))
                        refine pure_ (i := 2) (N := some 68) (v := ?_) (a' := ?_) (bl 15 7) rfl rfl (by kernel_rfl) (fun _ _ _ h => h) (Or.inl ⟨by rfl, ?_⟩) ?_ ?_; rotate_left; (· (intro w'; go_simp; with_reducible rfl)); rotate_left; (· (simp only [np]; rfl))
                        refine pure_ (i := 3) (N := some 69) (v := undef) (a' := ?_) (bl 15 15) rfl rfl (by kernel_rfl) (fun _ _ _ h => h) (Or.inr ⟨by rfl, rfl⟩) ?_ ?_; rotate_left; (· (simp only [np]; rfl))
                        refine pure_ (i := 4) (N := some 70) (v := undef) (a' := ?_) (bl 15 31) rfl rfl (by kernel_rfl) (fun _ _ _ h => h) (Or.inr ⟨by rfl, rfl⟩) ?_ ?_; rotate_left; (· (simp only [np]; rfl))
                        refine pure_ (i := 5) (N := some 71) (v := undef) (a' := ?_) (bl 15 63) rfl rfl (by kernel_rfl) (fun _ _ _ h => h) (Or.inr ⟨by rfl, rfl⟩) ?_ ?_; rotate_left; (· (simp only [np]; rfl))
                        refine pure_ (i := 6) (N := some 72) (v := undef) (a' := ?_) (bl 15 127) rfl rfl (by kernel_rfl) (fun _ _ _ h => h) (Or.inr ⟨by rfl, rfl⟩) ?_ ?_; rotate_left; (· (simp only [np]; rfl))
                        refine pure_ (i := 7) (N := some 73) (v := undef) (a' := ?_) (bl 15 255) rfl rfl (by kernel_rfl) (fun _ _ _ h => h) (Or.inr ⟨by rfl, rfl⟩) ?_ ?_; rotate_left; (· (simp only [np]; rfl))
                        refine pure_ (i := 8) (N := some 74) (v := ?_) (a' := ?_) (bl 15 511) rfl rfl (by kernel_rfl) (fun _ _ _ h => h) (Or.inl ⟨by rfl, ?_⟩) ?_ ?_; rotate_left; (· (intro w'; go_simp; with_reducible rfl)); rotate_left; (· (simp only [np]; rfl))
                        refine pure_ (i := 9) (N := some 75) (v := ?_) (a' := ?_) (bl 15 1023) rfl rfl (by kernel_rfl) (fun _ _ _ h => h) (Or.inl ⟨by rfl, ?_⟩) ?_ ?_; rotate_left; (· (intro w'; go_simp; with_reducible rfl)); rotate_left; (· (simp only [np]; rfl))
                        refine pure_ (i := 10) (N := some 76) (v := undef) (a' := ?_) (bl 15 2047) rfl rfl (by kernel_rfl) (fun _ _ _ h => h) (Or.inr ⟨by rfl, rfl⟩) ?_ ?_; rotate_left; (· (simp only [np]; rfl))
                        refine pure_ (i := 11) (N := some 77) (v := undef) (a' := ?_) (bl 15 4095) rfl rfl (by kernel_rfl) (fun _ _ _ h => h) (Or.inr ⟨by rfl, rfl⟩) ?_ ?_; rotate_left; (· (simp only [np]; rfl))
                        refine pure_ (i := 12) (N := some 78) (v := undef) (a' := ?_) (bl 15 8191) rfl rfl (by kernel_rfl) (fun _ _ _ h => h) (Or.inr ⟨by rfl, rfl⟩) ?_ ?_; rotate_left; (· (simp only [np]; rfl))
                        refine pure_ (i := 13) (N := some 79) (v := undef) (a' := ?_) (bl 15 16383) rfl rfl (by kernel_rfl) (fun _ _ _ h => h) (Or.inr ⟨by rfl, rfl⟩) ?_ ?_; rotate_left; (· (simp only [np]; rfl))
                        refine pure_ (i := 14) (N := some 80) (v := ?_) (a' := ?_) (bl 15 32767) rfl rfl (by kernel_rfl) (fun _ _ _ h => h) (Or.inl ⟨by rfl, ?_⟩) ?_ ?_; rotate_left; (· (intro w'; go_simp; with_reducible rfl)); rotate_left; (· (simp only [np]; rfl))
                        refine done_ (by kernel_rfl) ?_
                        go_wp2_with fail
                        go_roundg (gk - 1)
                        case measure => omega
                        case rel => exact ⟨q + 1, by omega, by go_num, Lib.hid ⟨(HZ.out.1.1.under (below_drew (Below.refl _ _))).under HB7.out, (HB7.out.block _ (lt_of_block HZ.out.1.2.1)).trans HZ.out.1.2.1, (HZ.out.1.2.2.below (below_drew (Below.refl _ _))).below HB7.out⟩⟩
                      | true =>
                        cases hnn : ((nmo a).toList == (nmo v).toList) with
                        | false =>
                          refine start_ (n := 15) (S := fun w' => w'.cell? ⟨w.heap.size, 0, none⟩ = some (.int .i64 3) ∧ w'.cell? ⟨w.heap.size, 1, none⟩ = some (.string f1) ∧ w'.cell? ⟨w.heap.size, 2, none⟩ = some (.string f2) ∧ w'.cell? ⟨w.heap.size, 3, none⟩ = some (.slice A3 L3 c3) ∧ w'.cell? ⟨w.heap.size, 4, none⟩ = some (.slice (some ad4) L4 c4) ∧ w'.cell? ⟨ab, 0, none⟩ = some (.int .i64 a.f0) ∧ w'.cell? ⟨ab, 1, none⟩ = some (.string a.f1) ∧ w'.cell? ⟨ab, 2, none⟩ = some (.string a.f2) ∧ w'.cell? ⟨ab, 3, none⟩ = some (.slice C3 a.f3.length cc3) ∧ w'.cell? ⟨ab, 4, none⟩ = some (.slice C4 a.f4.length cc4) ∧ w'.cell? ⟨vb, 0, none⟩ = some (.int .i64 v.f0) ∧ w'.cell? ⟨vb, 1, none⟩ = some (.string v.f1) ∧ w'.cell? ⟨vb, 2, none⟩ = some (.string v.f2) ∧ w'.cell? ⟨vb, 3, none⟩ = some (.slice E3 v.f3.length e3) ∧ w'.cell? ⟨vb, 4, none⟩ = some (.slice E4 v.f4.length e4)) (ds := []) #[false, false, false, false, false, false, false, false, false, false, false, false, false, false, false] (by kernel_rfl) rfl rfl ⟨s0, s1, s2, s3, s4, t0, t1, t2, t3, t4, r0, r1, r2, r3, r4⟩ (fun hHeld => ?_)
                          refine take_ (i := 0) (N := some 66) (v := ?_) (a' := ?_) (bl 15 1) rfl rfl (by kernel_rfl) (fun _ _ _ h => h) (Or.inl ⟨by rfl, ?_⟩) hHeld ?_ ?_; rotate_left; (· (rintro w' ⟨s0, s1, s2, s3, s4, s5, s6, s7, s8, s9, s10, s11, s12, s13, s14⟩; go_simp; with_reducible rfl)); rotate_left; (· (simp only [np]; rfl))
                          refine one_ (i := 1) (N := some 67) (bl 15 3) rfl rfl (by kernel_rfl) (by decide) (fun K hK => ?_)
                          refine goes_ Tryz.func21 (by kernel_rfl) rfl #[.agg #[.int .i64 3, .string f1, .string f2, .slice A3 L3 c3, .slice (some ad4) L4 c4]] (by rfl) rfl rfl (by simp only [List.map_toArray, List.map_cons, List.map_nil]; rfl) ?_
                          have hcall := areNamed21 Z.drew ⟨3, f1, f2, f3, f4⟩ A3 (some ad4) c3 c4 (HX.out.2.2.1.below (below_drew HZ.out.1.1.below)) (fun z hz => (HX.out.1.item z hz).1.nd) (by have := HX.out.1.len; simp only at *; omega)
                          simp only [ndV, ← HL.out.1, ← HL.out.2.1] at hcall
                          refine hcall.mono ?_
                          clear hcall
                          rintro e w7 ⟨e7, hbc⟩
                          rw [← HNX.out.1] at e7
                          subst e7
                          have HB7 := Lib.hid hbc
                          clear hbc
                          refine ⟨_, rfl, ?_⟩
                          refine hK.out _ _ ⟨(HB7.out.cell (World.block_lt_of_cell? _ _ hHeld.1)).trans hHeld.1, (HB7.out.cell (World.block_lt_of_cell? _ _ hHeld.2.1)).trans hHeld.2.1, (HB7.out.cell (World.block_lt_of_cell? _ _ hHeld.2.2.1)).trans hHeld.2.2.1, (HB7.out.cell (World.block_lt_of_cell? _ _ hHeld.2.2.2.1)).trans hHeld.2.2.2.1, (HB7.out.cell (World.block_lt_of_cell? _ _ hHeld.2.2.2.2.1)).trans hHeld.2.2.2.2.1, (HB7.out.cell (World.block_lt_of_cell? _ _ hHeld.2.2.2.2.2.1)).trans hHeld.2.2.2.2.2.1, (HB7.out.cell (World.block_lt_of_cell? _ _ hHeld.2.2.2.2.2.2.1)).trans hHeld.2.2.2.2.2.2.1, (HB7.out.cell (World.block_lt_of_cell? _ _ hHeld.2.2.2.2.2.2.2.1)).trans hHeld.2.2.2.2.2.2.2.1, (HB7.out.cell (World.block_lt_of_cell? _ _ hHeld.2.2.2.2.2.2.2.2.1)).trans hHeld.2.2.2.2.2.2.2.2.1, (HB7.out.cell (World.block_lt_of_cell? _ _ hHeld.2.2.2.2.2.2.2.2.2.1)).trans hHeld.2.2.2.2.2.2.2.2.2.1, (HB7.out.cell (World.block_lt_of_cell? _ _ hHeld.2.2.2.2.2.2.2.2.2.2.1)).trans hHeld.2.2.2.2.2.2.2.2.2.2.1, (HB7.out.cell (World.block_lt_of_cell? _ _ hHeld.2.2.2.2.2.2.2.2.2.2.2.1)).trans hHeld.2.2.2.2.2.2.2.2.2.2.2.1, (HB7.out.cell (World.block_lt_of_cell? _ _ hHeld.2.2.2.2.2.2.2.2.2.2.2.2.1)).trans hHeld.2.2.2.2.2.2.2.2.2.2.2.2.1, (HB7.out.cell (World.block_lt_of_cell? _ _ hHeld.2.2.2.2.2.2.2.2.2.2.2.2.2.1)).trans hHeld.2.2.2.2.2.2.2.2.2.2.2.2.2.1, (HB7.out.cell (World.block_lt_of_cell? _ _ hHeld.2.2.2.2.2.2.2.2.2.2.2.2.2.2)).trans hHeld.2.2.2.2.2.2.2.2.2.2.2.2.2.2⟩ (fun hHeld => ?_)
                          clear hK K
                          refine norm_ (a' := ?_) ?_ ?_; rotate_left; (· (show Act.put _ (some 67) _ = _; simp only [np]; rfl))
                          refine pure_ (i := 2) (N := some 68) (v := ?_) (a' := ?_) (bl 15 7) rfl rfl (by kernel_rfl) (fun _ _ _ h => h) (Or.inl ⟨by rfl, ?_⟩) ?_ ?_; rotate_left; (· (intro w'; go_simp; with_reducible rfl)); rotate_left; (· (simp only [np]; rfl))
                          refine take_ (i := 3) (N := some 69) (v := ?_) (a' := ?_) (bl 15 15) rfl rfl (by kernel_rfl) (fun _ _ _ h => h) (Or.inl ⟨by rfl, ?_⟩) hHeld ?_ ?_; rotate_left; (· (rintro w' ⟨s0, s1, s2, s3, s4, s5, s6, s7, s8, s9, s10, s11, s12, s13, s14⟩; go_simp; with_reducible rfl)); rotate_left; (· (simp only [np]; rfl))
                          refine take_ (i := 5) (N := some 71) (v := ?_) (a' := ?_) (bl 15 47) rfl rfl (by kernel_rfl) (fun _ _ _ h => h) (Or.inl ⟨by rfl, ?_⟩) hHeld ?_ ?_; rotate_left; (· (rintro w' ⟨s0, s1, s2, s3, s4, s5, s6, s7, s8, s9, s10, s11, s12, s13, s14⟩; go_simp; with_reducible rfl)); rotate_left; (· (simp only [np]; rfl))
                          refine one_ (i := 4) (N := some 70) (bl 15 63) rfl rfl (by kernel_rfl) (by decide) (fun K hK => ?_)
                          refine goes_ Tryz.func25 (by kernel_rfl) rfl #[ndV a C3 cc3 C4 cc4] (by rfl) rfl rfl (by simp only [List.map_toArray, List.map_cons, List.map_nil]; rfl) ?_
                          refine (nameOf25 w7 a C3 C4 cc3 cc4 (HZ.out.1.2.2.below ((below_drew (Below.refl Z.heap.size Z)).trans HB7.out)) ((HX.out.1.item a HND.out.2).1.nd)).mono ?_
                          rintro e w8 ⟨rfl, hbc⟩
                          have HB8 := Lib.hid hbc
                          clear hbc
                          refine ⟨_, rfl, ?_⟩
                          refine hK.out _ _ ⟨(HB8.out.cell (World.block_lt_of_cell? _ _ hHeld.1)).trans hHeld.1, (HB8.out.cell (World.block_lt_of_cell? _ _ hHeld.2.1)).trans hHeld.2.1, (HB8.out.cell (World.block_lt_of_cell? _ _ hHeld.2.2.1)).trans hHeld.2.2.1, (HB8.out.cell (World.block_lt_of_cell? _ _ hHeld.2.2.2.1)).trans hHeld.2.2.2.1, (HB8.out.cell (World.block_lt_of_cell? _ _ hHeld.2.2.2.2.1)).trans hHeld.2.2.2.2.1, (HB8.out.cell (World.block_lt_of_cell? _ _ hHeld.2.2.2.2.2.1)).trans hHeld.2.2.2.2.2.1, (HB8.out.cell (World.block_lt_of_cell? _ _ hHeld.2.2.2.2.2.2.1)).trans hHeld.2.2.2.2.2.2.1, (HB8.out.cell (World.block_lt_of_cell? _ _ hHeld.2.2.2.2.2.2.2.1)).trans hHeld.2.2.2.2.2.2.2.1, (HB8.out.cell (World.block_lt_of_cell? _ _ hHeld.2.2.2.2.2.2.2.2.1)).trans hHeld.2.2.2.2.2.2.2.2.1, (HB8.out.cell (World.block_lt_of_cell? _ _ hHeld.2.2.2.2.2.2.2.2.2.1)).trans hHeld.2.2.2.2.2.2.2.2.2.1, (HB8.out.cell (World.block_lt_of_cell? _ _ hHeld.2.2.2.2.2.2.2.2.2.2.1)).trans hHeld.2.2.2.2.2.2.2.2.2.2.1, (HB8.out.cell (World.block_lt_of_cell? _ _ hHeld.2.2.2.2.2.2.2.2.2.2.2.1)).trans hHeld.2.2.2.2.2.2.2.2.2.2.2.1, (HB8.out.cell (World.block_lt_of_cell? _ _ hHeld.2.2.2.2.2.2.2.2.2.2.2.2.1)).trans hHeld.2.2.2.2.2.2.2.2.2.2.2.2.1, (HB8.out.cell (World.block_lt_of_cell? _ _ hHeld.2.2.2.2.2.2.2.2.2.2.2.2.2.1)).trans hHeld.2.2.2.2.2.2.2.2.2.2.2.2.2.1, (HB8.out.cell (World.block_lt_of_cell? _ _ hHeld.2.2.2.2.2.2.2.2.2.2.2.2.2.2)).trans hHeld.2.2.2.2.2.2.2.2.2.2.2.2.2.2⟩ (fun hHeld => ?_)
                          clear hK K
                          refine norm_ (a' := ?_) ?_ ?_; rotate_left; (· (show Act.put _ (some 70) _ = _; simp only [np]; rfl))
                          refine one_ (i := 6) (N := some 72) (bl 15 127) rfl rfl (by kernel_rfl) (by decide) (fun K hK => ?_)
                          refine goes_ Tryz.func25 (by kernel_rfl) rfl #[ndV v E3 e3 E4 e4] (by rfl) rfl rfl (by simp only [List.map_toArray, List.map_cons, List.map_nil]; rfl) ?_
                          refine (nameOf25 w8 v E3 E4 e3 e4 ((HZ.out.2.2.below ((below_drew (Below.refl Z.heap.size Z)).trans HB7.out)).below HB8.out) ((HX.out.2.1.item v HVD.out.2).1.nd)).mono ?_
                          rintro e w9 ⟨rfl, hbc⟩
                          have HB9_ := Lib.hid hbc
                          clear hbc
                          have HB9 := Lib.hid (show Below Z.heap.size Z w9 from (((below_drew (Below.refl Z.heap.size Z)).trans HB7.out).trans (HB8.out.mono ((below_drew (Below.refl Z.heap.size Z)).trans HB7.out).size)).trans (HB9_.out.mono (Nat.le_trans ((below_drew (Below.refl Z.heap.size Z)).trans HB7.out).size HB8.out.size)))
                          have HA9 := Lib.hid (HZ.out.1.1.under HB9.out)
                          refine ⟨_, rfl, ?_⟩
                          refine hK.out _ _ ⟨(HB9_.out.cell (World.block_lt_of_cell? _ _ hHeld.1)).trans hHeld.1, (HB9_.out.cell (World.block_lt_of_cell? _ _ hHeld.2.1)).trans hHeld.2.1, (HB9_.out.cell (World.block_lt_of_cell? _ _ hHeld.2.2.1)).trans hHeld.2.2.1, (HB9_.out.cell (World.block_lt_of_cell? _ _ hHeld.2.2.2.1)).trans hHeld.2.2.2.1, (HB9_.out.cell (World.block_lt_of_cell? _ _ hHeld.2.2.2.2.1)).trans hHeld.2.2.2.2.1, (HB9_.out.cell (World.block_lt_of_cell? _ _ hHeld.2.2.2.2.2.1)).trans hHeld.2.2.2.2.2.1, (HB9_.out.cell (World.block_lt_of_cell? _ _ hHeld.2.2.2.2.2.2.1)).trans hHeld.2.2.2.2.2.2.1, (HB9_.out.cell (World.block_lt_of_cell? _ _ hHeld.2.2.2.2.2.2.2.1)).trans hHeld.2.2.2.2.2.2.2.1, (HB9_.out.cell (World.block_lt_of_cell? _ _ hHeld.2.2.2.2.2.2.2.2.1)).trans hHeld.2.2.2.2.2.2.2.2.1, (HB9_.out.cell (World.block_lt_of_cell? _ _ hHeld.2.2.2.2.2.2.2.2.2.1)).trans hHeld.2.2.2.2.2.2.2.2.2.1, (HB9_.out.cell (World.block_lt_of_cell? _ _ hHeld.2.2.2.2.2.2.2.2.2.2.1)).trans hHeld.2.2.2.2.2.2.2.2.2.2.1, (HB9_.out.cell (World.block_lt_of_cell? _ _ hHeld.2.2.2.2.2.2.2.2.2.2.2.1)).trans hHeld.2.2.2.2.2.2.2.2.2.2.2.1, (HB9_.out.cell (World.block_lt_of_cell? _ _ hHeld.2.2.2.2.2.2.2.2.2.2.2.2.1)).trans hHeld.2.2.2.2.2.2.2.2.2.2.2.2.1, (HB9_.out.cell (World.block_lt_of_cell? _ _ hHeld.2.2.2.2.2.2.2.2.2.2.2.2.2.1)).trans hHeld.2.2.2.2.2.2.2.2.2.2.2.2.2.1, (HB9_.out.cell (World.block_lt_of_cell? _ _ hHeld.2.2.2.2.2.2.2.2.2.2.2.2.2.2)).trans hHeld.2.2.2.2.2.2.2.2.2.2.2.2.2.2⟩ (fun hHeld => ?_)
                          clear hK K
                          refine norm_ (a' := ?_) ?_ ?_; rotate_left; (· (show Act.put _ (some 72) _ = _; simp only [np]; rfl))
                          refine pure_ (i := 7) (N := some 73) (v := ?_) (a' := ?_) (bl 15 255) rfl rfl (by kernel_rfl) (fun _ _ _ h => h) (Or.inl ⟨by rfl, ?_⟩) ?_ ?_; rotate_left; (· (intro w'; go_simp; with_reducible rfl)); rotate_left; (· (simp only [np]; rfl))
                          refine pure_ (i := 8) (N := some 74) (v := ?_) (a' := ?_) (bl 15 511) rfl rfl (by kernel_rfl) (fun _ _ _ h => h) (Or.inl ⟨by rfl, ?_⟩) ?_ ?_; rotate_left; (· (intro w'; go_simp; with_reducible rfl)); rotate_left; (· (simp only [np]; rfl))
                          refine pure_ (i := 9) (N := some 75) (v := ?_) (a' := ?_) (bl 15 1023) rfl rfl (by kernel_rfl) (fun _ _ _ h => h) (Or.inl ⟨by rfl, ?_⟩) ?_ ?_; rotate_left; (· (intro w'; go_simp; with_reducible rfl)); rotate_left; (· (simp only [np]; rfl))
                          refine pure_ (i := 10) (N := some 76) (v := undef) (a' := ?_) (bl 15 2047) rfl rfl (by kernel_rfl) (fun _ _ _ h => h) (Or.inr ⟨by rfl, rfl⟩) ?_ ?_; rotate_left; (· (simp only [np]; rfl))
                          refine pure_ (i := 11) (N := some 77) (v := undef) (a' := ?_) (bl 15 4095) rfl rfl (by kernel_rfl) (fun _ _ _ h => h) (Or.inr ⟨by rfl, rfl⟩) ?_ ?_; rotate_left; (· (simp only [np]; rfl))
                          refine pure_ (i := 12) (N := some 78) (v := undef) (a' := ?_) (bl 15 8191) rfl rfl (by kernel_rfl) (fun _ _ _ h => h) (Or.inr ⟨by rfl, rfl⟩) ?_ ?_; rotate_left; (· (simp only [np]; rfl))
                          refine pure_ (i := 13) (N := some 79) (v := undef) (a' := ?_) (bl 15 16383) rfl rfl (by kernel_rfl) (fun _ _ _ h => h) (Or.inr ⟨by rfl, rfl⟩) ?_ ?_; rotate_left; (· (simp only [np]; rfl))
                          refine pure_ (i := 14) (N := some 80) (v := ?_) (a' := ?_) (bl 15 32767) rfl rfl (by kernel_rfl) (fun _ _ _ h => h) (Or.inl ⟨by rfl, ?_⟩) ?_ ?_; rotate_left; (· (intro w'; go_simp; with_reducible rfl)); rotate_left; (· (simp only [np]; rfl))
                          refine done_ (by kernel_rfl) ?_
                          go_wp2_with fail
                          go_roundg (gk - 1)
                          case measure => omega
                          case rel => exact ⟨q + 1, by omega, by go_num, Lib.hid ⟨HA9.out, (HB9.out.block _ (lt_of_block HZ.out.1.2.1)).trans HZ.out.1.2.1, HZ.out.1.2.2.below HB9.out⟩⟩
                        | true =>
                          refine start_ (n := 15) (S := fun w' => w'.cell? ⟨w.heap.size, 0, none⟩ = some (.int .i64 3) ∧ w'.cell? ⟨w.heap.size, 1, none⟩ = some (.string f1) ∧ w'.cell? ⟨w.heap.size, 2, none⟩ = some (.string f2) ∧ w'.cell? ⟨w.heap.size, 3, none⟩ = some (.slice A3 L3 c3) ∧ w'.cell? ⟨w.heap.size, 4, none⟩ = some (.slice (some ad4) L4 c4) ∧ w'.cell? ⟨ab, 0, none⟩ = some (.int .i64 a.f0) ∧ w'.cell? ⟨ab, 1, none⟩ = some (.string a.f1) ∧ w'.cell? ⟨ab, 2, none⟩ = some (.string a.f2) ∧ w'.cell? ⟨ab, 3, none⟩ = some (.slice C3 a.f3.length cc3) ∧ w'.cell? ⟨ab, 4, none⟩ = some (.slice C4 a.f4.length cc4) ∧ w'.cell? ⟨vb, 0, none⟩ = some (.int .i64 v.f0) ∧ w'.cell? ⟨vb, 1, none⟩ = some (.string v.f1) ∧ w'.cell? ⟨vb, 2, none⟩ = some (.string v.f2) ∧ w'.cell? ⟨vb, 3, none⟩ = some (.slice E3 v.f3.length e3) ∧ w'.cell? ⟨vb, 4, none⟩ = some (.slice E4 v.f4.length e4)) (ds := []) #[false, false, false, false, false, false, false, false, false, false, false, false, false, false, false] (by kernel_rfl) rfl rfl ⟨s0, s1, s2, s3, s4, t0, t1, t2, t3, t4, r0, r1, r2, r3, r4⟩ (fun hHeld => ?_)
                          refine take_ (i := 0) (N := some 66) (v := ?_) (a' := ?_) (bl 15 1) rfl rfl (by kernel_rfl) (fun _ _ _ h => h) (Or.inl ⟨by rfl, ?_⟩) hHeld ?_ ?_; rotate_left; (· (rintro w' ⟨s0, s1, s2, s3, s4, s5, s6, s7, s8, s9, s10, s11, s12, s13, s14⟩; go_simp; with_reducible rfl)); rotate_left; (· (simp only [np]; rfl))
                          refine one_ (i := 1) (N := some 67) (bl 15 3) rfl rfl (by kernel_rfl) (by decide) (fun K hK => ?_)
                          refine goes_ Tryz.func21 (by kernel_rfl) rfl #[.agg #[.int .i64 3, .string f1, .string f2, .slice A3 L3 c3, .slice (some ad4) L4 c4]] (by rfl) rfl rfl (by simp only [List.map_toArray, List.map_cons, List.map_nil]; rfl) ?_
                          have hcall := areNamed21 Z.drew ⟨3, f1, f2, f3, f4⟩ A3 (some ad4) c3 c4 (HX.out.2.2.1.below (below_drew HZ.out.1.1.below)) (fun z hz => (HX.out.1.item z hz).1.nd) (by have := HX.out.1.len; simp only at *; omega)
                          simp only [ndV, ← HL.out.1, ← HL.out.2.1] at hcall
                          refine hcall.mono ?_
                          clear hcall
                          rintro e w7 ⟨e7, hbc⟩
                          rw [← HNX.out.1] at e7
                          subst e7
                          have HB7 := Lib.hid hbc
                          clear hbc
                          refine ⟨_, rfl, ?_⟩
                          refine hK.out _ _ ⟨(HB7.out.cell (World.block_lt_of_cell? _ _ hHeld.1)).trans hHeld.1, (HB7.out.cell (World.block_lt_of_cell? _ _ hHeld.2.1)).trans hHeld.2.1, (HB7.out.cell (World.block_lt_of_cell? _ _ hHeld.2.2.1)).trans hHeld.2.2.1, (HB7.out.cell (World.block_lt_of_cell? _ _ hHeld.2.2.2.1)).trans hHeld.2.2.2.1, (HB7.out.cell (World.block_lt_of_cell? _ _ hHeld.2.2.2.2.1)).trans hHeld.2.2.2.2.1, (HB7.out.cell (World.block_lt_of_cell? _ _ hHeld.2.2.2.2.2.1)).trans hHeld.2.2.2.2.2.1, (HB7.out.cell (World.block_lt_of_cell? _ _ hHeld.2.2.2.2.2.2.1)).trans hHeld.2.2.2.2.2.2.1, (HB7.out.cell (World.block_lt_of_cell? _ _ hHeld.2.2.2.2.2.2.2.1)).trans hHeld.2.2.2.2.2.2.2.1, (HB7.out.cell (World.block_lt_of_cell? _ _ hHeld.2.2.2.2.2.2.2.2.1)).trans hHeld.2.2.2.2.2.2.2.2.1, (HB7.out.cell (World.block_lt_of_cell? _ _ hHeld.2.2.2.2.2.2.2.2.2.1)).trans hHeld.2.2.2.2.2.2.2.2.2.1, (HB7.out.cell (World.block_lt_of_cell? _ _ hHeld.2.2.2.2.2.2.2.2.2.2.1)).trans hHeld.2.2.2.2.2.2.2.2.2.2.1, (HB7.out.cell (World.block_lt_of_cell? _ _ hHeld.2.2.2.2.2.2.2.2.2.2.2.1)).trans hHeld.2.2.2.2.2.2.2.2.2.2.2.1, (HB7.out.cell (World.block_lt_of_cell? _ _ hHeld.2.2.2.2.2.2.2.2.2.2.2.2.1)).trans hHeld.2.2.2.2.2.2.2.2.2.2.2.2.1, (HB7.out.cell (World.block_lt_of_cell? _ _ hHeld.2.2.2.2.2.2.2.2.2.2.2.2.2.1)).trans hHeld.2.2.2.2.2.2.2.2.2.2.2.2.2.1, (HB7.out.cell (World.block_lt_of_cell? _ _ hHeld.2.2.2.2.2.2.2.2.2.2.2.2.2.2)).trans hHeld.2.2.2.2.2.2.2.2.2.2.2.2.2.2⟩ (fun hHeld => ?_)
                          clear hK K
                          refine norm_ (a' := ?_) ?_ ?_; rotate_left; (· (show Act.put _ (some 67) _ = _; simp only [np]; rfl))
                          refine pure_ (i := 2) (N := some 68) (v := ?_) (a' := ?_) (bl 15 7) rfl rfl (by kernel_rfl) (fun _ _ _ h => h) (Or.inl ⟨by rfl, ?_⟩) ?_ ?_; rotate_left; (· (intro w'; go_simp; with_reducible rfl)); rotate_left; (· (simp only [np]; rfl))
                          refine take_ (i := 3) (N := some 69) (v := ?_) (a' := ?_) (bl 15 15) rfl rfl (by kernel_rfl) (fun _ _ _ h => h) (Or.inl ⟨by rfl, ?_⟩) hHeld ?_ ?_; rotate_left; (· (rintro w' ⟨s0, s1, s2, s3, s4, s5, s6, s7, s8, s9, s10, s11, s12, s13, s14⟩; go_simp; with_reducible rfl)); rotate_left; (· (simp only [np]; rfl))
                          refine take_ (i := 5) (N := some 71) (v := ?_) (a' := ?_) (bl 15 47) rfl rfl (by kernel_rfl) (fun _ _ _ h => h) (Or.inl ⟨by rfl, ?_⟩) hHeld ?_ ?_; rotate_left; (· (rintro w' ⟨s0, s1, s2, s3, s4, s5, s6, s7, s8, s9, s10, s11, s12, s13, s14⟩; go_simp; with_reducible rfl)); rotate_left; (· (simp only [np]; rfl))
                          refine one_ (i := 4) (N := some 70) (bl 15 63) rfl rfl (by kernel_rfl) (by decide) (fun K hK => ?_)
                          refine goes_ Tryz.func25 (by kernel_rfl) rfl #[ndV a C3 cc3 C4 cc4] (by rfl) rfl rfl (by simp only [List.map_toArray, List.map_cons, List.map_nil]; rfl) ?_
                          refine (nameOf25 w7 a C3 C4 cc3 cc4 (HZ.out.1.2.2.below ((below_drew (Below.refl Z.heap.size Z)).trans HB7.out)) ((HX.out.1.item a HND.out.2).1.nd)).mono ?_
                          rintro e w8 ⟨rfl, hbc⟩
                          have HB8 := Lib.hid hbc
                          clear hbc
                          refine ⟨_, rfl, ?_⟩
                          refine hK.out _ _ ⟨(HB8.out.cell (World.block_lt_of_cell? _ _ hHeld.1)).trans hHeld.1, (HB8.out.cell (World.block_lt_of_cell? _ _ hHeld.2.1)).trans hHeld.2.1, (HB8.out.cell (World.block_lt_of_cell? _ _ hHeld.2.2.1)).trans hHeld.2.2.1, (HB8.out.cell (World.block_lt_of_cell? _ _ hHeld.2.2.2.1)).trans hHeld.2.2.2.1, (HB8.out.cell (World.block_lt_of_cell? _ _ hHeld.2.2.2.2.1)).trans hHeld.2.2.2.2.1, (HB8.out.cell (World.block_lt_of_cell? _ _ hHeld.2.2.2.2.2.1)).trans hHeld.2.2.2.2.2.1, (HB8.out.cell (World.block_lt_of_cell? _ _ hHeld.2.2.2.2.2.2.1)).trans hHeld.2.2.2.2.2.2.1, (HB8.out.cell (World.block_lt_of_cell? _ _ hHeld.2.2.2.2.2.2.2.1)).trans hHeld.2.2.2.2.2.2.2.1, (HB8.out.cell (World.block_lt_of_cell? _ _ hHeld.2.2.2.2.2.2.2.2.1)).trans hHeld.2.2.2.2.2.2.2.2.1, (HB8.out.cell (World.block_lt_of_cell? _ _ hHeld.2.2.2.2.2.2.2.2.2.1)).trans hHeld.2.2.2.2.2.2.2.2.2.1, (HB8.out.cell (World.block_lt_of_cell? _ _ hHeld.2.2.2.2.2.2.2.2.2.2.1)).trans hHeld.2.2.2.2.2.2.2.2.2.2.1, (HB8.out.cell (World.block_lt_of_cell? _ _ hHeld.2.2.2.2.2.2.2.2.2.2.2.1)).trans hHeld.2.2.2.2.2.2.2.2.2.2.2.1, (HB8.out.cell (World.block_lt_of_cell? _ _ hHeld.2.2.2.2.2.2.2.2.2.2.2.2.1)).trans hHeld.2.2.2.2.2.2.2.2.2.2.2.2.1, (HB8.out.cell (World.block_lt_of_cell? _ _ hHeld.2.2.2.2.2.2.2.2.2.2.2.2.2.1)).trans hHeld.2.2.2.2.2.2.2.2.2.2.2.2.2.1, (HB8.out.cell (World.block_lt_of_cell? _ _ hHeld.2.2.2.2.2.2.2.2.2.2.2.2.2.2)).trans hHeld.2.2.2.2.2.2.2.2.2.2.2.2.2.2⟩ (fun hHeld => ?_)
                          clear hK K
                          refine norm_ (a' := ?_) ?_ ?_; rotate_left; (· (show Act.put _ (some 70) _ = _; simp only [np]; rfl))
                          refine one_ (i := 6) (N := some 72) (bl 15 127) rfl rfl (by kernel_rfl) (by decide) (fun K hK => ?_)
                          refine goes_ Tryz.func25 (by kernel_rfl) rfl #[ndV v E3 e3 E4 e4] (by rfl) rfl rfl (by simp only [List.map_toArray, List.map_cons, List.map_nil]; rfl) ?_
                          refine (nameOf25 w8 v E3 E4 e3 e4 ((HZ.out.2.2.below ((below_drew (Below.refl Z.heap.size Z)).trans HB7.out)).below HB8.out) ((HX.out.2.1.item v HVD.out.2).1.nd)).mono ?_
                          rintro e w9 ⟨rfl, hbc⟩
                          have HB9_ := Lib.hid hbc
                          clear hbc
                          have HB9 := Lib.hid (show Below Z.heap.size Z w9 from (((below_drew (Below.refl Z.heap.size Z)).trans HB7.out).trans (HB8.out.mono ((below_drew (Below.refl Z.heap.size Z)).trans HB7.out).size)).trans (HB9_.out.mono (Nat.le_trans ((below_drew (Below.refl Z.heap.size Z)).trans HB7.out).size HB8.out.size)))
                          have HA9 := Lib.hid (HZ.out.1.1.under HB9.out)
                          refine ⟨_, rfl, ?_⟩
                          refine hK.out _ _ ⟨(HB9_.out.cell (World.block_lt_of_cell? _ _ hHeld.1)).trans hHeld.1, (HB9_.out.cell (World.block_lt_of_cell? _ _ hHeld.2.1)).trans hHeld.2.1, (HB9_.out.cell (World.block_lt_of_cell? _ _ hHeld.2.2.1)).trans hHeld.2.2.1, (HB9_.out.cell (World.block_lt_of_cell? _ _ hHeld.2.2.2.1)).trans hHeld.2.2.2.1, (HB9_.out.cell (World.block_lt_of_cell? _ _ hHeld.2.2.2.2.1)).trans hHeld.2.2.2.2.1, (HB9_.out.cell (World.block_lt_of_cell? _ _ hHeld.2.2.2.2.2.1)).trans hHeld.2.2.2.2.2.1, (HB9_.out.cell (World.block_lt_of_cell? _ _ hHeld.2.2.2.2.2.2.1)).trans hHeld.2.2.2.2.2.2.1, (HB9_.out.cell (World.block_lt_of_cell? _ _ hHeld.2.2.2.2.2.2.2.1)).trans hHeld.2.2.2.2.2.2.2.1, (HB9_.out.cell (World.block_lt_of_cell? _ _ hHeld.2.2.2.2.2.2.2.2.1)).trans hHeld.2.2.2.2.2.2.2.2.1, (HB9_.out.cell (World.block_lt_of_cell? _ _ hHeld.2.2.2.2.2.2.2.2.2.1)).trans hHeld.2.2.2.2.2.2.2.2.2.1, (HB9_.out.cell (World.block_lt_of_cell? _ _ hHeld.2.2.2.2.2.2.2.2.2.2.1)).trans hHeld.2.2.2.2.2.2.2.2.2.2.1, (HB9_.out.cell (World.block_lt_of_cell? _ _ hHeld.2.2.2.2.2.2.2.2.2.2.2.1)).trans hHeld.2.2.2.2.2.2.2.2.2.2.2.1, (HB9_.out.cell (World.block_lt_of_cell? _ _ hHeld.2.2.2.2.2.2.2.2.2.2.2.2.1)).trans hHeld.2.2.2.2.2.2.2.2.2.2.2.2.1, (HB9_.out.cell (World.block_lt_of_cell? _ _ hHeld.2.2.2.2.2.2.2.2.2.2.2.2.2.1)).trans hHeld.2.2.2.2.2.2.2.2.2.2.2.2.2.1, (HB9_.out.cell (World.block_lt_of_cell? _ _ hHeld.2.2.2.2.2.2.2.2.2.2.2.2.2.2)).trans hHeld.2.2.2.2.2.2.2.2.2.2.2.2.2.2⟩ (fun hHeld => ?_)
                          clear hK K
                          refine norm_ (a' := ?_) ?_ ?_; rotate_left; (· (show Act.put _ (some 72) _ = _; simp only [np]; rfl))
                          refine pure_ (i := 7) (N := some 73) (v := ?_) (a' := ?_) (bl 15 255) rfl rfl (by kernel_rfl) (fun _ _ _ h => h) (Or.inl ⟨by rfl, ?_⟩) ?_ ?_; rotate_left; (· (intro w'; go_simp; with_reducible rfl)); rotate_left; (· (simp only [np]; rfl))
                          refine pure_ (i := 8) (N := some 74) (v := ?_) (a' := ?_) (bl 15 511) rfl rfl (by kernel_rfl) (fun _ _ _ h => h) (Or.inl ⟨by rfl, ?_⟩) ?_ ?_; rotate_left; (· (intro w'; go_simp; with_reducible rfl)); rotate_left; (· (simp only [np]; rfl))
                          refine pure_ (i := 9) (N := some 75) (v := ?_) (a' := ?_) (bl 15 1023) rfl rfl (by kernel_rfl) (fun _ _ _ h => h) (Or.inl ⟨by rfl, ?_⟩) ?_ ?_; rotate_left; (· (intro w'; go_simp; with_reducible rfl)); rotate_left; (· (simp only [np]; rfl))
                          refine take_ (i := 10) (N := some 76) (v := ?_) (a' := ?_) (bl 15 2047) rfl rfl (by kernel_rfl) (fun _ _ _ h => h) (Or.inl ⟨by rfl, ?_⟩) hHeld ?_ ?_; rotate_left; (· (rintro w' ⟨s0, s1, s2, s3, s4, s5, s6, s7, s8, s9, s10, s11, s12, s13, s14⟩; go_simp; with_reducible rfl)); rotate_left; (· (simp only [np]; rfl))
                          refine take_ (i := 11) (N := some 77) (v := ?_) (a' := ?_) (bl 15 4095) rfl rfl (by kernel_rfl) (fun _ _ _ h => h) (Or.inl ⟨by rfl, ?_⟩) hHeld ?_ ?_; rotate_left; (· (rintro w' ⟨s0, s1, s2, s3, s4, s5, s6, s7, s8, s9, s10, s11, s12, s13, s14⟩; go_simp; with_reducible rfl)); rotate_left; (· (simp only [np]; rfl))
                          refine one_ (i := 12) (N := some 78) (bl 15 8191) rfl rfl (by kernel_rfl) (by decide) (fun K hK => ?_)
                          refine goes_ Tryz.func22 (by kernel_rfl) rfl #[ndV a C3 cc3 C4 cc4, ndV v E3 e3 E4 e4] (by rfl) rfl rfl (by simp only [List.map_toArray, List.map_cons, List.map_nil]; rfl) ?_
                          refine (HI.out a v (HX.out.1.item a HND.out.2) (HX.out.2.1.item v HVD.out.2) w9 C3 C4 E3 E4 cc3 cc4 e3 e4 (HZ.out.1.2.2.below HB9.out) (HZ.out.2.2.below HB9.out)).mono ?_
                          rintro e w10 ⟨bq, rfl, hq, hbc⟩
                          have HQ := Lib.hid hbc
                          clear hq hbc
                          refine ⟨_, rfl, ?_⟩
                          refine hK.out _ _ ⟨(HQ.out.cell (World.block_lt_of_cell? _ _ hHeld.1)).trans hHeld.1, (HQ.out.cell (World.block_lt_of_cell? _ _ hHeld.2.1)).trans hHeld.2.1, (HQ.out.cell (World.block_lt_of_cell? _ _ hHeld.2.2.1)).trans hHeld.2.2.1, (HQ.out.cell (World.block_lt_of_cell? _ _ hHeld.2.2.2.1)).trans hHeld.2.2.2.1, (HQ.out.cell (World.block_lt_of_cell? _ _ hHeld.2.2.2.2.1)).trans hHeld.2.2.2.2.1, (HQ.out.cell (World.block_lt_of_cell? _ _ hHeld.2.2.2.2.2.1)).trans hHeld.2.2.2.2.2.1, (HQ.out.cell (World.block_lt_of_cell? _ _ hHeld.2.2.2.2.2.2.1)).trans hHeld.2.2.2.2.2.2.1, (HQ.out.cell (World.block_lt_of_cell? _ _ hHeld.2.2.2.2.2.2.2.1)).trans hHeld.2.2.2.2.2.2.2.1, (HQ.out.cell (World.block_lt_of_cell? _ _ hHeld.2.2.2.2.2.2.2.2.1)).trans hHeld.2.2.2.2.2.2.2.2.1, (HQ.out.cell (World.block_lt_of_cell? _ _ hHeld.2.2.2.2.2.2.2.2.2.1)).trans hHeld.2.2.2.2.2.2.2.2.2.1, (HQ.out.cell (World.block_lt_of_cell? _ _ hHeld.2.2.2.2.2.2.2.2.2.2.1)).trans hHeld.2.2.2.2.2.2.2.2.2.2.1, (HQ.out.cell (World.block_lt_of_cell? _ _ hHeld.2.2.2.2.2.2.2.2.2.2.2.1)).trans hHeld.2.2.2.2.2.2.2.2.2.2.2.1, (HQ.out.cell (World.block_lt_of_cell? _ _ hHeld.2.2.2.2.2.2.2.2.2.2.2.2.1)).trans hHeld.2.2.2.2.2.2.2.2.2.2.2.2.1, (HQ.out.cell (World.block_lt_of_cell? _ _ hHeld.2.2.2.2.2.2.2.2.2.2.2.2.2.1)).trans hHeld.2.2.2.2.2.2.2.2.2.2.2.2.2.1, (HQ.out.cell (World.block_lt_of_cell? _ _ hHeld.2.2.2.2.2.2.2.2.2.2.2.2.2.2)).trans hHeld.2.2.2.2.2.2.2.2.2.2.2.2.2.2⟩ (fun hHeld => ?_)
                          clear hK K
                          refine norm_ (a' := ?_) ?_ ?_; rotate_left; (· (show Act.put _ (some 78) _ = _; simp only [np]; rfl))
                          refine pure_ (i := 13) (N := some 79) (v := ?_) (a' := ?_) (bl 15 16383) rfl rfl (by kernel_rfl) (fun _ _ _ h => h) (Or.inl ⟨by rfl, ?_⟩) ?_ ?_; rotate_left; (· (intro w'; go_simp; with_reducible rfl)); rotate_left; (· (simp only [np]; rfl))
                          refine pure_ (i := 14) (N := some 80) (v := ?_) (a' := ?_) (bl 15 32767) rfl rfl (by kernel_rfl) (fun _ _ _ h => h) (Or.inl ⟨by rfl, ?_⟩) ?_ ?_; rotate_left; (· (intro w'; go_simp; with_reducible rfl)); rotate_left; (· (simp only [np]; rfl))
                          refine done_ (by kernel_rfl) ?_
                          cases bq with
                          | true =>
                            go_wp2_with fail
                            go_roundg (gk - 1)
                            case measure => omega
                            case rel => exact ⟨q + 1, by omega, by go_num, Lib.hid ⟨HA9.out.under HQ.out, ((HB9.out.trans (HQ.out.mono HB9.out.size)).block _ (lt_of_block HZ.out.1.2.1)).trans HZ.out.1.2.1, (HZ.out.1.2.2.below HB9.out).below HQ.out⟩⟩
                          | false =>
                            go_wp2_with fail
                            exact bodyPost_ret (v := .bool false) (by simp [results, Tryz.results22, go_sem]) rfl ⟨false, rfl, by simp, (HA9.out.under HQ.out).below⟩
                    · have hqe : ¬ ((q : Int) < (M4 : Int)) := by omega
                      have hqe' : ¬ (q < M4) := by omega
                      have HA9 := Lib.hid hJ.out.1
                      clear hJ hq
                      go_wp2_with fail
                      go_roundg (gk0 - 1)
                      case measure => omega
                      case rel => exact ⟨j + 1, by omega, by go_num, HA9⟩
                · have hqe : ¬ ((j : Int) < (L4 : Int)) := by omega
                  have hqe' : ¬ (j < L4) := by omega
                  go_wp2_with fail
                  exact bodyPost_ret (v := .bool true) (by simp [results, Tryz.results22, go_sem]) rfl ⟨true, rfl, fun _ => HAL.out, hI.out.below⟩
            · have hxyb : (nx != ny) = true := by rw [bne, beq_false_of_ne hxy]; rfl
              have hxyc : (!(nx == ny)) = true := by rw [beq_false_of_ne hxy]; rfl
              first | rw [hxyb] | rw [hxyc] | trace_state
              clear hxy
              go_wp2_with fail
              exact bodyPost_ret (v := .bool false) (by simp [results, Tryz.results22, go_sem]) rfl ⟨false, rfl, by simp, HA8.out.below⟩
          · have hfb : (f0 == 3) = false := beq_false_of_ne hf3
            clear hf3
            go_wp2_with fail
            exact bodyPost_ret (v := .bool true) (by simp [results, Tryz.results22, go_sem]) rfl ⟨true, rfl, fun _ => HAL.out, HA0.out.below⟩
    · have hkb : (f0 == g0) = false := beq_false_of_ne hk
      clear hk
      go_enter Tryz.func22, Tryz.ntmps22
      go_wp2_with fail
      exact bodyPost_ret (v := .bool false) (by simp [results, Tryz.results22, go_sem]) rfl ⟨false, rfl, by simp, HAK.out.below⟩
end Go.Proofs.YtghmajlfmoggfaaGreat
