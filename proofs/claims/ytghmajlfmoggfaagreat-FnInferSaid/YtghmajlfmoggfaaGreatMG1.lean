import Derived.Test.YtghmajlfmoggfaaGreatME9
import Derived.Test.YtghmajlfmoggfaaGreatMA
set_option linter.unusedSimpArgs false
set_option linter.unusedVariables false
namespace Go.Proofs.YtghmajlfmoggfaaGreat
open Go.RowKit Go.Proofs.YtghmajlfmoggfaaGreatW.PrintWords Go.Proofs.YtghmajlfmoggfaaGreatW.PrintLast PFnMerge
def WfN : Nat → S25 → Prop
 | 0, _ => False
 | n + 1, x => (x.f0 = 1 ∧ x.f3 = [] ∧ x.f4 = []) ∨ (x.f0 = 2 ∧ x.f1 = noStr ∧ x.f2 = noStr ∧ x.f3.length = x.f4.length ∧ x.f4.length ≤ 1000 ∧ ∀ z ∈ x.f4, WfN n z) ∨ (x.f0 = 3 ∧ x.f1 = noStr ∧ x.f2 = noStr ∧ x.f3 = [] ∧ x.f4.length ≤ 1000 ∧ ∀ z ∈ x.f4, WfN n z)
def TreeC (n : Nat) : Prop := ∀ (x : S25), WfN n x → ∀ (w : World) (A3 A4 : Option Addr) (c3 c4 : Nat), Kd.C Kd.string w A3 x.f3.length x.f3 → x.f3.length ≤ c3 → Kd.C k25 w A4 x.f4.length x.f4 → x.f4.length ≤ c4 →
 Calls Tryz.prog 40 #[ndV x A3 c3 A4 c4] w fun e w' => ∃ b, e = .returned (.pointer (some ⟨b, 0, none⟩)) ∧ Rep w' b x (fun k => w.heap.size ≤ k) ∧ Below w.heap.size w w'
set_option maxRecDepth 20000 in
set_option maxHeartbeats 4000000 in
theorem treeOf40 : ∀ n, TreeC n := by
 intro n
 induction n with
 | zero => intro x h; exact h.elim
 | succ n ih =>
  intro x hx w A3 A4 c3 c4 hC3 hl3 hC4 hl4
  obtain ⟨f0, f1, f2, f3, f4⟩ := x
  have hb0 := below_alloc (Below.refl w.heap.size w) (.cells #[.int .i64 f0, .string f1, .string f2, .slice A3 f3.length c3, .slice A4 f4.length c4] 25)
  rcases hx with ⟨rfl, rfl, rfl⟩ | ⟨rfl, rfl, rfl, hlen, hmax, hit⟩ | ⟨rfl, rfl, rfl, rfl, hmax, hit⟩
  ·have HB := Lib.hid hb0
   clear hb0 hC3 hC4 hl3 hl4 ih
   go_enter Tryz.func40, Tryz.ntmps40
   go_wp2_with fail
   go_ret
   refine ⟨w.heap.size + 1, rfl, .sc _ _ _ _ (blk_new (by simp) _) (by simp), below_alloc HB.out _⟩
  ·have HB := Lib.hid hb0
   have HI := Lib.hid ih
   have HC3 := Lib.hid hC3
   have HC4 := Lib.hid hC4
   have HL := Lib.hid (And.intro hl3 (And.intro hl4 (And.intro hlen (And.intro hmax hit))))
   clear hb0 hC3 hC4 hl3 hl4 ih hlen hmax hit
   go_enter Tryz.func40, Tryz.ntmps40
   go_wp2_with fail
   have hti : TI true w (w.heap.size + 1) #[.int .i64 2, .string noStr, .string noStr, .slice A3 f3.length c3, .slice A4 f4.length c4] 4 f3 f4 0 nilS [] ((w.alloc (.cells #[.int .i64 2, .string noStr, .string noStr, .slice A3 f3.length c3, .slice A4 f4.length c4] 25)).alloc (.cells (nd 4 noStr noStr nilS) 85)) :=
    ⟨below_alloc HB.out _, by omega, blk_old _ (blk_new rfl _), blk_new (by simp) _, own_nil _ _ _ _, rfl, fun _ => rfl, rfl, .nil, by simp, by simp⟩
   obtain ⟨nb, hnb⟩ : ∃ nb, nb = w.heap.size + 1 := ⟨_, rfl⟩
   rw [← hnb] at hti
   rw [← hnb]
   have HN := Lib.hid hnb
   have H0 := Lib.hid hti
   clear hti hnb
   obtain ⟨wb, hwb⟩ : ∃ wb, wb = w.heap.size := ⟨_, rfl⟩
   rw [← hwb]
   have HW := Lib.hid hwb
   clear hwb
   have hNb : (f3.length : Int) ≤ 9223372036854775807 := by have h1 : f3.length = f4.length := HL.out.2.2.1; have h2 : f4.length ≤ 1000 := HL.out.2.2.2.1; omega
   go_loopg [26] f3.length (fun k i wr => ∃ j : Nat, j + k = f3.length ∧ i = .int .i64 (j : Int) ∧ Hid (∃ C kids, TI true w nb #[.int .i64 2, .string noStr, .string noStr, .slice A3 f3.length c3, .slice A4 f4.length c4] 4 f3 f4 j C kids wr))
   case atStart => exact ⟨0, by omega, rfl, Lib.hid ⟨_, _, H0.out⟩⟩
   case round =>
    obtain ⟨j, hj, rfl, hI⟩ := hrel
    by_cases hlt : 1 ≤ gk
    ·have hj1 : (j : Int) < (f3.length : Int) := by omega
     have hjn : j < f3.length := by omega
     have hjm : (j : Int) < (f4.length : Int) := by have h1 : f3.length = f4.length := HL.out.2.2.1; omega
     have hjq : j < f4.length := by omega
     obtain ⟨C, kids, hti⟩ := hI.out
     obtain ⟨AC, cC, rfl⟩ := own_slice hti.row
     obtain ⟨key, hkey⟩ : ∃ key, f3[j]? = some key := ⟨_, List.getElem?_eq_getElem hjn⟩
     obtain ⟨y, hy⟩ : ∃ y, f4[j]? = some y := ⟨_, List.getElem?_eq_getElem hjq⟩
     obtain ⟨ad3, rfl, x3⟩ := str_at HC3.out j key hjn hkey
     obtain ⟨ad4, B3, d3, B4, d4, rfl, y0, y1, y2, y3, y4, z1, z2, z3, z4⟩ := nd_at HC4.out j y hjq hy
     have HY := Lib.hid (And.intro z1 (And.intro z2 (And.intro z3 (And.intro z4 (HL.out.2.2.2.2 y (List.mem_of_getElem? hy))))))
     have hB := hti.below
     have x3' := (hB.cell (World.block_lt_of_cell? w _ x3)).trans x3
     have y0' := (hB.cell (World.block_lt_of_cell? w _ y0)).trans y0
     have y1' := (hB.cell (World.block_lt_of_cell? w _ y1)).trans y1
     have y2' := (hB.cell (World.block_lt_of_cell? w _ y2)).trans y2
     have y3' := (hB.cell (World.block_lt_of_cell? w _ y3)).trans y3
     have y4' := (hB.cell (World.block_lt_of_cell? w _ y4)).trans y4
     have hbx := hti.box
     rw [← HW.out] at hbx
     have b4 : wr.cell? ⟨wb, 4, none⟩ = some (.slice (some ad4) f4.length c4) := (blk_cell hbx 4).trans rfl
     have n6 := hti.node.c6
     have HT := Lib.hid hti
     have HKY := Lib.hid (And.intro hkey hy)
     clear hti hkey hy z1 z2 z3 z4 hB hbx x3 y0 y1 y2 y3 y4 hI
     go_wp2_with fail
     refine start_ (n := 19) (S := fun w' => w'.cell? ⟨wb, 4, none⟩ = some (.slice (some ad4) f4.length c4) ∧ w'.cell? ⟨nb, 6, none⟩ = some (.slice AC (2 * j) cC) ∧ w'.cell? (ad4.add (j * 5)) = some (.int .i64 y.f0) ∧ w'.cell? ⟨(ad4.add (j * 5)).block, (ad4.add (j * 5)).off + 1, none⟩ = some (.string y.f1) ∧ w'.cell? ⟨(ad4.add (j * 5)).block, (ad4.add (j * 5)).off + 2, none⟩ = some (.string y.f2) ∧ w'.cell? ⟨(ad4.add (j * 5)).block, (ad4.add (j * 5)).off + 3, none⟩ = some (.slice B3 y.f3.length d3) ∧ w'.cell? ⟨(ad4.add (j * 5)).block, (ad4.add (j * 5)).off + 4, none⟩ = some (.slice B4 y.f4.length d4)) (ds := [15, 18]) #[false, false, false, false, false, false, false, false, false, false, false, false, false, false, false, false, false, false, false] (by kernel_rfl) rfl rfl ⟨b4, n6, y0', y1', y2', y3', y4'⟩ (fun hHeld => ?_)
     refine pu 0 (some 31) (bl 19 1) ?_
     refine pu 1 (some 32) (bl 19 3) ?_
     refine pu 2 (some 33) (bl 19 7) ?_
     refine pu 3 (some 34) (bl 19 15) ?_
     refine pu 5 (some 36) (bl 19 47) ?_
     refine pu 6 (some 37) (bl 19 111) ?_
     refine pu 8 (some 39) (bl 19 367) ?_
     refine pu 10 (some 41) (bl 19 1391) ?_
     refine tk 4 (some 35) (bl 19 1407) hHeld ?_
     refine tk 9 (some 40) (bl 19 1919) hHeld ?_
     refine pu 11 (some 42) (bl 19 3967) ?_
     refine tk 12 (some 43) (bl 19 8063) hHeld ?_
     refine two_ (i := 7) (j := 13) (Ni := some 38) (Nj := some 44) (bl 19 8191) (bl 19 16255) rfl rfl rfl rfl (by kernel_rfl) (by decide) (by decide) (fun K hK => ?_) (fun K hK => ?_)
     ·skip
      refine value_ (w1 := ?_) (v := ?_) (by rfl) rfl ?_ ?_
      rotate_left 2
      ·go_simp
       constructor
       ·rfl
       ·rfl
      refine hK.out _ _ ⟨cell_old _ hHeld.1, cell_old _ hHeld.2.1, cell_old _ hHeld.2.2.1, cell_old _ hHeld.2.2.2.1, cell_old _ hHeld.2.2.2.2.1, cell_old _ hHeld.2.2.2.2.2.1, cell_old _ hHeld.2.2.2.2.2.2⟩ (fun hHeld => ?_)
      clear hK K
      refine nr (some 38) ?_
      refine on_ 13 (some 44) (bl 19 16383) fun K hK => ?_
      refine gs_ Tryz.func40 #[ndV y B3 d3 B4 d4] ?_
      refine (HI.out y HY.out.2.2.2.2 _ B3 B4 d3 d4 (Kd.C_below HY.out.2.1 (below_alloc (below_drew HT.out.below) _)) HY.out.1 (Kd.C_below HY.out.2.2.2.1 (below_alloc (below_drew HT.out.below) _)) HY.out.2.2.1).mono ?_
      rintro e w7 ⟨cb, rfl, hrp, hbc⟩
      have HRP := Lib.hid hrp
      have HBC := Lib.hid hbc
      clear hrp hbc
      refine ⟨_, rfl, ?_⟩
      refine hK.out _ _ (he7 HBC.out hHeld) (fun hHeld => ?_)
      clear hK K
      refine nr (some 44) ?_
      refine on_ 14 (some 45) (bl 19 32767) fun K hK => ?_
      refine value_ (w1 := ?_) (v := ?_) (by rfl) rfl ?_ ?_
      rotate_left 2
      ·go_simp
       constructor
       ·rfl
       ·rfl
      refine hK.out _ _ ⟨cell_old _ hHeld.1, cell_old _ hHeld.2.1, cell_old _ hHeld.2.2.1, cell_old _ hHeld.2.2.2.1, cell_old _ hHeld.2.2.2.2.1, cell_old _ hHeld.2.2.2.2.2.1, cell_old _ hHeld.2.2.2.2.2.2⟩ (fun hHeld => ?_)
      clear hK K
      refine nr (some 45) ?_
      refine ls_ 15 (some 46) (bl 19 65535) fun K hK => ?_
      have HT2 := Lib.hid ((HT.out.under (below_alloc (below_drew (Below.refl _ _)) (.cells (nd 8 noStr key nilS) 85))).under HBC.out)
      have HKB := Lib.hid ((show NodeB (wr.drew.alloc (.cells (nd 8 noStr key nilS) 85)) wr.heap.size 8 noStr key nilS from blk_new rfl _).under HBC.out)
      have HRB := Lib.hid (HRP.out.bound.mono (G := fun k => wr.heap.size + 1 ≤ k ∧ k < w7.heap.size) fun k hk => ⟨by have := hk.1; simp at this; omega, hk.2.lt⟩)
      have HSZ := Lib.hid (show wr.heap.size + 1 ≤ w7.heap.size from by have := HBC.out.size; simp at this; omega)
      refine step_app (base := nb + 1) (by exact HT2.out.node.lt) 83 69 (.pointer none) 8 [.pointer (some ⟨wr.heap.size, 0, none⟩), .pointer (some ⟨cb, 0, none⟩)] 2 rfl (by rfl) (by rfl) Tryz.underlying83 info69 rfl (by omega) (.slice AC (2 * j) cC) (2 * j) _ (by rfl) (by simp [Act.eval]) (by simp [Value.oneCell']) HT2.out.row (by have h1 : f3.length = f4.length := HL.out.2.2.1; have h2 : f4.length ≤ 1000 := HL.out.2.2.2.1; omega) ?_
      intro v1 w9 hown1 hg1 hat1
      obtain ⟨A1, c1, rfl⟩ := own_slice hown1
      have hn9 : NodeB w9 nb 4 noStr noStr (.slice AC (2 * j) cC) := (hg1.block nb HT2.out.node.lt (fun e => own_ne HT2.out.row HT2.out.node (by decide) e)).trans HT2.out.node
      have c96 := hn9.c6
      have z96 := hn9.fz 6
      have hpush := HT2.out.push (base := wr.heap.size) (kb := wr.heap.size) (cb := cb) (key := key) (y := y) (by have := HSZ.out; omega) (fun c hc k hF => ((HT.out.kid c hc).2 k hF).2.2) (fun k hk => own_lt HT.out.row k hk) HT.out.node.lt (fun _ => ⟨HKY.out.1, Nat.le_refl _, HKB.out, (fun hk => by have := hk.1; omega)⟩) HKY.out.2 HRB.out (fun k hk => ⟨by have := hk.1; omega, hk.2⟩) hown1 hg1 hat1
      have HPUSH := Lib.hid hpush
      clear hpush hown1 hg1 hat1 hn9
      refine hK.out _ _ ?_
      clear hK K
      refine nr (some 46) ?_
      refine pu 16 (some 47) (bl 19 131071) ?_
      refine pu 17 (some 48) (bl 19 262143) ?_
      refine ls_ 18 none (bl 19 524287) fun K hK => ?_
      refine skip_ (w1 := ?_) (by rfl) rfl ?_ ?_
      rotate_left
      ·go_simp
       rfl
      refine hK.out _ _ ?_
      clear hK K
      refine done_ (by kernel_rfl) ?_
      go_wp2_with fail
      go_roundg (gk - 1)
      case measure => omega
      case rel => exact ⟨j + 1, by omega, by go_num, Lib.hid ⟨_, _, HPUSH.out⟩⟩
     ·skip
      refine gs_ Tryz.func40 #[ndV y B3 d3 B4 d4] ?_
      refine (HI.out y HY.out.2.2.2.2 _ B3 B4 d3 d4 (Kd.C_below HY.out.2.1 (below_drew HT.out.below)) HY.out.1 (Kd.C_below HY.out.2.2.2.1 (below_drew HT.out.below)) HY.out.2.2.1).mono ?_
      rintro e w7 ⟨cb, rfl, hrp, hbc⟩
      have HRP := Lib.hid hrp
      have HBC := Lib.hid hbc
      clear hrp hbc
      refine ⟨_, rfl, ?_⟩
      refine hK.out _ _ (he7 HBC.out hHeld) (fun hHeld => ?_)
      clear hK K
      refine nr (some 44) ?_
      refine on_ 7 (some 38) (bl 19 16383) fun K hK => ?_
      refine value_ (w1 := ?_) (v := ?_) (by rfl) rfl ?_ ?_
      rotate_left 2
      ·go_simp
       constructor
       ·rfl
       ·rfl
      refine hK.out _ _ ⟨cell_old _ hHeld.1, cell_old _ hHeld.2.1, cell_old _ hHeld.2.2.1, cell_old _ hHeld.2.2.2.1, cell_old _ hHeld.2.2.2.2.1, cell_old _ hHeld.2.2.2.2.2.1, cell_old _ hHeld.2.2.2.2.2.2⟩ (fun hHeld => ?_)
      clear hK K
      refine nr (some 38) ?_
      refine on_ 14 (some 45) (bl 19 32767) fun K hK => ?_
      refine value_ (w1 := ?_) (v := ?_) (by rfl) rfl ?_ ?_
      rotate_left 2
      ·go_simp
       constructor
       ·rfl
       ·rfl
      refine hK.out _ _ ⟨cell_old _ hHeld.1, cell_old _ hHeld.2.1, cell_old _ hHeld.2.2.1, cell_old _ hHeld.2.2.2.1, cell_old _ hHeld.2.2.2.2.1, cell_old _ hHeld.2.2.2.2.2.1, cell_old _ hHeld.2.2.2.2.2.2⟩ (fun hHeld => ?_)
      clear hK K
      refine nr (some 45) ?_
      refine ls_ 15 (some 46) (bl 19 65535) fun K hK => ?_
      have HT2 := Lib.hid ((HT.out.under ((below_drew (Below.refl wr.heap.size wr)).trans HBC.out)).under (below_alloc (Below.refl _ _) (.cells (nd 8 noStr key nilS) 85)))
      have HKB := Lib.hid (show NodeB (w7.alloc (.cells (nd 8 noStr key nilS) 85)) w7.heap.size 8 noStr key nilS from blk_new rfl _)
      have HRB := Lib.hid ((HRP.out.bound.mono (G := fun k => wr.heap.size ≤ k ∧ k < w7.heap.size) fun k hk => ⟨by have := hk.1; simp at this; omega, hk.2.lt⟩).under (below_alloc (Below.refl _ _) (.cells (nd 8 noStr key nilS) 85)))
      have HSZ := Lib.hid (show wr.heap.size ≤ w7.heap.size from by have := HBC.out.size; simp at this; omega)
      refine step_app (base := nb + 1) (by exact HT2.out.node.lt) 83 69 (.pointer none) 8 [.pointer (some ⟨w7.heap.size, 0, none⟩), .pointer (some ⟨cb, 0, none⟩)] 2 rfl (by rfl) (by rfl) Tryz.underlying83 info69 rfl (by omega) (.slice AC (2 * j) cC) (2 * j) _ (by rfl) (by simp [Act.eval]) (by simp [Value.oneCell']) HT2.out.row (by have h1 : f3.length = f4.length := HL.out.2.2.1; have h2 : f4.length ≤ 1000 := HL.out.2.2.2.1; omega) ?_
      intro v1 w9 hown1 hg1 hat1
      obtain ⟨A1, c1, rfl⟩ := own_slice hown1
      have hn9 : NodeB w9 nb 4 noStr noStr (.slice AC (2 * j) cC) := (hg1.block nb HT2.out.node.lt (fun e => own_ne HT2.out.row HT2.out.node (by decide) e)).trans HT2.out.node
      have c96 := hn9.c6
      have z96 := hn9.fz 6
      have hpush := HT2.out.push (base := wr.heap.size) (kb := w7.heap.size) (cb := cb) (key := key) (y := y) (Nat.le_trans HSZ.out (by simp)) (fun c hc k hF => ((HT.out.kid c hc).2 k hF).2.2) (fun k hk => own_lt HT.out.row k hk) HT.out.node.lt (fun _ => ⟨HKY.out.1, HSZ.out, HKB.out, (fun hk => Nat.lt_irrefl _ hk.2)⟩) HKY.out.2 HRB.out (fun k hk => ⟨hk.1, Nat.lt_of_lt_of_le hk.2 (by simp)⟩) hown1 hg1 hat1
      have HPUSH := Lib.hid hpush
      clear hpush hown1 hg1 hat1 hn9
      refine hK.out _ _ ?_
      clear hK K
      refine nr (some 46) ?_
      refine pu 16 (some 47) (bl 19 131071) ?_
      refine pu 17 (some 48) (bl 19 262143) ?_
      refine ls_ 18 none (bl 19 524287) fun K hK => ?_
      refine skip_ (w1 := ?_) (by rfl) rfl ?_ ?_
      rotate_left
      ·go_simp
       rfl
      refine hK.out _ _ ?_
      clear hK K
      refine done_ (by kernel_rfl) ?_
      go_wp2_with fail
      go_roundg (gk - 1)
      case measure => omega
      case rel => exact ⟨j + 1, by omega, by go_num, Lib.hid ⟨_, _, HPUSH.out⟩⟩
    ·have hj2 := Lib.hid (show j = f3.length by omega)
     have hx : ¬ (j : Int) < (f3.length : Int) := by omega
     have hx' : ¬ j < f3.length := by omega
     have HII := hI
     clear hI
     go_wp2_with fail
     go_ret
     obtain ⟨C, kids, hti⟩ := HII.out
     have h1 : f3.length = f4.length := HL.out.2.2.1
     rw [hj2.out, h1] at hti
     exact ⟨nb, rfl, hti.map_done h1, hti.below⟩
  ·have HB := Lib.hid hb0
   have HI := Lib.hid ih
   have HC4 := Lib.hid hC4
   have HL := Lib.hid (And.intro hl4 (And.intro hmax hit))
   clear hb0 hC3 hC4 hl3 hl4 ih hmax hit
   go_enter Tryz.func40, Tryz.ntmps40
   go_wp2_with fail
   have hti : TI false w (w.heap.size + 1) #[.int .i64 3, .string noStr, .string noStr, .slice A3 ([] : List ByteArray).length c3, .slice A4 f4.length c4] 2 [] f4 0 nilS [] ((w.alloc (.cells #[.int .i64 3, .string noStr, .string noStr, .slice A3 ([] : List ByteArray).length c3, .slice A4 f4.length c4] 25)).alloc (.cells (nd 2 noStr noStr nilS) 85)) :=
    ⟨below_alloc HB.out _, by omega, blk_old _ (blk_new rfl _), blk_new (by simp) _, own_nil _ _ _ _, rfl, fun _ => rfl, rfl, .nil, by simp, by simp⟩
   obtain ⟨nb, hnb⟩ : ∃ nb, nb = w.heap.size + 1 := ⟨_, rfl⟩
   rw [← hnb] at hti
   rw [← hnb]
   have HN := Lib.hid hnb
   have H0 := Lib.hid hti
   clear hti hnb
   obtain ⟨wb, hwb⟩ : ∃ wb, wb = w.heap.size := ⟨_, rfl⟩
   rw [← hwb]
   have HW := Lib.hid hwb
   clear hwb
   have hNb : (f4.length : Int) ≤ 9223372036854775807 := by have h2 : f4.length ≤ 1000 := HL.out.2.1; omega
   go_loopg [58] f4.length (fun k i wr => ∃ j : Nat, j + k = f4.length ∧ i = .int .i64 (j : Int) ∧ Hid (∃ C kids, TI false w nb #[.int .i64 3, .string noStr, .string noStr, .slice A3 ([] : List ByteArray).length c3, .slice A4 f4.length c4] 2 [] f4 j C kids wr))
   case atStart => exact ⟨0, by omega, rfl, Lib.hid ⟨_, _, H0.out⟩⟩
   case round =>
    obtain ⟨j, hj, rfl, hI⟩ := hrel
    by_cases hlt : 1 ≤ gk
    ·have hj1 : (j : Int) < (f4.length : Int) := by omega
     have hjn : j < f4.length := by omega
     obtain ⟨C, kids, hti⟩ := hI.out
     obtain ⟨AC, cC, rfl⟩ := own_slice hti.row
     obtain ⟨y, hy⟩ : ∃ y, f4[j]? = some y := ⟨_, List.getElem?_eq_getElem hjn⟩
     obtain ⟨ad4, B3, d3, B4, d4, rfl, y0, y1, y2, y3, y4, z1, z2, z3, z4⟩ := nd_at HC4.out j y hjn hy
     have HY := Lib.hid (And.intro z1 (And.intro z2 (And.intro z3 (And.intro z4 (HL.out.2.2 y (List.mem_of_getElem? hy))))))
     have hB := hti.below
     have y0' := (hB.cell (World.block_lt_of_cell? w _ y0)).trans y0
     have y1' := (hB.cell (World.block_lt_of_cell? w _ y1)).trans y1
     have y2' := (hB.cell (World.block_lt_of_cell? w _ y2)).trans y2
     have y3' := (hB.cell (World.block_lt_of_cell? w _ y3)).trans y3
     have y4' := (hB.cell (World.block_lt_of_cell? w _ y4)).trans y4
     have HT := Lib.hid hti
     have HKY := Lib.hid hy
     clear hti hy z1 z2 z3 z4 hB y0 y1 y2 y3 y4 hI
     go_wp2_with fail
     obtain ⟨tb, htb⟩ : ∃ tb, tb = wr.heap.size := ⟨_, rfl⟩
     rw [← htb]
     have hbox := blk_new htb (w := wr) (.cells #[.int .i64 y.f0, .string y.f1, .string y.f2, .slice B3 y.f3.length d3, .slice B4 y.f4.length d4] 25)
     obtain ⟨u0, u1, u2, u3, u4⟩ := cl5 hbox
     have HT1 := Lib.hid (HT.out.under (below_alloc (Below.refl _ _) (.cells #[.int .i64 y.f0, .string y.f1, .string y.f2, .slice B3 y.f3.length d3, .slice B4 y.f4.length d4] 25)))
     have u5 := HT1.out.node.c6
     have HTB := Lib.hid htb
     clear hbox y0' y1' y2' y3' y4' htb
     obtain ⟨wt, hwt⟩ : ∃ wt, wt = wr.alloc (.cells #[.int .i64 y.f0, .string y.f1, .string y.f2, .slice B3 y.f3.length d3, .slice B4 y.f4.length d4] 25) := ⟨_, rfl⟩
     rw [← hwt] at u0 u1 u2 u3 u4 u5 HT1
     rw [← hwt]
     clear hwt
     refine start_ (n := 12) (S := fun w' => w'.cell? ⟨nb, 6, none⟩ = some (.slice AC j cC) ∧ w'.cell? ⟨tb, 0, none⟩ = some (.int .i64 y.f0) ∧ w'.cell? ⟨tb, 1, none⟩ = some (.string y.f1) ∧ w'.cell? ⟨tb, 2, none⟩ = some (.string y.f2) ∧ w'.cell? ⟨tb, 3, none⟩ = some (.slice B3 y.f3.length d3) ∧ w'.cell? ⟨tb, 4, none⟩ = some (.slice B4 y.f4.length d4)) (ds := [8, 11]) #[false, false, false, false, false, false, false, false, false, false, false, false] (by kernel_rfl) rfl rfl ⟨u5, u0, u1, u2, u3, u4⟩ (fun hHeld => ?_)
     refine pu 0 (some 62) (bl 12 1) ?_
     refine pu 1 (some 63) (bl 12 3) ?_
     refine pu 2 (some 64) (bl 12 7) ?_
     refine pu 3 (some 65) (bl 12 15) ?_
     refine tk 4 (some 66) (bl 12 31) hHeld ?_
     refine tk 5 (some 67) (bl 12 63) hHeld ?_
     refine on_ 6 (some 68) (bl 12 127) fun K hK => ?_
     refine gs_ Tryz.func40 #[ndV y B3 d3 B4 d4] ?_
     refine (HI.out y HY.out.2.2.2.2 _ B3 B4 d3 d4 (Kd.C_below HY.out.2.1 (below_drew HT1.out.below)) HY.out.1 (Kd.C_below HY.out.2.2.2.1 (below_drew HT1.out.below)) HY.out.2.2.1).mono ?_
     rintro e w7 ⟨cb, rfl, hrp, hbc⟩
     have HRP := Lib.hid hrp
     have HBC := Lib.hid hbc
     clear hrp hbc
     refine ⟨_, rfl, ?_⟩
     refine hK.out _ _ (he6 HBC.out hHeld) (fun hHeld => ?_)
     clear hK K
     refine nr (some 68) ?_
     refine on_ 7 (some 69) (bl 12 255) fun K hK => ?_
     refine value_ (w1 := ?_) (v := ?_) (by rfl) rfl ?_ ?_
     rotate_left 2
     ·go_simp
      constructor
      ·rfl
      ·rfl
     refine hK.out _ _ ⟨cell_old _ hHeld.1, cell_old _ hHeld.2.1, cell_old _ hHeld.2.2.1, cell_old _ hHeld.2.2.2.1, cell_old _ hHeld.2.2.2.2.1, cell_old _ hHeld.2.2.2.2.2⟩ (fun hHeld => ?_)
     clear hK K
     refine nr (some 69) ?_
     refine ls_ 8 (some 70) (bl 12 511) fun K hK => ?_
     have HT2 := Lib.hid (HT1.out.under ((below_drew (Below.refl wt.heap.size wt)).trans HBC.out))
     have HRB := Lib.hid (HRP.out.bound.mono (G := fun k => wt.heap.size ≤ k ∧ k < w7.heap.size) fun k hk => ⟨hk.1, hk.2.lt⟩)
     refine step_app (base := nb + 1) (by exact HT2.out.node.lt) 83 69 (.pointer none) 8 [.pointer (some ⟨cb, 0, none⟩)] 1 rfl (by rfl) (by rfl) Tryz.underlying83 info69 rfl (by omega) (.slice AC j cC) j _ (by rfl) (by simp [Act.eval]) (by simp [Value.oneCell']) HT2.out.row (by have h2 : f4.length ≤ 1000 := HL.out.2.1; omega) ?_
     intro v1 w9 hown1 hg1 hat1
     obtain ⟨A1, c1, rfl⟩ := own_slice hown1
     have hn9 : NodeB w9 nb 2 noStr noStr (.slice AC j cC) := (hg1.block nb HT2.out.node.lt (fun e => own_ne HT2.out.row HT2.out.node (by decide) e)).trans HT2.out.node
     have c96 := hn9.c6
     have z96 := hn9.fz 6
     have hpush := HT2.out.push (base := wt.heap.size) (kb := 0) (cb := cb) (key := noStr) (y := y) HBC.out.size (fun c hc k hF => ((HT1.out.kid c hc).2 k hF).2.2) (fun k hk => own_lt HT1.out.row k hk) HT1.out.node.lt (fun hp => by cases hp) HKY.out HRB.out (fun k hk => hk) hown1 hg1 hat1
     have HPUSH := Lib.hid hpush
     clear hpush hown1 hg1 hat1 hn9
     refine hK.out _ _ ?_
     clear hK K
     refine nr (some 70) ?_
     refine pu 9 (some 71) (bl 12 1023) ?_
     refine pu 10 (some 72) (bl 12 2047) ?_
     refine ls_ 11 none (bl 12 4095) fun K hK => ?_
     refine skip_ (w1 := ?_) (by rfl) rfl ?_ ?_
     rotate_left
     ·go_simp
      rfl
     refine hK.out _ _ ?_
     clear hK K
     refine done_ (by kernel_rfl) ?_
     go_wp2_with fail
     go_roundg (gk - 1)
     case measure => omega
     case rel => exact ⟨j + 1, by omega, by go_num, Lib.hid ⟨_, _, HPUSH.out⟩⟩
    ·have hj2 := Lib.hid (show j = f4.length by omega)
     have hx : ¬ (j : Int) < (f4.length : Int) := by omega
     have hx' : ¬ j < f4.length := by omega
     have HII := hI
     clear hI
     go_wp2_with fail
     go_ret
     obtain ⟨C, kids, hti⟩ := HII.out
     rw [hj2.out] at hti
     exact ⟨nb, rfl, hti.seq_done, hti.below⟩
end Go.Proofs.YtghmajlfmoggfaaGreat
