import Derived.Laws.OwnMore
import Derived.Test.YtghmajlfmoggfaaGreatMI1
import Derived.Test.YtghmajlfmoggfaaGreatMB2
set_option linter.unusedSimpArgs false
set_option linter.unusedVariables false
namespace Go.Proofs.YtghmajlfmoggfaaGreat
open Go.RowKit Go.Proofs.YtghmajlfmoggfaaGreatW.PrintWords Go.Proofs.YtghmajlfmoggfaaGreatW.PrintLast PFnMerge
theorem below_grown_none {w w1 : World} (hg : w.grownBy w1 (Value.slice none 0 0).ownBlock) : Below w.heap.size w w1 :=
 ((Keep.refl (fun _ => False) w).grown hg fun k _ h => by simp [Value.ownBlock] at h).below (Nat.le_refl _) fun _ _ h => h.elim
theorem S1.of_own {w : World} {base : Nat} {v : Value} {s : ByteArray} (h : w.ownsRow base 9 1 v (0 + 1) ([] ++ [.string s])) : S1 w v s := by
 obtain ⟨hl, h | ⟨g, cap, cur, rfl, _, hg, h1, h2, hz, ht⟩⟩ := h
 ·cases h.2
 ·refine ⟨g, cap, cur, rfl, by omega, hg, ?_⟩
  have h3 : (cur.toList.take ((0 + 1) * 1))[0]? = some (.string s) := by rw [ht]; rfl
  rw [List.getElem?_take_of_lt (by omega)] at h3
  rw [← Array.getElem?_toList]
  exact h3
theorem S1.cell {w : World} {g c : Nat} {s : ByteArray} (h : S1 w (.slice (some ⟨g, 0, none⟩) 1 c) s) : w.cell? ⟨g, 0, none⟩ = some (.string s) := by
 obtain ⟨g', c', cs, h1, h2, h3, h4⟩ := h
 injection h1 with h1
 injection h1 with h1
 injection h1 with h1
 subst h1
 exact (blk_cell h3 0).trans h4
def SL (w : World) (v : Value) (ss : List ByteArray) : Prop := ∃ eb c cs, v = .slice (some ⟨eb, 0, none⟩) ss.length c ∧ ss.length ≤ c ∧ w.heap[eb]? = some (.cells cs 22 (0, 0)) ∧ ∀ (i : Nat) s, ss[i]? = some s → ∃ u, cs[i]? = some u ∧ S1 w u s
theorem SL.under {w w' : World} {v : Value} {ss : List ByteArray} (h : SL w v ss) (hb : Below w.heap.size w w') : SL w' v ss := by
 obtain ⟨eb, c, cs, h1, h2, h3, h4⟩ := h
 refine ⟨eb, c, cs, h1, h2, (hb.block _ (lt_of_block h3)).trans h3, fun i s hi => ?_⟩
 obtain ⟨u, g1, g2⟩ := h4 i s hi
 exact ⟨u, g1, g2.under hb⟩
structure EI (w : World) (ss : List ByteArray) (j : Nat) (cs : Array Value) (wr : World) : Prop where
 below : Below w.heap.size w wr
 row : wr.heap[w.heap.size]? = some (.cells cs 22 (0, 0))
 size : cs.size = ss.length
 done : ∀ (i : Nat) s, i < j → ss[i]? = some s → ∃ u, cs[i]? = some u ∧ S1 wr u s
 rest : ∀ i, j ≤ i → i < ss.length → cs[i]? = some (.slice none 0 0)
theorem EI.under {w wr wr' : World} {ss : List ByteArray} {j : Nat} {cs : Array Value} (h : EI w ss j cs wr) (hb : Below wr.heap.size wr wr') : EI w ss j cs wr' := by
 refine ⟨h.below.trans (hb.mono h.below.size), (hb.block _ (lt_of_block h.row)).trans h.row, h.size, fun i s hi hs => ?_, h.rest⟩
 obtain ⟨u, h1, h2⟩ := h.done i s hi hs
 exact ⟨u, h1, h2.under hb⟩
theorem EI.step {w wr : World} {ss : List ByteArray} {j : Nat} {cs : Array Value} {v : Value} {s : ByteArray} (h : EI w ss j cs wr) (hs : ss[j]? = some s) (hv : S1 wr v s) : EI w ss (j + 1) (cs.setIfInBounds j v) (wr.setCell ⟨w.heap.size, j, none⟩ v) := by
 have hlt : j < ss.length := (List.getElem?_eq_some_iff.1 hs).1
 have hS : ∀ u t, S1 wr u t → S1 (wr.setCell ⟨w.heap.size, j, none⟩ v) u t := fun u t ⟨g, c, cs', h2, h3, h4, h5⟩ => by
  refine ⟨g, c, cs', h2, h3, blk_else v ?_ h4, h5⟩
  show g ≠ w.heap.size
  rintro rfl
  rw [h.row] at h4
  injection h4 with h4
  injection h4 with _ h4
  cases h4
 refine ⟨h.below.trans (((Keep.refl (fun k => k = w.heap.size) wr).setCell ⟨w.heap.size, j, none⟩ v fun _ => rfl).below h.below.size fun k _ e => by omega), blk_set h.row j v, by simp [h.size], fun i t hi ht => ?_, fun i hi hl => ?_⟩
 ·by_cases hij : i = j
  ·subst hij
   rw [hs] at ht
   injection ht with ht
   subst ht
   exact ⟨v, by rw [Array.getElem?_setIfInBounds_self_of_lt (by rw [h.size]; exact hlt)], hS _ _ hv⟩
  ·obtain ⟨u, h1, h2⟩ := h.done i t (by omega) ht
   exact ⟨u, by rw [Array.getElem?_setIfInBounds_ne (fun e => hij e.symm)]; exact h1, hS _ _ h2⟩
 ·rw [Array.getElem?_setIfInBounds_ne (by omega)]
  exact h.rest i (by omega) hl
theorem make114 (n : Nat) (h : n ≤ 1000) : ∃ M : Array Value, M.size = n ∧ (∀ i : Nat, i < n → M[i]? = some (.slice none 0 0)) ∧ ∀ w : World, (Instr.makeSlice 114 (.int .i64 (n : Int)) (.int .i64 (n : Int))).run Tryz.prog w = .ok (.slice (some ⟨w.heap.size, 0, none⟩) n n) (w.alloc (.cells M 22)) := by
 obtain ⟨i0, hi, hzz⟩ := Option.map_eq_some_iff.1 info22
 simp only [Prod.mk.injEq] at hzz
 obtain ⟨hz0, hz1, hz2⟩ := hzz
 have hl := toList_madeCells_one (.slice none 0 0) n
 refine ⟨madeCells #[.slice none 0 0] n, by rw [← Array.length_toList, hl, List.length_replicate], fun i hi => ?_, fun w => ?_⟩
 ·rw [← Array.getElem?_toList, hl, List.getElem?_replicate, if_pos hi]
 ·have := run_make (P := Tryz.prog) w 114 22 i0 (.slice none 0 0) Tryz.underlying114 hi hz0 .i64 .i64 (n : Int) (n : Int) (by omega) (by omega) (by rw [hz2]; omega) (by omega)
  rw [hz1, Nat.mul_one, Int.toNat_natCast] at this
  exact this
set_option maxRecDepth 20000 in
set_option maxHeartbeats 8000000 in
theorem values85 {r b : Nat} {C kv : Value} {bs : List Nat} {ss : List ByteArray} (w : World) (hr : RNB w r b) (hl : ListAt w b C bs) (hlen : bs.length ≤ 1000) (hn : bs.length = ss.length) (hel : ∀ (i : Nat) e s, bs[i]? = some e → ss[i]? = some s → NmB w e s) (hk : S1 w kv nmKey) :
  Calls Tryz.prog 85 #[.pointer (some ⟨r, 0, none⟩), kv] w fun e w' => ∃ v, e = .returned (.tuple #[v, .nilIface]) ∧ SL w' v ss ∧ Below w.heap.size w w' ∧ v.ownBlock = some w.heap.size := by
 obtain ⟨F, hrow⟩ := hl.row
 obtain ⟨A, c, rfl, hc, _⟩ := hrow.slice
 obtain ⟨n, hnn⟩ : ∃ n, n = bs.length := ⟨_, rfl⟩
 have hk0 := hk
 obtain ⟨kb, kc, kcs, rfl, hkc, hkb, hk1⟩ := hk0
 rw [← hnn] at hc hrow
 have hnode := hl.node
 rw [← hnn] at hnode
 have H := Lib.hid (And.intro hr (And.intro hnode (And.intro hrow (And.intro hel (And.intro hnn (And.intro hn hk))))))
 have hn2 : (n : Int) ≤ 1000 := by omega
 have hn3 : (0 : Int) ≤ (n : Int) := by omega
 obtain ⟨M, hM1, hM2, hmk⟩ := make114 n (by omega)
 have HM := Lib.hid (And.intro hM1 hM2)
 clear hr hl hnode hrow hlen hel hk hkb hk1 hnn hn hM1 hM2
 go_enter Tryz.func85, Tryz.ntmps85
 go_wp2_with (first | (go_at_call 56; (with_reducible refine Calls.mono (errInv_eq _ H.out.1 H.out.2.1 rfl rfl (by decide +kernel)) ?_); rintro e w' ⟨rfl, rfl⟩) | (go_at_call 79; (with_reducible refine Calls.mono (content_some _ H.out.1 H.out.2.1 rfl) ?_); rintro e w' ⟨rfl, rfl⟩))
 clear hmk
 go_loopg [8] n (fun k i wr => ∃ j cs, j + k = n ∧ i = .int .i64 (j : Int) ∧ Hid (EI w ss j cs wr))
 case atStart => exact ⟨0, M, by omega, rfl, Lib.hid ⟨below_alloc (Below.refl _ _) _, blk_new rfl _, by rw [HM.out.1, H.out.2.2.2.2.1, H.out.2.2.2.2.2.1], fun i s hi => by omega, fun i _ hi => HM.out.2 i (by rw [H.out.2.2.2.2.1, H.out.2.2.2.2.2.1]; exact hi)⟩⟩
 case round =>
  obtain ⟨j, cs, hj, rfl, HI⟩ := hrel
  have HC := Lib.hid (content_some wr (H.out.1.under HI.out.below) (H.out.2.1.under HI.out.below) rfl)
  by_cases hlt : 1 ≤ gk
  ·have hj2 : (j : Int) < (n : Int) := by omega
   have hj3 : j < n := by omega
   have hj4 : j < c := by omega
   have hw : wrap64 ((j : Int) + 1) = ((j + 1 : Nat) : Int) := by unfold wrap64; omega
   obtain ⟨el, hb⟩ : ∃ el, bs[j]? = some el := ⟨_, List.getElem?_eq_getElem (by have := H.out.2.2.2.2.1; omega)⟩
   obtain ⟨s, hs⟩ : ∃ s, ss[j]? = some s := ⟨_, List.getElem?_eq_getElem (by have h1 := H.out.2.2.2.2.1; have h2 := H.out.2.2.2.2.2.1; omega)⟩
   obtain ⟨g, rfl, hcell⟩ := (H.out.2.2.1.under HI.out.below).cell j el hb
   have HE := Lib.hid (And.intro hs (H.out.2.2.2.1 j el s hb hs))
   have hk2 := (H.out.2.2.2.2.2.2.under HI.out.below).cell
   have hkc1 : 0 < kc := by omega
   clear hb hs
   go_wp2_with (go_at_call 79; (with_reducible refine Calls.mono HC.out ?_); rintro e w' ⟨rfl, rfl⟩)
   refine wp_loop_rounds 2 ?_
   rw [rounds_succ]
   go_wp2_with (go_at_call 79; (with_reducible refine Calls.mono HC.out ?_); rintro e w' ⟨rfl, rfl⟩)
   refine (newRNode _).mono ?_
   rintro e w2 ⟨rfl, rfl⟩
   have hr2 : RNB (wr.alloc (.cells #[nilS, .pointer (some ⟨el, 0, none⟩), .bool false, nilS] 81)) wr.heap.size el := blk_new rfl _
   have HI2 := Lib.hid (HI.out.under (below_alloc (Below.refl wr.heap.size wr) (.cells #[nilS, .pointer (some ⟨el, 0, none⟩), .bool false, nilS] 81)))
   have HR2 := Lib.hid hr2
   clear hr2 hk2 hcell HC
   go_wp2_with fail
   refine ((HE.out.2.under HI2.out.below).field HR2.out).mono ?_
   rintro e w3 ⟨mb, kr, vr, cb, tag, rfl, hm, hv, hcb, htag, hb⟩
   have HI3 := Lib.hid (HI2.out.under hb)
   have HN := Lib.hid (And.intro hm (And.intro hv (And.intro hcb htag)))
   clear hm hv hcb htag hb
   go_wp2_with fail
   refine (noEmpty106 w3 HN.out.1 HN.out.2.1 HN.out.2.2.1 HN.out.2.2.2).mono ?_
   rintro e w4 ⟨rfl, rfl⟩
   have x0 : w3.cell? ⟨w.heap.size, j, none⟩ = some (.slice none 0 0) := (blk_cell HI3.out.row j).trans (HI3.out.rest j (Nat.le_refl _) (by have h1 := H.out.2.2.2.2.1; have h2 := H.out.2.2.2.2.2.1; omega))
   have x1 : w3.cell? ⟨mb, 1, none⟩ = some (.pointer (some ⟨vr, 0, none⟩)) := (blk_cell HN.out.1 1).trans rfl
   have x2 := HN.out.2.1.cell1
   have x3 := HN.out.2.2.1.c0
   have x4 := HN.out.2.2.1.c3
   go_wp2_with fail
   refine start_ (n := 18) (S := fun w' => w'.cell? ⟨w.heap.size, j, none⟩ = some (.slice none 0 0) ∧ w'.cell? ⟨mb, 1, none⟩ = some (.pointer (some ⟨vr, 0, none⟩)) ∧ w'.cell? ⟨vr, 1, none⟩ = some (.pointer (some ⟨cb, 0, none⟩)) ∧ w'.cell? ⟨cb, 0, none⟩ = some (.int .u32 8) ∧ w'.cell? ⟨cb, 3, none⟩ = some (.string s)) (ds := [15, 17]) #[false, false, false, false, false, false, false, false, false, false, false, false, false, false, false, false, false, false] (by kernel_rfl) rfl rfl ⟨x0, x1, x2, x3, x4⟩ (fun hHeld => ?_)
   obtain ⟨W, hW⟩ : ∃ W, W = w3.drew := ⟨_, rfl⟩
   have HI3 := Lib.hid (show EI w ss j cs W from hW ▸ HI3.out.under (below_drew (Below.refl _ _)))
   rw [← hW] at hHeld ⊢
   clear hW
   refine pu 0 (some 53) (bl 18 1) ?_
   refine pu 1 (some 54) (bl 18 3) ?_
   refine pu 2 (some 55) (bl 18 7) ?_
   refine pu 3 (some 56) (bl 18 15) ?_
   refine pu 4 (some 57) (bl 18 31) ?_
   refine pu 6 (some 59) (bl 18 95) ?_
   refine pu 7 (some 60) (bl 18 223) ?_
   refine pu 8 (some 61) (bl 18 479) ?_
   refine tk 5 (some 58) (bl 18 511) hHeld ?_
   refine tk 9 (some 62) (bl 18 1023) hHeld ?_
   refine takeC_ (i := 10) (N := some 63) (v := ?_) (a' := ?_) (bl 18 2047) rfl rfl (by kernel_rfl) (fun _ _ _ h => h) Tryz.func42 (by kernel_rfl) rfl #[.pointer (some ⟨vr, 0, none⟩)] (by rfl) rfl (by simp only [List.map_toArray, List.map_cons, List.map_nil]; rfl) ?_ hHeld ?_ ?_
   rotate_left
   ·rintro w' ⟨s0, s1, s2, s3, s4⟩
    exact ynode_c _ s2 s3 rfl
   rotate_left
   ·simp only [np]
    rfl
   refine pu 11 (some 64) (bl 18 4095) ?_
   refine pu 12 (some 65) (bl 18 8191) ?_
   refine tk 13 (some 66) (bl 18 16383) hHeld ?_
   refine on_ 14 (some 67) (bl 18 32767) fun K hK => ?_
   have HH := Lib.hid hHeld
   refine value_ (w1 := ?_) (v := ?_) (by rfl) rfl ?_ ?_
   rotate_left 2
   ·go_simp
    constructor
    ·rfl
    ·rfl
   refine hK.out _ _ ⟨((below_alloc (Below.refl _ _) (.cells #[.string s] 9)).cell (World.block_lt_of_cell? _ _ hHeld.1)).trans hHeld.1, ((below_alloc (Below.refl _ _) (.cells #[.string s] 9)).cell (World.block_lt_of_cell? _ _ hHeld.2.1)).trans hHeld.2.1, ((below_alloc (Below.refl _ _) (.cells #[.string s] 9)).cell (World.block_lt_of_cell? _ _ hHeld.2.2.1)).trans hHeld.2.2.1, ((below_alloc (Below.refl _ _) (.cells #[.string s] 9)).cell (World.block_lt_of_cell? _ _ hHeld.2.2.2.1)).trans hHeld.2.2.2.1, ((below_alloc (Below.refl _ _) (.cells #[.string s] 9)).cell (World.block_lt_of_cell? _ _ hHeld.2.2.2.2)).trans hHeld.2.2.2.2⟩ (fun hHeld => ?_)
   clear hK K
   refine nr (some 67) ?_
   refine ls_ 15 (some 68) (bl 18 65535) fun K hK => ?_
   refine step_app (base := 0) (Nat.zero_le _) 22 9 (.string ⟨#[]⟩) 16 [.string s] 1 rfl (by rfl) (by rfl) Tryz.underlying22 info9 rfl (by omega) (.slice none 0 0) 0 [] (by rfl) (by rfl) (by simp [Value.oneCell']) (own_nil _ _ _ _) (by omega) ?_
   intro v1 w1 hown1 hg1 hat1
   have hb1 := below_grown_none hg1
   have hv1 := S1.of_own hown1
   have HV := Lib.hid hv1
   obtain ⟨gv, cv, csv, rfl, _, _, _⟩ := hv1
   have HEW := Lib.hid (HI3.out.under hb1)
   have hc1 := (blk_cell HEW.out.row j).trans (HEW.out.rest j (Nat.le_refl _) (by have h1 := H.out.2.2.2.2.1; have h2 := H.out.2.2.2.2.2.1; omega))
   have hz1 := blk_frozen HEW.out.row j
   clear hown1 hg1 hat1 hb1
   refine hK.out _ _ ?_
   clear hK K
   refine nr (some 68) ?_
   refine pu 16 (some 69) (bl 18 131071) ?_
   refine ls_ 17 none (bl 18 262143) fun K hK => ?_
   refine skip_ (w1 := ?_) (by rfl) rfl ?_ ?_
   rotate_left
   ·go_simp
    rfl
   clear hc1 hz1
   refine hK.out _ _ ?_
   clear hK K
   refine done_ (by kernel_rfl) ?_
   have HEI4 := Lib.hid (HEW.out.step HE.out.1 HV.out)
   go_wp2_with fail
   rw [rounds_succ]
   go_wp2_with fail
   go_roundg (gk - 1)
   case measure => omega
   case rel => exact ⟨j + 1, _, by omega, by go_num, HEI4⟩
  ·have hj2 : ¬ ((j : Int) < (n : Int)) := by omega
   have hj3 : ¬ (j < n) := by omega
   go_wp2_with (go_at_call 79; (with_reducible refine Calls.mono HC.out ?_); rintro e w' ⟨rfl, rfl⟩)
   refine bodyPost_ret (v := .tuple #[.slice (some ⟨w.heap.size, 0, none⟩) n n, .nilIface]) (by simp [results, Tryz.results85, go_sem]) rfl ?_
   refine ⟨_, rfl, ⟨w.heap.size, n, cs, by rw [H.out.2.2.2.2.1, H.out.2.2.2.2.2.1], by rw [H.out.2.2.2.2.1, H.out.2.2.2.2.2.1]; exact Nat.le_refl _, HI.out.row, fun i s hi => HI.out.done i s ?_ hi⟩, HI.out.below, rfl⟩
   have := (List.getElem?_eq_some_iff.1 hi).1
   have h1 := H.out.2.2.2.2.1
   have h2 := H.out.2.2.2.2.2.1
   omega
def NL (w : World) (q : Option Addr) (ns : List ByteArray) : Prop := (q = none ∧ ns = []) ∨ ∃ r b C bs, q = some ⟨r, 0, none⟩ ∧ RNB w r b ∧ ListAt w b C bs ∧ bs.length = ns.length ∧ bs.length ≤ 1000 ∧ 0 < ns.length ∧ ∀ (i : Nat) e s, bs[i]? = some e → ns[i]? = some s → NmB w e s
theorem NL.under {w w' : World} {q : Option Addr} {ns : List ByteArray} (h : NL w q ns) (hb : Below w.heap.size w w') : NL w' q ns := by
 rcases h with h | ⟨r, b, C, bs, h1, h2, h3, h4, h5, h6, h7⟩
 ·exact .inl h
 ·exact .inr ⟨r, b, C, bs, h1, h2.under hb, h3.under hb, h4, h5, h6, fun i e s he hs => (h7 i e s he hs).under hb⟩
theorem NL.len {w : World} {q : Option Addr} {ns : List ByteArray} (h : NL w q ns) : ns.length ≤ 1000 := by
 rcases h with ⟨_, rfl⟩ | ⟨r, b, C, bs, h1, h2, h3, h4, h5, h6, h7⟩
 ·simp
 ·omega
theorem SL.cell {w : World} {eb n c i : Nat} {ss : List ByteArray} {s : ByteArray} (h : SL w (.slice (some ⟨eb, 0, none⟩) n c) ss) (hs : ss[i]? = some s) : ∃ u, w.cell? ⟨eb, i, none⟩ = some u ∧ S1 w u s := by
 obtain ⟨eb', c', cs, h1, h2, h3, h4⟩ := h
 injection h1 with h1
 injection h1 with h1
 injection h1 with h1
 subst h1
 obtain ⟨u, g1, g2⟩ := h4 i s hs
 exact ⟨u, (blk_cell h3 i).trans g1, g2⟩
theorem SL.keep {w w' : World} {eb n c : Nat} {ss : List ByteArray} {T : Nat → Prop} (h : SL w (.slice (some ⟨eb, 0, none⟩) n c) ss) (hk : Keep T w w') (h1 : ¬ T eb) (h2 : ∀ k, T k → ∃ cells, w.heap[k]? = some (.cells cells 22 (0, 0))) : SL w' (.slice (some ⟨eb, 0, none⟩) n c) ss := by
 obtain ⟨eb', c', cs, g1, g2, g3, g4⟩ := h
 have g0 := g1
 injection g1 with g1
 injection g1 with g1
 injection g1 with g1
 subst g1
 refine ⟨eb, c', cs, g0, g2, hk.at_ g3 h1, fun i s hs => ?_⟩
 obtain ⟨u, k1, gg, cc, cs', k2, k3, k4, k5⟩ := g4 i s hs
 refine ⟨u, k1, gg, cc, cs', k2, k3, hk.at_ k4 fun hT => ?_, k5⟩
 obtain ⟨cells, hc⟩ := h2 gg hT
 rw [k4] at hc
 injection hc with hc
 injection hc with _ hc
 cases hc
def addN (acc l : List ByteArray) : List ByteArray := l.foldl (fun a s => if hasB a s then a else a ++ [s]) acc
theorem addN_take {acc l : List ByteArray} {j : Nat} {s : ByteArray} (h : l[j]? = some s) : addN acc (l.take (j + 1)) = if hasB (addN acc (l.take j)) s then addN acc (l.take j) else addN acc (l.take j) ++ [s] := by
 unfold addN
 rw [List.take_add_one, h, Option.toList_some, List.foldl_append]
 rfl
theorem addN_len {l acc : List ByteArray} : (addN acc l).length ≤ acc.length + l.length := by
 unfold addN
 induction l generalizing acc with
 | nil => simp
 | cons a r ih =>
  simp only [List.foldl_cons, List.length_cons]
  have h := ih (acc := if hasB acc a then acc else acc ++ [a])
  split at h
  ·rename_i hh
   simp only [hh, if_true]
   omega
  ·rename_i hh
   simp only [hh, Bool.false_eq_true, if_false]
   rw [List.length_append, List.length_singleton] at h
   omega
structure TwoV (w : World) (base : Nat) (rv sv : Value) (ss : List ByteArray) : Prop where
 a : VS w base rv ss
 b : VS w base sv ss
 ne : ∀ k, rv.ownBlock = some k → sv.ownBlock ≠ some k
 sz : base ≤ w.heap.size
theorem VS.typed {w : World} {base : Nat} {v : Value} {ss : List ByteArray} (h : VS w base v ss) (k : Nat) (hk : v.ownBlock = some k) : (∀ cs, w.heap[k]? ≠ some (.cells cs 9 (0, 0))) ∧ base ≤ k ∧ k < w.heap.size ∧ ∃ cells, w.heap[k]? = some (.cells cells 22 (0, 0)) := by
 obtain ⟨xs, h, _⟩ := h
 obtain ⟨cells, hc⟩ := own_typed h k hk
 refine ⟨fun cs e => ?_, own_base h k hk, own_lt h k hk, cells, hc⟩
 rw [hc] at e
 injection e with e
 injection e with _ e
 cases e
theorem TwoV.under {w w' : World} {base : Nat} {rv sv : Value} {ss : List ByteArray} (h : TwoV w base rv sv ss) (hb : Below w.heap.size w w') : TwoV w' base rv sv ss := ⟨h.a.under hb, h.b.under hb, h.ne, Nat.le_trans h.sz hb.size⟩
theorem TwoV.app {w w1 : World} {base : Nat} {rv sv rv1 u : Value} {ss : List ByteArray} {s : ByteArray} {xs : List Value} (h : TwoV w base rv sv ss) (hu : S1 w u s) (ho : w.ownsRow base 22 1 rv ss.length xs) (hxs : ∀ (i : Nat) s, ss[i]? = some s → ∃ u, xs[i]? = some u ∧ S1 w u s)
  (h1 : w1.ownsRow base 22 1 rv1 (ss.length + 1) (xs ++ [u])) (hg : w.grownBy w1 rv.ownBlock) (hat : rv1.ownBlock = rv.ownBlock ∨ ∃ b, rv1.ownBlock = some b ∧ w.heap.size ≤ b) :
  VS w1 base rv1 (ss ++ [s]) ∧ VS w1 base sv ss ∧ (∀ k, rv1.ownBlock = some k → sv.ownBlock ≠ some k) ∧ Below base w w1 ∧ S1 w1 u s ∧ Keep (fun k => rv.ownBlock = some k) w w1 ∧ ∀ k, rv1.ownBlock = some k → rv.ownBlock = some k ∨ w.heap.size ≤ k := by
 have hk : Keep (fun k => rv.ownBlock = some k) w w1 := (Keep.refl _ w).grown hg fun k _ h => h
 refine ⟨VS.snoc h.a hxs (by have := ho.1; omega) ho hu h1 hg, h.b.move hk fun k hT => ⟨h.ne k hT, (h.a.typed k hT).1⟩, fun k e => ?_, hk.below h.sz fun k _ hT => (h.a.typed k hT).2.1, ?_, hk, fun k e => ?_⟩
 ·rcases hat with hat | ⟨b, hat, hb⟩
  ·exact h.ne k (hat ▸ e)
  ·rw [hat] at e
   injection e with e
   intro e2
   have := (h.b.typed k e2).2.2.1
   omega
 ·obtain ⟨g, c, cs, h2, h3, h4, h5⟩ := hu
  exact ⟨g, c, cs, h2, h3, hk.at_ h4 fun hT => (h.a.typed g hT).1 _ h4, h5⟩
 ·rcases hat with hat | ⟨b, hat, hb⟩
  ·exact .inl (hat ▸ e)
  ·rw [hat] at e
   injection e with e
   exact .inr (e ▸ hb)
theorem TwoV.ins {w1 w2 : World} {base : Nat} {rv sv sv1 : Value} {ss : List ByteArray} {s : ByteArray} (ha : VS w1 base rv (ss ++ [s])) (hb : VS w1 base sv ss) (hne : ∀ k, rv.ownBlock = some k → sv.ownBlock ≠ some k) (hsz : base ≤ w1.heap.size) (h : AppV w1 base sv ss s sv1 w2) : TwoV w2 base rv sv1 (ss ++ [s]) ∧ Below base w1 w2 ∧ Keep (fun k => sv.ownBlock = some k) w1 w2 ∧ ∀ k, sv1.ownBlock = some k → sv.ownBlock = some k ∨ w1.heap.size ≤ k := by
 obtain ⟨h1, h2, h3⟩ := h
 refine ⟨⟨ha.move h2 fun k hT => ⟨fun e => hne k e hT, (hb.typed k hT).1⟩, h1, fun k e => ?_, Nat.le_trans hsz h2.size⟩, h2.below hsz fun k _ hT => (hb.typed k hT).2.1, h2, fun k e => ?_⟩
 rotate_left
 ·rcases h3 with h3 | ⟨b, h3, h4⟩
  ·exact .inl (h3 ▸ e)
  ·rw [h3] at e
   injection e with e
   exact .inr (e ▸ h4)
 rcases h3 with h3 | ⟨b, h3, h4⟩
 ·rw [h3]; exact hne k e
 ·rw [h3]
  intro e2
  injection e2 with e2
  have := (ha.typed k e).2.2.1
  omega
set_option maxRecDepth 20000 in
set_option maxHeartbeats 8000000 in
theorem elemValues67 {sb c : Nat} {dp sp : Option Addr} {nd ns : List ByteArray} {V path sc ic vk kv : Value} (w : World) (hs : SrcAt w sb dp sp) (hc : 2 ≤ c) (hd : NL w dp nd) (ho : NL w sp ns) (hk : S1 w kv nmKey) :
  Calls Tryz.prog 67 #[.agg #[V, sc, .slice (some ⟨sb, 0, none⟩) 2 c, path, ic, vk, .int .i64 0], kv] w fun e w' => ∃ v, e = .returned v ∧ VS w' w.heap.size v (addN (addN [] nd) ns) ∧ Below w.heap.size w w' := by
 obtain ⟨accs, ha0, ha1, ha2⟩ : ∃ accs : Nat → List ByteArray, accs 0 = [] ∧ accs 1 = addN [] nd ∧ accs 2 = addN (addN [] nd) ns := ⟨fun j => if j = 0 then [] else if j = 1 then addN [] nd else addN (addN [] nd) ns, rfl, rfl, rfl⟩
 have hal : ∀ j, j < 2 → (accs j).length ≤ 1000 := by
  have h1 := hd.len
  have h2 := addN_len (acc := []) (l := nd)
  intro j hj
  match j, hj with
  | 0, _ => rw [ha0]; simp
  | 1, _ => rw [ha1]; simp only [List.length_nil] at h2; omega
 have hq : ∀ j, j < 2 → ∃ q l, (∀ W, Below w.heap.size w W → W.cell? ⟨sb, j, none⟩ = some (.pointer q)) ∧ NL w q l ∧ accs (j + 1) = addN (accs j) l := by
  intro j hj
  match j, hj with
  | 0, _ => exact ⟨dp, nd, fun W hb => (hs.under hb).c0, hd, by rw [ha1, ha0]⟩
  | 1, _ => exact ⟨sp, ns, fun W hb => (hs.under hb).c1, ho, by rw [ha2, ha1]⟩
 have HQ := Lib.hid (And.intro hal (And.intro hq (And.intro hk (And.intro ha0 ha2))))
 obtain ⟨kb, kc, kcs, rfl, hkc, _, _⟩ := hk
 have HB0 := Lib.hid (below_alloc (Below.refl w.heap.size w) (.cells #[V, sc, .slice (some ⟨sb, 0, none⟩) 2 c, path, ic, vk, .int .i64 0] 66))
 have HX0 := Lib.hid (show (w.alloc (.cells #[V, sc, .slice (some ⟨sb, 0, none⟩) 2 c, path, ic, vk, .int .i64 0] 66)).heap[w.heap.size]? = some (.cells #[V, sc, .slice (some ⟨sb, 0, none⟩) 2 c, path, ic, vk, .int .i64 0] 66 (0, 0)) from blk_new rfl _)
 clear hs hd ho hal hq ha0 ha1 ha2
 go_enter Tryz.func67, Tryz.ntmps67
 go_wp2_with fail
 go_loopg [21, 5, 6] 2 (fun k i rv sv wr => ∃ j : Nat, j + k = 2 ∧ i = .int .i64 (j : Int) ∧ Hid (Below w.heap.size w wr ∧ wr.heap[w.heap.size]? = some (.cells #[V, sc, .slice (some ⟨sb, 0, none⟩) 2 c, path, ic, vk, .int .i64 0] 66 (0, 0)) ∧ TwoV wr w.heap.size rv sv (accs j)))
 case atStart => exact ⟨0, by omega, rfl, Lib.hid ⟨HB0.out, HX0.out, by rw [HQ.out.2.2.2.1]; exact ⟨VS.nil _ _, VS.nil _ _, fun k h => by simp [Value.ownBlock] at h, HB0.out.size⟩⟩⟩
 case round =>
  obtain ⟨j, hj, rfl, HI⟩ := hrel
  by_cases hlt : 1 ≤ gk
  ·obtain ⟨q, l, hcell, hnl, hacc⟩ := HQ.out.2.1 j (by omega)
   have hcq := hcell wr HI.out.1
   have HNL := Lib.hid (And.intro (hnl.under HI.out.1) (And.intro hacc (HQ.out.1 j (by omega))))
   have hx2 : wr.cell? ⟨w.heap.size, 2, none⟩ = some (.slice (some ⟨sb, 0, none⟩) 2 c) := (blk_cell HI.out.2.1 2).trans rfl
   have hj2 : (j : Int) < 2 := by omega
   have hj3 : j < 2 := by omega
   clear hcell hnl hacc
   obtain ⟨acc, hacc⟩ : ∃ acc, acc = accs j := ⟨_, rfl⟩
   have hnx := HNL.out.2.1
   have hal := HNL.out.2.2
   have htv := HI.out.2.2
   rw [← hacc] at hnx hal htv
   have HT := Lib.hid htv
   have HNX := Lib.hid (And.intro hnx hal)
   obtain ⟨go, hgo⟩ : ∃ go, go = gk := ⟨_, rfl⟩
   have HGO := Lib.hid (And.intro hgo hj)
   clear hnx hal htv hacc hgo
   rcases HNL.out.1 with ⟨rfl, hl⟩ | ⟨r, b, C, bs, rfl, hr, hla, hlen, hl1, hl0, hel⟩
   ·have hsame : accs (j + 1) = acc := by rw [HNX.out.1, hl]; rfl
    have HS := Lib.hid hsame
    clear hsame hl
    obtain rfl | rfl : j = 0 ∨ j = 1 := by omega
    all_goals
     go_wp2_with fail
     go_quiet (fail)
     go_wp2_with fail
     go_roundg (gk - 1)
     case measure => omega
     case rel =>
      have htw := HT.out.under (pw_below_drewN (Below.refl _ _) nq)
      rw [← HS.out] at htw
      first | exact ⟨1, by omega, rfl, Lib.hid ⟨HI.out.1.trans (pw_below_drewN (Below.refl _ _) _), HI.out.2.1, htw⟩⟩ | exact ⟨2, by omega, rfl, Lib.hid ⟨HI.out.1.trans (pw_below_drewN (Below.refl _ _) _), HI.out.2.1, htw⟩⟩
   ·have HR := Lib.hid (And.intro hr (And.intro hla (And.intro hl1 (And.intro hlen hel))))
    clear hr hla hlen hl1 hel
    obtain rfl | rfl : j = 0 ∨ j = 1 := by omega
    all_goals
     go_wp2_with fail
     go_quiet (fail)
     have HB1 := Lib.hid (pw_below_drewN (Below.refl wr.heap.size wr) nq)
     obtain ⟨wq, hwq⟩ : ∃ wq, wq = wr.drewN nq := ⟨_, rfl⟩
     rw [← hwq] at HB1
     rw [← hwq]
     clear hwq
     have hx2' : wq.cell? ⟨w.heap.size, 2, none⟩ = some (.slice (some ⟨sb, 0, none⟩) 2 c) := (blk_cell ((HB1.out.block _ (lt_of_block HI.out.2.1)).trans HI.out.2.1) 2).trans rfl
     go_wp2_with fail
     refine (values85 wq (HR.out.1.under HB1.out) (HR.out.2.1.under HB1.out) HR.out.2.2.1 HR.out.2.2.2.1 (fun i e s he hs => (HR.out.2.2.2.2 i e s he hs).under HB1.out) (HQ.out.2.2.1.under (HI.out.1.trans (HB1.out.mono HI.out.1.size)))).mono ?_
     rintro e w2 ⟨v, rfl, hsl, hb, hob⟩
     obtain ⟨eb, ec, ecs, rfl, hec, heb, hes⟩ := hsl
     injection hob with hob
     have HEB := Lib.hid hob
     clear hob
     obtain ⟨n, hn⟩ : ∃ n, n = l.length := ⟨_, rfl⟩
     rw [← hn] at hec hl0 ⊢
     have hb2 := HB1.out.trans (hb.mono HB1.out.size)
     have HSL := Lib.hid (show SL w2 (.slice (some ⟨eb, 0, none⟩) n ec) l from ⟨eb, ec, ecs, by rw [hn], by omega, heb, hes⟩)
     have HN := Lib.hid hn
     have hn2 : (n : Int) ≤ 1000 := by have := HR.out.2.2.1; have := HR.out.2.2.2.1; omega
     have HV := Lib.hid (HT.out.under hb2)
     have HBW := Lib.hid (HI.out.1.trans (hb2.mono HI.out.1.size))
     have HXW := Lib.hid ((hb2.block _ (lt_of_block HI.out.2.1)).trans HI.out.2.1)
     clear heb hes hn hb hb2 hx2 hx2' hcq
     go_wp2_with fail
     go_loopg [45, 5, 6] n (fun k i rv sv wr => ∃ m : Nat, m + k = n ∧ i = .int .i64 (m : Int) ∧ Hid (Below w.heap.size w wr ∧ wr.heap[w.heap.size]? = some (.cells #[V, sc, .slice (some ⟨sb, 0, none⟩) 2 c, path, ic, vk, .int .i64 0] 66 (0, 0)) ∧ TwoV wr w.heap.size rv sv (addN acc (l.take m)) ∧ SL wr (.slice (some ⟨eb, 0, none⟩) n ec) l ∧ rv.ownBlock ≠ some eb ∧ sv.ownBlock ≠ some eb))
     case atStart =>
      have h1 := HB1.out.size
      have h2 := HEB.out
      exact ⟨0, by omega, rfl, Lib.hid ⟨HBW.out, HXW.out, HV.out, HSL.out, fun e => by have := (HT.out.a.typed _ e).2.2.1; omega, fun e => by have := (HT.out.b.typed _ e).2.2.1; omega⟩⟩
     case round =>
      obtain ⟨m, hm, rfl, HJ⟩ := hrel
      by_cases hlt2 : 1 ≤ gk
      ·have hm2 : (m : Int) < (n : Int) := by omega
       have hm3 : m < n := by omega
       have hm4 : m < ec := by omega
       obtain ⟨s, hs⟩ : ∃ s, l[m]? = some s := ⟨_, List.getElem?_eq_getElem (by have := HN.out; omega)⟩
       obtain ⟨u, hcell, hu⟩ := HJ.out.2.2.2.1.cell hs
       have hl5 : (addN acc (l.take m)).length ≤ 5000 := by
        have h1 := addN_len (acc := acc) (l := l.take m)
        have h2 := HNX.out.2
        rw [List.length_take] at h1
        have h3 := Nat.min_le_left m l.length
        omega
       have htk := addN_take (acc := acc) hs
       obtain ⟨cur, hcur⟩ : ∃ cur, cur = addN acc (l.take m) := ⟨_, rfl⟩
       have htv := HJ.out.2.2.1
       rw [← hcur] at htv hl5 htk
       obtain ⟨qb, hqb⟩ : ∃ qb, qb = hasB cur s := ⟨_, rfl⟩
       have hcall := has86 _ htv.b hu hl5
       rw [← hqb] at hcall htk
       have HC := Lib.hid (And.intro hcall (And.intro htv (And.intro hu (And.intro hl5 htk))))
       have HQB := Lib.hid hqb
       obtain ⟨ug, uc, ucs, rfl, huc, _, _⟩ := hu
       clear hs htv hl5 htk hcall hqb hcur
       go_wp2_with fail
       refine HC.out.1.mono ?_
       rintro e w3 ⟨rfl, hb⟩
       have HB3 := Lib.hid hb
       clear hb hcell
       cases qb with
       | true =>
        have htk : addN acc (l.take (m + 1)) = cur := HC.out.2.2.2.2
        have HTK := Lib.hid htk
        clear htk
        go_wp2_with fail
        go_roundg (gk - 1)
        case measure => omega
        case rel => exact ⟨m + 1, by omega, by go_num, Lib.hid ⟨HJ.out.1.trans (HB3.out.mono HJ.out.1.size), (HB3.out.block _ (lt_of_block HJ.out.2.1)).trans HJ.out.2.1, by rw [HTK.out]; exact HC.out.2.1.under HB3.out, HJ.out.2.2.2.1.under HB3.out, HJ.out.2.2.2.2⟩⟩
       | false =>
        have htk : addN acc (l.take (m + 1)) = cur ++ [s] := HC.out.2.2.2.2
        have hno : s ∉ cur := fun h => by
         have h1 := hasB_yes h
         rw [← HQB.out] at h1
         cases h1
        have hv3 := HC.out.2.1.under HB3.out
        obtain ⟨xs, ho, hxs⟩ := hv3.a
        have HTK := Lib.hid (And.intro htk (And.intro hno (And.intro hv3 (And.intro ho hxs))))
        clear htk hno hv3 ho hxs
        go_wp2_with (at_builtin; refine list_app (base := w.heap.size) (by exact HTK.out.2.2.1.sz) 114 22 (.slice none 0 0) 24 [.slice (some ⟨ug, 0, none⟩) 1 uc] 1 rfl rfl rfl Tryz.underlying114 info22 rfl (by omega) _ cur.length xs (by rfl) (by rfl) (by simp [Value.oneCell']) HTK.out.2.2.2.1 (by have := HC.out.2.2.2.1; omega) ?_; intro rv1 w4 hown1 hg1 hat1; have hap := HTK.out.2.2.1.app (HC.out.2.2.1.under HB3.out) HTK.out.2.2.2.1 HTK.out.2.2.2.2 hown1 hg1 hat1; have HAP := Lib.hid hap; clear hap hown1 hg1 hat1)
        refine (insert87 w4 HAP.out.2.1 (Nat.le_trans HTK.out.2.2.1.sz HAP.out.2.2.2.1.size) HAP.out.2.2.2.2.1 HC.out.2.2.2.1 HTK.out.2.1).mono ?_
        rintro e w5 ⟨sv1, rfl, hav⟩
        have hin := TwoV.ins HAP.out.1 HAP.out.2.1 HAP.out.2.2.1 (Nat.le_trans HTK.out.2.2.1.sz HAP.out.2.2.2.1.size) hav
        have HIN := Lib.hid hin
        clear hin hav
        go_wp2_with fail
        go_roundg (gk - 1)
        case measure => omega
        case rel =>
         have hb1 := HJ.out.1.trans (HB3.out.mono HJ.out.1.size)
         have hbx := (HB3.out.block _ (lt_of_block HJ.out.2.1)).trans HJ.out.2.1
         have k1 := HAP.out.2.2.2.2.2.1
         have k2 := HIN.out.2.2.1
         have t1 : ∀ k, _ → _ := fun k hT => (HTK.out.2.2.1.a.typed k hT).2.2.2
         have t2 : ∀ k, _ → _ := fun k hT => (HAP.out.2.1.typed k hT).2.2.2
         have hbx1 := k1.at_ hbx (fun hT => by obtain ⟨cells, hc⟩ := t1 _ hT; rw [hbx] at hc; injection hc with hc; injection hc with _ hc; cases hc)
         have hbx2 := k2.at_ hbx1 (fun hT => by obtain ⟨cells, hc⟩ := t2 _ hT; rw [hbx1] at hc; injection hc with hc; injection hc with _ hc; cases hc)
         have hs3 := HJ.out.2.2.2.1.under HB3.out
         have hlt3 : eb < w3.heap.size := by obtain ⟨eb', _, _, e1, _, e3, _⟩ := hs3; injection e1 with e1; injection e1 with e1; injection e1 with e1; subst e1; exact lt_of_block e3
         have hs4 := hs3.keep k1 HJ.out.2.2.2.2.1 t1
         have hs5 := hs4.keep k2 HJ.out.2.2.2.2.2 t2
         refine ⟨m + 1, by omega, by go_num, Lib.hid ⟨(hb1.trans HAP.out.2.2.2.1).trans HIN.out.2.1, hbx2, by rw [HTK.out.1]; exact HIN.out.1, hs5, fun e => ?_, fun e => ?_⟩⟩
         ·rcases HAP.out.2.2.2.2.2.2 eb e with h | h
          ·exact HJ.out.2.2.2.2.1 h
          ·omega
         ·rcases HIN.out.2.2.2 eb e with h | h
          ·exact HJ.out.2.2.2.2.2 h
          ·have := k1.size; omega
      ·have hm2 : ¬ ((m : Int) < (n : Int)) := by omega
       have hm3 : ¬ (m < n) := by omega
       have hfin := HJ.out.2.2.1
       rw [List.take_of_length_le (by have := HN.out; omega), ← HNX.out.1] at hfin
       have HF := Lib.hid hfin
       clear hfin
       go_wp2_with fail
       go_roundg (go - 1)
       case measure => have := HGO.out.1; omega
       case rel =>
        have hgg := HGO.out.2
        first | exact ⟨1, by have := HGO.out.1; omega, rfl, Lib.hid ⟨HJ.out.1, HJ.out.2.1, HF.out⟩⟩ | exact ⟨2, by have := HGO.out.1; omega, rfl, Lib.hid ⟨HJ.out.1, HJ.out.2.1, HF.out⟩⟩
  ·have hj2 : ¬ ((j : Int) < 2) := by omega
   have hj3 : ¬ (j < 2) := by omega
   obtain rfl : j = 2 := by omega
   have hv := HI.out.2.2.a
   rw [HQ.out.2.2.2.2] at hv
   have HV := Lib.hid hv
   clear hv
   go_wp2_with fail
   refine bodyPost_ret (by simp [results, Tryz.results67, go_sem]) rfl ⟨_, rfl, HV.out, HI.out.1⟩
set_option maxHeartbeats 400000 in
theorem scalar95 (v : ByteArray) (w : World) : Calls Tryz.prog 95 #[.string v] w fun e w' => ∃ vr vb, e = .returned (.pointer (some ⟨vr, 0, none⟩)) ∧ RNB w' vr vb ∧ NodeB w' vb 8 noStr v nilS ∧ Below w.heap.size w w' := by
 go_enter Tryz.func95, Tryz.ntmps95
 go_wp2_with fail
 go_ret
 exact ⟨w.heap.size + 1, w.heap.size, rfl, blk_new (by simp) _, blk_old _ (blk_new rfl _), below_alloc (below_alloc (Below.refl _ _) _) _⟩
section
variable {r b vr vb : Nat} {s v kd : ByteArray}
set_option maxRecDepth 20000 in
set_option maxHeartbeats 4000000 in
theorem match195v (w : World) (hr : RNB w r b) (h : NmB w b s) (hvr : RNB w vr vb) (hvb : NodeB w vb 8 noStr v nilS) :
  Calls Tryz.prog 195 #[.agg #[.string kd, .string nmKey, .pointer (some ⟨vr, 0, none⟩), .string noStr, .string noStr, .pointer none], .pointer (some ⟨r, 0, none⟩)] w fun e w' => ∃ q, e = .returned (.tuple #[.pointer q, .nilIface]) ∧ q.isSome = (s.toList == v.toList) ∧ Below w.heap.size w w' := by
 obtain ⟨C, kids, kid, tag, hm, hkf, hkn, _⟩ := h
 obtain ⟨F, hrow⟩ := hm.row
 obtain ⟨A, c, rfl, hc, hcm⟩ := hrow.slice
 obtain ⟨n, hn⟩ : ∃ n, n = (kids.flatMap Kid.two).length := ⟨_, rfl⟩
 have hn2 : n = 2 * kids.length := hn.trans (two_length kids)
 have hnode := hm.node
 rw [← hn] at hnode hc
 have hnm : (n : Int) ≤ 9223372036854775807 := by unfold maxLen at hcm; omega
 have hb0 := below_alloc (Below.refl w.heap.size w) (.cells #[.string kd, .string nmKey, .pointer (some ⟨vr, 0, none⟩), .string noStr, .string noStr, .pointer none] 168)
 obtain ⟨W0, hW0⟩ : ∃ W0, W0 = w.alloc (.cells #[.string kd, .string nmKey, .pointer (some ⟨vr, 0, none⟩), .string noStr, .string noStr, .pointer none] 168) := ⟨_, rfl⟩
 have HM := Lib.hid (show RNB W0 r b ∧ NodeB W0 b 4 noStr noStr (.slice A n c) ∧ W0.heap[w.heap.size]? = some (.cells #[.string kd, .string nmKey, .pointer (some ⟨vr, 0, none⟩), .string noStr, .string noStr, .pointer none] 168 (0, 0)) ∧ RNB W0 vr vb ∧ NodeB W0 vb 8 noStr v nilS ∧ NodeB W0 kid.cb 8 tag s nilS ∧ n = (kids.flatMap Kid.two).length ∧ PRow W0 F (.slice A n c) (kids.flatMap Kid.two) ∧ (∀ k ∈ kids, NodeB W0 k.kb 8 noStr k.key nilS) ∧ kids.find? (hasKey nmKey) = some kid ∧ Below w.heap.size w W0 from
  hW0 ▸ ⟨hr.under hb0, hnode.under hb0, blk_new rfl _, hvr.under hb0, hvb.under hb0, hkn.under hb0, hn, by rw [hn]; exact hrow.under hb0, fun k hk => (hm.keys k hk).under hb0, hkf, hb0⟩)
 have HW0 := Lib.hid hW0
 clear hr hm hkf hkn hvr hvb hrow hn hb0 hnode hcm hW0
 go_enter Tryz.func195, Tryz.ntmps195
 go_wp2_with fail
 rw [← HW0.out]
 have hev : ((n : Int) % 2 != 0) = false := by rw [bne_eq_false_iff_eq]; omega
 have HE := Lib.hid (errInv_map W0 HM.out.1 HM.out.2.1 (by decide +kernel) hev hnm)
 have HMi := Lib.hid (missing_no W0 HM.out.1 HM.out.2.1 rfl (by decide +kernel))
 obtain ⟨w3, hw3⟩ : ∃ w3, w3 = (((W0.alloc (.cells #[.pointer none] 47)).alloc (.cells #[.bool true] 4)).alloc (.cells #[.string nmKey] 9)).drew := ⟨_, rfl⟩
 have hb3 : Below W0.heap.size W0 w3 := hw3 ▸ below_drew (below_alloc (below_alloc (below_alloc (Below.refl _ _) _) _) _)
 have hp4 : w3.heap[W0.heap.size]? = some (.cells #[.pointer none] 47 (0, 0)) := by rw [hw3]; exact blk_drew (blk_old _ (blk_old _ (blk_new (by simp) _)))
 have hp2 : w3.heap[W0.heap.size + 1]? = some (.cells #[.bool true] 4 (0, 0)) := by rw [hw3]; exact blk_drew (blk_old _ (blk_new (by simp) _))
 have hp5 : w3.heap[w.heap.size]? = some (.cells #[.string kd, .string nmKey, .pointer (some ⟨vr, 0, none⟩), .string noStr, .string noStr, .pointer none] 168 (0, 0)) := (hb3.block _ (lt_of_block HM.out.2.2.1)).trans HM.out.2.2.1
 have hnb : w3.cell? ⟨W0.heap.size + 1 + 1, 0, none⟩ = some (.string nmKey) := by rw [hw3]; exact (blk_cell (blk_drew (blk_new (by simp) _)) 0).trans rfl
 have hfind := find78 199 #[.pointer (some ⟨W0.heap.size + 1, 0, none⟩), .pointer (some ⟨w.heap.size, 0, none⟩), .pointer (some ⟨W0.heap.size, 0, none⟩)] enter199 kids (A := A) (n := n) (c := c) (nb := W0.heap.size + 1 + 1) (Fs := F) (name := nmKey)
  (fun w' => Below w.heap.size w w' ∧ w'.heap[w.heap.size]? = some (.cells #[.string kd, .string nmKey, .pointer (some ⟨vr, 0, none⟩), .string noStr, .string noStr, .pointer none] 168 (0, 0)) ∧ ∃ q, w'.heap[W0.heap.size]? = some (.cells #[.pointer q] 47 (0, 0)) ∧ q.isSome = (s.toList == v.toList)) w3 HM.out.2.2.2.2.2.2.1
  (by exact HM.out.2.2.2.2.2.2.2.1.under hb3) (fun k hk => (HM.out.2.2.2.2.2.2.2.2.1 k hk).under hb3) hnb
  (fun kid' hkid' w4 hb4 => by
   obtain rfl : kid = kid' := Option.some.inj (HM.out.2.2.2.2.2.2.2.2.2.1.symm.trans hkid')
   have hbw4 := hb3.trans (hb4.mono hb3.size)
   have hb5 := HM.out.2.2.2.2.2.2.2.2.2.2.trans (hbw4.mono HM.out.2.2.2.2.2.2.2.2.2.2.size)
   have hp2' := (hb4.block _ (blk_lt hp2)).trans hp2
   have hp4' := (hb4.block _ (blk_lt hp4)).trans hp4
   have hp5' := (hb4.block _ (blk_lt hp5)).trans hp5
   have hsz := HM.out.2.2.2.2.2.2.2.2.2.2.size
   have hbl := lt_of_block HM.out.2.2.1
   cases he : (s.toList == v.toList) with
   | true =>
    refine (clo199v_eq w4 (v := .pointer none) ((blk_cell hp2' 0).trans rfl) hp5' (HM.out.2.2.2.1.under hbw4) (HM.out.2.2.2.2.1.under hbw4) (HM.out.2.2.2.2.2.1.under hbw4) hp4' he).mono ?_
    rintro e w5 ⟨rfl, vr', h1, h2, h5⟩
    exact ⟨rfl, hb5.trans (h5.below hb5.size fun k _ e => by omega), h5.at_ hp5' (by show ¬ (w.heap.size = W0.heap.size); omega), _, h1, rfl⟩
   | false =>
    refine (clo199v_ne w4 ((blk_cell hp2' 0).trans rfl) hp5' (HM.out.2.2.2.1.under hbw4) (HM.out.2.2.2.2.1.under hbw4) (HM.out.2.2.2.2.2.1.under hbw4) he).mono ?_
    rintro e w5 ⟨rfl, h5⟩
    exact ⟨rfl, hb5.trans (h5.mono hb5.size), (h5.block _ (blk_lt hp5')).trans hp5', none, (h5.block _ (blk_lt hp4')).trans hp4', rfl⟩)
  (fun hno => by rw [HM.out.2.2.2.2.2.2.2.2.2.1] at hno; cases hno)
 rw [hw3] at hfind
 have HF := Lib.hid hfind
 have x168 : W0.cell? ⟨w.heap.size, 1, none⟩ = some (.string nmKey) := (blk_cell HM.out.2.2.1 1).trans rfl
 have y168 : W0.cell? ⟨w.heap.size, 2, none⟩ = some (.pointer (some ⟨vr, 0, none⟩)) := (blk_cell HM.out.2.2.1 2).trans rfl
 have y169 : (W0.alloc (.cells #[.pointer none] 47)).cell? ⟨w.heap.size, 2, none⟩ = some (.pointer (some ⟨vr, 0, none⟩)) := (blk_cell (blk_old _ HM.out.2.2.1) 2).trans rfl
 have x169 : ((W0.alloc (.cells #[.pointer none] 47)).alloc (.cells #[.bool true] 4)).cell? ⟨w.heap.size, 1, none⟩ = some (.string nmKey) := (blk_cell (blk_old _ (blk_old _ HM.out.2.2.1)) 1).trans rfl
 have z168 : W0.cell? ⟨w.heap.size, 3, none⟩ = some (.string noStr) := (blk_cell HM.out.2.2.1 3).trans rfl
 clear hn2 hev hw3 hb3 hfind hp4 hp2 hp5 hnb
 refine HMi.out.mono ?_
 rintro e w' ⟨rfl, rfl⟩
 go_wp2_with (go_at_call 56; (with_reducible refine Calls.mono HE.out ?_); rintro e w' ⟨rfl, rfl⟩)
 go_region_with (first | (go_at_call 79; (with_reducible refine Calls.mono (content_some _ (HM.out.1.under ?b1) (HM.out.2.1.under ?b2) rfl) ?_); (case b1 => repeat (first | exact Below.refl _ _ | apply below_alloc | apply below_drew)); (case b2 => repeat (first | exact Below.refl _ _ | apply below_alloc | apply below_drew)); rintro e w' ⟨rfl, rfl⟩) | (go_at_call 78; (with_reducible refine Calls.mono (HF.out) ?_); rintro e w' ⟨rfl, hb5, h168, q, h47, hfd⟩; have hc47 := (blk_cell h47 0).trans (show (#[.pointer q] : Array Value)[0]? = some (.pointer q) from rfl); have hc168 := (blk_cell h168 5).trans (show (#[.string kd, .string nmKey, .pointer (some ⟨vr, 0, none⟩), .string noStr, .string noStr, .pointer none] : Array Value)[5]? = some (.pointer none) from rfl); have HB5 := Lib.hid hb5; have HFd := Lib.hid hfd; clear hb5 h168 h47 hfd))
 all_goals
  rcases q with _ | q
  ·go_wp2_with fail
   go_ret2
   exact ⟨none, rfl, HFd.out, HB5.out⟩
  ·go_wp2_with fail
   go_ret2
   exact ⟨some q, rfl, HFd.out, HB5.out⟩
set_option maxRecDepth 20000 in
set_option maxHeartbeats 4000000 in
theorem match195s (w : World) (hr : RNB w r b) (h : NmB w b s) (hne : v.toList.isEmpty = false) :
  Calls Tryz.prog 195 #[.agg #[.string kd, .string nmKey, .pointer none, .string v, .string noStr, .pointer none], .pointer (some ⟨r, 0, none⟩)] w fun e w' => ∃ q, e = .returned (.tuple #[.pointer q, .nilIface]) ∧ q.isSome = (s.toList == v.toList) ∧ Below w.heap.size w w' := by
 obtain ⟨C, kids, kid, tag, hm, hkf, hkn, _⟩ := h
 obtain ⟨F, hrow⟩ := hm.row
 obtain ⟨A, c, rfl, hc, hcm⟩ := hrow.slice
 obtain ⟨n, hn⟩ : ∃ n, n = (kids.flatMap Kid.two).length := ⟨_, rfl⟩
 have hn2 : n = 2 * kids.length := hn.trans (two_length kids)
 have hnode := hm.node
 rw [← hn] at hnode hc
 have hnm : (n : Int) ≤ 9223372036854775807 := by unfold maxLen at hcm; omega
 have hne' : (!v.toList.isEmpty) = true := by rw [hne]; rfl
 have hb0 := below_alloc (Below.refl w.heap.size w) (.cells #[.string kd, .string nmKey, .pointer none, .string v, .string noStr, .pointer none] 168)
 have hx0 : (w.alloc (.cells #[.string kd, .string nmKey, .pointer none, .string v, .string noStr, .pointer none] 168)).heap[w.heap.size]? = some (.cells #[.string kd, .string nmKey, .pointer none, .string v, .string noStr, .pointer none] 168 (0, 0)) := blk_new rfl _
 have HA := Lib.hid (And.intro hr (And.intro hnode (And.intro hkn (And.intro hn (And.intro hrow (And.intro hm (And.intro hkf (And.intro hb0 hx0))))))))
 clear hr hm hkf hkn hrow hn hb0 hnode hcm hx0
 go_enter Tryz.func195, Tryz.ntmps195
 go_wp2_with fail
 refine (scalar95 v _).mono ?_
 rintro e w1 ⟨vr, vb, rfl, hvr, hvb, hb⟩
 have hx1 := (hb.block _ (lt_of_block HA.out.2.2.2.2.2.2.2.2)).trans HA.out.2.2.2.2.2.2.2.2
 have hc2 : w1.cell? ⟨w.heap.size, 2, none⟩ = some (.pointer none) := (blk_cell hx1 2).trans rfl
 have hz2 : w1.frozen? ⟨w.heap.size, 2, none⟩ = false := blk_frozen hx1 2
 have HB1 := Lib.hid (HA.out.2.2.2.2.2.2.2.1.trans (hb.mono HA.out.2.2.2.2.2.2.2.1.size))
 have HV1 := Lib.hid (And.intro hvr (And.intro hvb hx1))
 have hk1 : Keep (fun k => k = w.heap.size) w1 (w1.setCell ⟨w.heap.size, 2, none⟩ (.pointer (some ⟨vr, 0, none⟩))) := (Keep.refl _ _).setCell _ _ fun _ => rfl
 have hbw := HB1.out.trans (hk1.below HB1.out.size fun k _ e => by omega)
 obtain ⟨W0, hW0⟩ : ∃ W0, W0 = w1.setCell ⟨w.heap.size, 2, none⟩ (.pointer (some ⟨vr, 0, none⟩)) := ⟨_, rfl⟩
 have hbox : W0.heap[w.heap.size]? = some (.cells #[.string kd, .string nmKey, .pointer (some ⟨vr, 0, none⟩), .string v, .string noStr, .pointer none] 168 (0, 0)) := by
  rw [hW0]
  exact (blk_set hx1 2 _).trans (by simp only [List.setIfInBounds_toArray, List.set_cons_zero, List.set_cons_succ])
 rw [← hW0] at hk1 hbw
 have hne0 : ∀ (k : Nat) (cs : Array Value) (t : Nat), w1.heap[k]? = some (.cells cs t (0, 0)) → t ≠ 168 → W0.heap[k]? = some (.cells cs t (0, 0)) := fun k cs t h ht => hk1.at_ h (by rintro rfl; rw [hx1] at h; injection h with h; injection h with _ h; exact ht h.symm)
 have HM := Lib.hid (show RNB W0 r b ∧ NodeB W0 b 4 noStr noStr (.slice A n c) ∧ W0.heap[w.heap.size]? = some (.cells #[.string kd, .string nmKey, .pointer (some ⟨vr, 0, none⟩), .string v, .string noStr, .pointer none] 168 (0, 0)) ∧ RNB W0 vr vb ∧ NodeB W0 vb 8 noStr v nilS ∧ NodeB W0 kid.cb 8 tag s nilS ∧ n = (kids.flatMap Kid.two).length ∧ PRow W0 F (.slice A n c) (kids.flatMap Kid.two) ∧ (∀ k ∈ kids, NodeB W0 k.kb 8 noStr k.key nilS) ∧ kids.find? (hasKey nmKey) = some kid ∧ Below w.heap.size w W0 from
  ⟨HA.out.1.under hbw, HA.out.2.1.under hbw, hbox, hne0 _ _ _ hvr (by decide), hne0 _ _ _ hvb (by decide), HA.out.2.2.1.under hbw, HA.out.2.2.2.1, by have := HA.out.2.2.2.2.1; rw [← HA.out.2.2.2.1] at this; exact this.under hbw, fun k hk => (HA.out.2.2.2.2.2.1.keys k hk).under hbw, HA.out.2.2.2.2.2.2.1, hbw⟩)
 have HW0 := Lib.hid hW0
 clear hvr hvb hb hx1 hk1 hbw hbox hne0 hW0
 go_wp2_with fail
 rw [← HW0.out]
 clear hc2 hz2
 have hev : ((n : Int) % 2 != 0) = false := by rw [bne_eq_false_iff_eq]; omega
 have HE := Lib.hid (errInv_map W0 HM.out.1 HM.out.2.1 (by decide +kernel) hev hnm)
 have HMi := Lib.hid (missing_no W0 HM.out.1 HM.out.2.1 rfl (by decide +kernel))
 obtain ⟨w3, hw3⟩ : ∃ w3, w3 = (((W0.alloc (.cells #[.pointer none] 47)).alloc (.cells #[.bool true] 4)).alloc (.cells #[.string nmKey] 9)).drew := ⟨_, rfl⟩
 have hb3 : Below W0.heap.size W0 w3 := hw3 ▸ below_drew (below_alloc (below_alloc (below_alloc (Below.refl _ _) _) _) _)
 have hp4 : w3.heap[W0.heap.size]? = some (.cells #[.pointer none] 47 (0, 0)) := by rw [hw3]; exact blk_drew (blk_old _ (blk_old _ (blk_new (by simp) _)))
 have hp2 : w3.heap[W0.heap.size + 1]? = some (.cells #[.bool true] 4 (0, 0)) := by rw [hw3]; exact blk_drew (blk_old _ (blk_new (by simp) _))
 have hp5 : w3.heap[w.heap.size]? = some (.cells #[.string kd, .string nmKey, .pointer (some ⟨vr, 0, none⟩), .string v, .string noStr, .pointer none] 168 (0, 0)) := (hb3.block _ (lt_of_block HM.out.2.2.1)).trans HM.out.2.2.1
 have hnb : w3.cell? ⟨W0.heap.size + 1 + 1, 0, none⟩ = some (.string nmKey) := by rw [hw3]; exact (blk_cell (blk_drew (blk_new (by simp) _)) 0).trans rfl
 have hfind := find78 199 #[.pointer (some ⟨W0.heap.size + 1, 0, none⟩), .pointer (some ⟨w.heap.size, 0, none⟩), .pointer (some ⟨W0.heap.size, 0, none⟩)] enter199 kids (A := A) (n := n) (c := c) (nb := W0.heap.size + 1 + 1) (Fs := F) (name := nmKey)
  (fun w' => Below w.heap.size w w' ∧ w'.heap[w.heap.size]? = some (.cells #[.string kd, .string nmKey, .pointer (some ⟨vr, 0, none⟩), .string v, .string noStr, .pointer none] 168 (0, 0)) ∧ ∃ q, w'.heap[W0.heap.size]? = some (.cells #[.pointer q] 47 (0, 0)) ∧ q.isSome = (s.toList == v.toList)) w3 HM.out.2.2.2.2.2.2.1
  (by exact HM.out.2.2.2.2.2.2.2.1.under hb3) (fun k hk => (HM.out.2.2.2.2.2.2.2.2.1 k hk).under hb3) hnb
  (fun kid' hkid' w4 hb4 => by
   obtain rfl : kid = kid' := Option.some.inj (HM.out.2.2.2.2.2.2.2.2.2.1.symm.trans hkid')
   have hbw4 := hb3.trans (hb4.mono hb3.size)
   have hb5 := HM.out.2.2.2.2.2.2.2.2.2.2.trans (hbw4.mono HM.out.2.2.2.2.2.2.2.2.2.2.size)
   have hp2' := (hb4.block _ (blk_lt hp2)).trans hp2
   have hp4' := (hb4.block _ (blk_lt hp4)).trans hp4
   have hp5' := (hb4.block _ (blk_lt hp5)).trans hp5
   have hsz := HM.out.2.2.2.2.2.2.2.2.2.2.size
   have hbl := lt_of_block HM.out.2.2.1
   cases he : (s.toList == v.toList) with
   | true =>
    refine (clo199v_eq w4 (v := .pointer none) ((blk_cell hp2' 0).trans rfl) hp5' (HM.out.2.2.2.1.under hbw4) (HM.out.2.2.2.2.1.under hbw4) (HM.out.2.2.2.2.2.1.under hbw4) hp4' he).mono ?_
    rintro e w5 ⟨rfl, vr', h1, h2, h5⟩
    exact ⟨rfl, hb5.trans (h5.below hb5.size fun k _ e => by omega), h5.at_ hp5' (by show ¬ (w.heap.size = W0.heap.size); omega), _, h1, rfl⟩
   | false =>
    refine (clo199v_ne w4 ((blk_cell hp2' 0).trans rfl) hp5' (HM.out.2.2.2.1.under hbw4) (HM.out.2.2.2.2.1.under hbw4) (HM.out.2.2.2.2.2.1.under hbw4) he).mono ?_
    rintro e w5 ⟨rfl, h5⟩
    exact ⟨rfl, hb5.trans (h5.mono hb5.size), (h5.block _ (blk_lt hp5')).trans hp5', none, (h5.block _ (blk_lt hp4')).trans hp4', rfl⟩)
  (fun hno => by rw [HM.out.2.2.2.2.2.2.2.2.2.1] at hno; cases hno)
 rw [hw3] at hfind
 have HF := Lib.hid hfind
 have x168 : W0.cell? ⟨w.heap.size, 1, none⟩ = some (.string nmKey) := (blk_cell HM.out.2.2.1 1).trans rfl
 have y168 : W0.cell? ⟨w.heap.size, 2, none⟩ = some (.pointer (some ⟨vr, 0, none⟩)) := (blk_cell HM.out.2.2.1 2).trans rfl
 have y169 : (W0.alloc (.cells #[.pointer none] 47)).cell? ⟨w.heap.size, 2, none⟩ = some (.pointer (some ⟨vr, 0, none⟩)) := (blk_cell (blk_old _ HM.out.2.2.1) 2).trans rfl
 have x169 : ((W0.alloc (.cells #[.pointer none] 47)).alloc (.cells #[.bool true] 4)).cell? ⟨w.heap.size, 1, none⟩ = some (.string nmKey) := (blk_cell (blk_old _ (blk_old _ HM.out.2.2.1)) 1).trans rfl
 have z168 : W0.cell? ⟨w.heap.size, 3, none⟩ = some (.string v) := (blk_cell HM.out.2.2.1 3).trans rfl
 clear hn2 hev hw3 hb3 hfind hp4 hp2 hp5 hnb
 refine HMi.out.mono ?_
 rintro e w' ⟨rfl, rfl⟩
 go_wp2_with (go_at_call 56; (with_reducible refine Calls.mono HE.out ?_); rintro e w' ⟨rfl, rfl⟩)
 go_region_with (first | (go_at_call 79; (with_reducible refine Calls.mono (content_some _ (HM.out.1.under ?b1) (HM.out.2.1.under ?b2) rfl) ?_); (case b1 => repeat (first | exact Below.refl _ _ | apply below_alloc | apply below_drew)); (case b2 => repeat (first | exact Below.refl _ _ | apply below_alloc | apply below_drew)); rintro e w' ⟨rfl, rfl⟩) | (go_at_call 78; (with_reducible refine Calls.mono (HF.out) ?_); rintro e w' ⟨rfl, hb5, h168, q, h47, hfd⟩; have hc47 := (blk_cell h47 0).trans (show (#[.pointer q] : Array Value)[0]? = some (.pointer q) from rfl); have hc168 := (blk_cell h168 5).trans (show (#[.string kd, .string nmKey, .pointer (some ⟨vr, 0, none⟩), .string v, .string noStr, .pointer none] : Array Value)[5]? = some (.pointer none) from rfl); have HB5 := Lib.hid hb5; have HFd := Lib.hid hfd; clear hb5 h168 h47 hfd))
 all_goals
  rcases q with _ | q
  ·go_wp2_with fail
   go_ret2
   exact ⟨none, rfl, HFd.out, HB5.out⟩
  ·go_wp2_with fail
   go_ret2
   exact ⟨some q, rfl, HFd.out, HB5.out⟩
end
end Go.Proofs.YtghmajlfmoggfaaGreat
