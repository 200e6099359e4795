import Derived.Test.YtghmajlfmoggfaaGreatMI8
import Derived.Test.YtghmajlfmoggfaaGreatMC
set_option linter.unusedSimpArgs false
set_option linter.unusedVariables false
namespace Go.Proofs.YtghmajlfmoggfaaGreat
open Go.RowKit Go.Proofs.YtghmajlfmoggfaaGreatW.PrintWords Go.Proofs.YtghmajlfmoggfaaGreatW.PrintLast PFnMerge
theorem NmB.map {w : World} {b : Nat} {s : ByteArray} (h : NmB w b s) : ∃ C kids, MapAt w b C kids := by
 obtain ⟨C, kids, kid, tag, h1, _⟩ := h
 exact ⟨C, kids, h1⟩
theorem NmB.err56 {w : World} {r b : Nat} {s : ByteArray} (h : NmB w b s) (hr : RNB w r b) : Calls Tryz.prog 56 #[.pointer (some ⟨r, 0, none⟩), .int .u32 4] w fun e w' => e = .returned .nilIface ∧ w = w' := by
 obtain ⟨C, kids, h1⟩ := h.map
 obtain ⟨F, hrow⟩ := h1.row
 obtain ⟨A, c, rfl, hc, hcm⟩ := hrow.slice
 have h2 := two_length kids
 exact errInv_map w hr h1.node (by decide +kernel) (by rw [bne_eq_false_iff_eq]; omega) (by unfold maxLen at hcm; omega)
set_option maxHeartbeats 1000000 in
theorem matchField202 (k v : ByteArray) (w : World) : Calls Tryz.prog 202 #[.string k, .string v] w fun e w' => ∃ vr vb, e = .returned (.agg #[.string noStr, .string k, .pointer (some ⟨vr, 0, none⟩), .string noStr, .string noStr, .pointer none]) ∧ RNB w' vr vb ∧ NodeB w' vb 8 noStr v nilS ∧ Below w.heap.size w w' := by
 go_enter Tryz.func202, Tryz.ntmps202
 go_wp2_with fail
 have hx := blk_new rfl (w := w) (.cells #[.string noStr, .string noStr, .pointer none, .string noStr, .string noStr, .pointer none] 168)
 have hb0 := below_alloc (Below.refl w.heap.size w) (.cells #[.string noStr, .string noStr, .pointer none, .string noStr, .string noStr, .pointer none] 168)
 have HX := Lib.hid (And.intro hx hb0)
 clear hx hb0
 refine (scalar95 v _).mono ?_
 rintro e w1 ⟨vr, vb, rfl, h1, h2, hb⟩
 have hx1 := (hb.block _ (lt_of_block HX.out.1)).trans HX.out.1
 have c0 := (blk_cell hx1 0).trans (show _ = some (.string noStr) from rfl)
 have c1 := (blk_cell hx1 1).trans (show _ = some (.string noStr) from rfl)
 have c2 := (blk_cell hx1 2).trans (show _ = some (.pointer none) from rfl)
 have c3 := (blk_cell hx1 3).trans (show _ = some (.string noStr) from rfl)
 have c4 := (blk_cell hx1 4).trans (show _ = some (.string noStr) from rfl)
 have c5 := (blk_cell hx1 5).trans (show _ = some (.pointer none) from rfl)
 have z0 := blk_frozen hx1 0
 have z1 := blk_frozen hx1 1
 have z2 := blk_frozen hx1 2
 have z3 := blk_frozen hx1 3
 have z4 := blk_frozen hx1 4
 have z5 := blk_frozen hx1 5
 have HB := Lib.hid (HX.out.2.trans (hb.mono HX.out.2.size))
 have HV := Lib.hid (And.intro h1 (And.intro h2 hx1))
 clear h1 h2 hb hx1
 go_wp2_with fail
 have hk : Keep (fun k => k = w.heap.size) w1 ((((((w1.setCell ⟨w.heap.size, 0, none⟩ (.string noStr)).setCell ⟨w.heap.size, 1, none⟩ (.string k)).setCell ⟨w.heap.size, 2, none⟩ (.pointer (some ⟨vr, 0, none⟩))).setCell ⟨w.heap.size, 3, none⟩ (.string noStr)).setCell ⟨w.heap.size, 4, none⟩ (.string noStr)).setCell ⟨w.heap.size, 5, none⟩ (.pointer none)) :=
  ((((((Keep.refl (fun k => k = w.heap.size) w1).setCell _ _ fun _ => rfl).setCell _ _ fun _ => rfl).setCell _ _ fun _ => rfl).setCell _ _ fun _ => rfl).setCell _ _ fun _ => rfl).setCell _ _ fun _ => rfl
 have hx6 := blk_set (blk_set (blk_set (blk_set (blk_set (blk_set HV.out.2.2 0 (.string noStr)) 1 (.string k)) 2 (.pointer (some ⟨vr, 0, none⟩))) 3 (.string noStr)) 4 (.string noStr)) 5 (.pointer none)
 simp only [List.setIfInBounds_toArray, List.set_cons_zero, List.set_cons_succ] at hx6
 have hne : ∀ (j : Nat) (cs : Array Value) (t : Nat), w1.heap[j]? = some (.cells cs t (0, 0)) → t ≠ 168 → ¬ j = w.heap.size := fun j cs t h ht e => by
  rw [e, HV.out.2.2] at h
  injection h with h
  injection h with _ h
  exact ht h.symm
 refine bodyPost_ret (results_cell_row rfl _ _ w.heap.size 168 #[.string noStr, .string k, .pointer (some ⟨vr, 0, none⟩), .string noStr, .string noStr, .pointer none] (0, 0) _ rfl hx6 Tryz.underlying168 rfl (by kernel_rfl)) rfl ⟨vr, vb, rfl, hk.at_ HV.out.1 (hne _ _ _ HV.out.1 (by decide)), hk.at_ HV.out.2.1 (hne _ _ _ HV.out.2.1 (by decide)), HB.out.trans (hk.below HB.out.size fun j _ e => by omega)⟩
structure MI9 (w : World) (bx : Array Value) (wr : World) : Prop where
 below : Below w.heap.size w wr
 box : wr.heap[w.heap.size]? = some (.cells bx 179 (0, 0))
theorem MI9.under {w wr wr' : World} {bx : Array Value} (h : MI9 w bx wr) (hb : Below wr.heap.size wr wr') : MI9 w bx wr' := ⟨h.below.trans (hb.mono h.below.size), (hb.block _ (lt_of_block h.box)).trans h.box⟩
set_option maxRecDepth 20000 in
set_option maxHeartbeats 8000000 in
theorem matcher201 {r b : Nat} {C kv vv : Value} {bs : List Nat} {ns : List ByteArray} {v : ByteArray} (w : World) (hr : RNB w r b) (hl : ListAt w b C bs) (hlen : bs.length ≤ 1000) (hn : bs.length = ns.length) (hel : ∀ (i : Nat) e s, bs[i]? = some e → ns[i]? = some s → NmB w e s) (hk : S1 w kv nmKey) (hv : S1 w vv v) (hnd : ns.Nodup) :
  Calls Tryz.prog 201 #[.agg #[.string noStr, kv, vv, .pointer none, .bool false], .pointer (some ⟨r, 0, none⟩)] w fun e w' => ∃ q, e = .returned (.tuple #[.pointer q, .nilIface]) ∧ (∀ (i : Nat) e', bs[i]? = some e' → ns[i]? = some v → ∃ r', q = some ⟨r', 0, none⟩ ∧ RNB w' r' e') ∧ (v ∉ ns → q = none) ∧ Below w.heap.size w w' := by
 obtain ⟨F, hrow⟩ := hl.row
 obtain ⟨A, c, rfl, hc, _⟩ := hrow.slice
 obtain ⟨n, hnn⟩ : ∃ n, n = bs.length := ⟨_, rfl⟩
 rw [← hnn] at hc hrow
 have hnode := hl.node
 rw [← hnn] at hnode
 have H := Lib.hid (And.intro hr (And.intro hnode (And.intro hrow (And.intro hel (And.intro hnn (And.intro hn (And.intro hk (And.intro hv hnd))))))))
 have hn2 : (n : Int) ≤ 1000 := by omega
 obtain ⟨kb, kc, _, rfl, hkc, _, _⟩ := hk
 obtain ⟨vb, vc, _, rfl, hvc, _, _⟩ := hv
 have hkc1 : 0 < kc := by omega
 have hvc1 : 0 < vc := by omega
 have HI0 := Lib.hid (show MI9 w #[.string noStr, .slice (some ⟨kb, 0, none⟩) 1 kc, .slice (some ⟨vb, 0, none⟩) 1 vc, .pointer none, .bool false] (w.alloc (.cells #[.string noStr, .slice (some ⟨kb, 0, none⟩) 1 kc, .slice (some ⟨vb, 0, none⟩) 1 vc, .pointer none, .bool false] 179)) from ⟨below_alloc (Below.refl _ _) _, blk_new rfl _⟩)
 have hk0 : (w.alloc (.cells #[.string noStr, .slice (some ⟨kb, 0, none⟩) 1 kc, .slice (some ⟨vb, 0, none⟩) 1 vc, .pointer none, .bool false] 179)).cell? ⟨kb, 0, none⟩ = some (.string nmKey) := (H.out.2.2.2.2.2.2.1.under HI0.out.below).cell
 clear hr hl hnode hrow hlen hel hnn hn hnd hkc hvc
 go_enter Tryz.func201, Tryz.ntmps201
 go_wp2_with (first | (go_at_call 56; (with_reducible refine Calls.mono (errInv_eq _ (H.out.1.under HI0.out.below) (H.out.2.1.under HI0.out.below) rfl rfl (by decide +kernel)) ?_); rintro e w' ⟨rfl, rfl⟩) | (go_at_call 79; (with_reducible refine Calls.mono (content_some _ (H.out.1.under HI0.out.below) (H.out.2.1.under HI0.out.below) rfl) ?_); rintro e w' ⟨rfl, rfl⟩))
 clear hk0
 go_loopg [109] n (fun k i wr => ∃ j : Nat, j + k = n ∧ i = .int .i64 (j : Int) ∧ Hid (MI9 w #[.string noStr, .slice (some ⟨kb, 0, none⟩) 1 kc, .slice (some ⟨vb, 0, none⟩) 1 vc, .pointer none, .bool false] wr) ∧ Hid (v ∉ ns.take j))
 case atStart => exact ⟨0, by omega, rfl, HI0, Lib.hid (by simp)⟩
 case round =>
  obtain ⟨j, hj, rfl, HI, HNO⟩ := hrel
  by_cases hlt : 1 ≤ gk
  ·have hj2 : (j : Int) < (n : Int) := by omega
   have hj3 : j < n := by omega
   have hj4 : j < c := by omega
   have HC := Lib.hid (content_some wr (H.out.1.under HI.out.below) (H.out.2.1.under HI.out.below) rfl)
   obtain ⟨el, hb⟩ : ∃ el, bs[j]? = some el := ⟨_, List.getElem?_eq_getElem (by have := H.out.2.2.2.2.1; omega)⟩
   obtain ⟨s, hs⟩ : ∃ s, ns[j]? = some s := ⟨_, List.getElem?_eq_getElem (by have h1 := H.out.2.2.2.2.1; have h2 := H.out.2.2.2.2.2.1; omega)⟩
   obtain ⟨g, rfl, hcell⟩ := (H.out.2.2.1.under HI.out.below).cell j el hb
   have HE := Lib.hid (And.intro (And.intro hs hb) (H.out.2.2.2.1 j el s hb hs))
   clear hb hs
   go_wp2_with (go_at_call 79; (with_reducible refine Calls.mono HC.out ?_); rintro e w' ⟨rfl, rfl⟩)
   refine (newRNode _).mono ?_
   rintro e w2 ⟨rfl, rfl⟩
   have hr2 : RNB (wr.alloc (.cells #[nilS, .pointer (some ⟨el, 0, none⟩), .bool false, nilS] 81)) wr.heap.size el := blk_new rfl _
   have hba := below_alloc (Below.refl wr.heap.size wr) (.cells #[nilS, .pointer (some ⟨el, 0, none⟩), .bool false, nilS] 81)
   have HR := Lib.hid hr2
   have HE := Lib.hid (And.intro HE.out.1 ((HE.out.2.under HI.out.below).under hba))
   have HI := Lib.hid (HI.out.under hba)
   clear hr2 hcell HC hba
   have x1 : (wr.alloc (.cells #[nilS, .pointer (some ⟨el, 0, none⟩), .bool false, nilS] 81)).cell? ⟨w.heap.size, 1, none⟩ = some (.slice (some ⟨kb, 0, none⟩) 1 kc) := (blk_cell HI.out.box 1).trans rfl
   have x2 : (wr.alloc (.cells #[nilS, .pointer (some ⟨el, 0, none⟩), .bool false, nilS] 81)).cell? ⟨w.heap.size, 2, none⟩ = some (.slice (some ⟨vb, 0, none⟩) 1 vc) := (blk_cell HI.out.box 2).trans rfl
   have x4 : (wr.alloc (.cells #[nilS, .pointer (some ⟨el, 0, none⟩), .bool false, nilS] 81)).cell? ⟨w.heap.size, 4, none⟩ = some (.bool false) := (blk_cell HI.out.box 4).trans rfl
   have k0 : (wr.alloc (.cells #[nilS, .pointer (some ⟨el, 0, none⟩), .bool false, nilS] 81)).cell? ⟨kb, 0, none⟩ = some (.string nmKey) := (H.out.2.2.2.2.2.2.1.under HI.out.below).cell
   have v0 : (wr.alloc (.cells #[nilS, .pointer (some ⟨el, 0, none⟩), .bool false, nilS] 81)).cell? ⟨vb, 0, none⟩ = some (.string v) := (H.out.2.2.2.2.2.2.2.1.under HI.out.below).cell
   go_wp2_with (go_at_call 56; (with_reducible refine Calls.mono (HE.out.2.err56 HR.out) ?_); rintro e w' ⟨rfl, rfl⟩)
   refine wp_loop_rounds 2 ?_
   rw [rounds_succ]
   go_wp2_with fail
   refine start_ (n := 20) (S := fun w' => w'.cell? ⟨w.heap.size, 1, none⟩ = some (.slice (some ⟨kb, 0, none⟩) 1 kc) ∧ w'.cell? ⟨w.heap.size, 2, none⟩ = some (.slice (some ⟨vb, 0, none⟩) 1 vc) ∧ w'.cell? ⟨kb, 0, none⟩ = some (.string nmKey) ∧ w'.cell? ⟨vb, 0, none⟩ = some (.string v)) (ds := []) #[false, false, false, false, false, false, false, false, false, false, false, false, false, false, false, false, false, false, false, false] (by kernel_rfl) rfl rfl ⟨x1, x2, k0, v0⟩ (fun hHeld => ?_)
   obtain ⟨W, hW⟩ : ∃ W, W = (wr.alloc (.cells #[nilS, .pointer (some ⟨el, 0, none⟩), .bool false, nilS] 81)).drew := ⟨_, rfl⟩
   have HI := Lib.hid (show MI9 w #[.string noStr, .slice (some ⟨kb, 0, none⟩) 1 kc, .slice (some ⟨vb, 0, none⟩) 1 vc, .pointer none, .bool false] W from hW ▸ HI.out.under (below_drew (Below.refl _ _)))
   have HE := Lib.hid (And.intro HE.out.1 (show NmB W el s from hW ▸ HE.out.2.under (below_drew (Below.refl _ _))))
   have HR := Lib.hid (show RNB W wr.heap.size el from hW ▸ HR.out.under (below_drew (Below.refl _ _)))
   rw [← hW] at hHeld ⊢
   clear hW
   refine pu 0 (some 157) (bl 20 1) ?_
   refine pu 1 (some 158) (bl 20 3) ?_
   refine pu 3 (some 160) (bl 20 11) ?_
   refine pu 6 (some 163) (bl 20 75) ?_
   refine pu 8 (some 165) (bl 20 331) ?_
   refine tk 2 (some 159) (bl 20 335) hHeld ?_
   refine pu 4 (some 161) (bl 20 351) ?_
   refine tk 5 (some 162) (bl 20 383) hHeld ?_
   refine tk 7 (some 164) (bl 20 511) hHeld ?_
   refine pu 9 (some 166) (bl 20 1023) ?_
   refine tk 10 (some 167) (bl 20 2047) hHeld ?_
   refine on_ 11 (some 168) (bl 20 4095) fun K hK => ?_
   refine gs_ Tryz.func202 #[.string nmKey, .string v] ?_
   refine (matchField202 nmKey v W).mono ?_
   rintro e w4 ⟨ur, ub, rfl, hur, hub, hb⟩
   have HB4 := Lib.hid hb
   have HU := Lib.hid (And.intro hur hub)
   clear hur hub hb
   refine ⟨_, rfl, ?_⟩
   refine hK.out _ _ (he4 HB4.out hHeld) (fun hHeld => ?_)
   clear hK K
   refine nr (some 168) ?_
   refine pu 12 (some 169) (bl 20 8191) ?_
   refine on_ 13 (some 170) (bl 20 16383) fun K hK => ?_
   refine value_ (w1 := ?_) (v := ?_) (by rfl) rfl ?_ ?_
   rotate_left 2
   ·go_simp
    constructor
    ·rfl
    ·rfl
   refine hK.out _ _ ⟨((below_alloc (Below.refl _ _) (.cells #[.iface 168 (.agg #[.string noStr, .string nmKey, .pointer (some ⟨ur, 0, none⟩), .string noStr, .string noStr, .pointer none])] 135)).cell (World.block_lt_of_cell? _ _ hHeld.1)).trans hHeld.1, ((below_alloc (Below.refl _ _) (.cells #[.iface 168 (.agg #[.string noStr, .string nmKey, .pointer (some ⟨ur, 0, none⟩), .string noStr, .string noStr, .pointer none])] 135)).cell (World.block_lt_of_cell? _ _ hHeld.2.1)).trans hHeld.2.1, ((below_alloc (Below.refl _ _) (.cells #[.iface 168 (.agg #[.string noStr, .string nmKey, .pointer (some ⟨ur, 0, none⟩), .string noStr, .string noStr, .pointer none])] 135)).cell (World.block_lt_of_cell? _ _ hHeld.2.2.1)).trans hHeld.2.2.1, ((below_alloc (Below.refl _ _) (.cells #[.iface 168 (.agg #[.string noStr, .string nmKey, .pointer (some ⟨ur, 0, none⟩), .string noStr, .string noStr, .pointer none])] 135)).cell (World.block_lt_of_cell? _ _ hHeld.2.2.2)).trans hHeld.2.2.2⟩ (fun hHeld => ?_)
   clear hK K
   refine nr (some 170) ?_
   refine on_ 14 (some 171) (bl 20 32767) fun K hK => ?_
   refine gs_ Tryz.func62 #[.pointer (some ⟨wr.heap.size, 0, none⟩), .slice (some ⟨w4.heap.size, 0, none⟩) 1 1] ?_
   have hb5 : Below W.heap.size W (w4.alloc (.cells #[.iface 168 (.agg #[.string noStr, .string nmKey, .pointer (some ⟨ur, 0, none⟩), .string noStr, .string noStr, .pointer none])] 135)) := HB4.out.trans ((below_alloc (Below.refl _ _) (.cells #[.iface 168 (.agg #[.string noStr, .string nmKey, .pointer (some ⟨ur, 0, none⟩), .string noStr, .string noStr, .pointer none])] 135)).mono HB4.out.size)
   obtain ⟨C, kids, hma⟩ := (HE.out.2.under hb5).map
   refine (pipe1 (fun q w' => q.isSome = (s.toList == v.toList) ∧ Below (w4.alloc (.cells #[.iface 168 (.agg #[.string noStr, .string nmKey, .pointer (some ⟨ur, 0, none⟩), .string noStr, .string noStr, .pointer none])] 135)).heap.size (w4.alloc (.cells #[.iface 168 (.agg #[.string noStr, .string nmKey, .pointer (some ⟨ur, 0, none⟩), .string noStr, .string noStr, .pointer none])] 135)) w') _ (HR.out.under hb5) hma.node rfl (fb := w4.heap.size) ((blk_cell (blk_new rfl _) 0).trans rfl) (meth195 _ _ _ _ _ _) enter195 ((match195v _ (HR.out.under hb5) (HE.out.2.under hb5) (HU.out.1.under (below_alloc (Below.refl _ _) (.cells #[.iface 168 (.agg #[.string noStr, .string nmKey, .pointer (some ⟨ur, 0, none⟩), .string noStr, .string noStr, .pointer none])] 135))) (HU.out.2.under (below_alloc (Below.refl _ _) (.cells #[.iface 168 (.agg #[.string noStr, .string nmKey, .pointer (some ⟨ur, 0, none⟩), .string noStr, .string noStr, .pointer none])] 135)))).mono ?_)).mono ?_
   ·rintro e w' ⟨q, he, h1, h2⟩
    exact ⟨q, he, h1, h2⟩
   rintro e w6 ⟨q, rfl, hq, hb6⟩
   have HB6 := Lib.hid (hb5.trans (hb6.mono hb5.size))
   have HQ := Lib.hid hq
   clear hma hq hb5
   refine ⟨_, rfl, ?_⟩
   refine hK.out _ _ ⟨(hb6.cell (World.block_lt_of_cell? _ _ hHeld.1)).trans hHeld.1, (hb6.cell (World.block_lt_of_cell? _ _ hHeld.2.1)).trans hHeld.2.1, (hb6.cell (World.block_lt_of_cell? _ _ hHeld.2.2.1)).trans hHeld.2.2.1, (hb6.cell (World.block_lt_of_cell? _ _ hHeld.2.2.2)).trans hHeld.2.2.2⟩ (fun hHeld => ?_)
   clear hK K
   refine nr (some 171) ?_
   refine pu 15 (some 156) (bl 20 65535) ?_
   refine pu 16 (some 172) (bl 20 131071) ?_
   refine pu 17 (some 173) (bl 20 262143) ?_
   refine pu 18 (some 10) (bl 20 524287) ?_
   refine pu 19 (some 11) (bl 20 1048575) ?_
   refine done_ (by kernel_rfl) ?_
   have HI6 := Lib.hid (HI.out.under HB6.out)
   have hf203 : ∀ (q : Option Addr) (W : World), Calls Tryz.prog 203 #[.pointer q, .nilIface] W fun e w' => e = .returned (.bool q.isSome) ∧ W = w' := by
    intro q W
    clear hHeld x1 x2 x4 k0 v0 HI HE HR HB4 HU HB6 HI6 HQ
    cases q
    all_goals
     go_enter Tryz.func203, Tryz.ntmps203
     go_wp2_with fail
     go_ret
     exact ⟨rfl, rfl⟩
   have HF := Lib.hid hf203
   clear hHeld x1 x2 x4 k0 v0 hf203
   go_wp2_with fail
   refine (HF.out q _).mono ?_
   rintro e w7 ⟨rfl, rfl⟩
   rcases q with _ | q
   ·have hne : v ∉ ns.take (j + 1) := by
     rw [List.take_add_one, HE.out.1.1, Option.toList_some, List.mem_append, List.mem_singleton]
     rintro (h | h)
     ·exact HNO.out h
     ·have := HQ.out
      rw [h] at this
      simp at this
    have HNE := Lib.hid hne
    clear hne
    go_wp2_with fail
    go_roundg (gk - 1)
    case measure => omega
    case rel => exact ⟨j + 1, by omega, by go_num, HI6, HNE⟩
   ·have hsv : s = v := toList_inj (beq_iff_eq.1 HQ.out.symm)
    have HSV := Lib.hid hsv
    clear hsv
    go_wp2_with fail
    rw [rounds_succ]
    have y1 : w6.cell? ⟨w.heap.size, 1, none⟩ = some (.slice (some ⟨kb, 0, none⟩) 1 kc) := (blk_cell HI6.out.box 1).trans rfl
    go_wp2_with fail
    refine bodyPost_ret (v := .tuple #[.pointer (some ⟨wr.heap.size, 0, none⟩), .nilIface]) (by simp [results, Tryz.results201, go_sem]) rfl ⟨_, rfl, fun i e' hb hs => ?_, fun hno => ?_, HI6.out.below⟩
    ·have hij : i = j := by
      have h1 := HE.out.1.1
      rw [HSV.out] at h1
      exact (List.getElem?_inj (List.getElem?_eq_some_iff.1 hs).1 H.out.2.2.2.2.2.2.2.2).1 (hs.trans h1.symm)
     subst hij
     have h2 := HE.out.1.2
     rw [hb] at h2
     injection h2 with h2
     subst h2
     exact ⟨_, rfl, HR.out.under HB6.out⟩
    ·exact absurd (HSV.out ▸ List.mem_of_getElem? HE.out.1.1) hno
  ·have hj2 : ¬ ((j : Int) < (n : Int)) := by omega
   have hj3 : ¬ (j < n) := by omega
   have x3 : wr.cell? ⟨w.heap.size, 3, none⟩ = some (.pointer none) := (blk_cell HI.out.box 3).trans rfl
   have hno : v ∉ ns := by
    have := HNO.out
    rw [List.take_of_length_le (by have h1 := H.out.2.2.2.2.1; have h2 := H.out.2.2.2.2.2.1; omega)] at this
    exact this
   have HNE := Lib.hid hno
   clear hno
   go_wp2_with fail
   refine bodyPost_ret (v := .tuple #[.pointer none, .nilIface]) (by simp [results, Tryz.results201, go_sem]) rfl ⟨none, rfl, fun i e' _ hs => absurd (List.mem_of_getElem? hs) HNE.out, fun _ => rfl, HI.out.below⟩
theorem enter201 (args : Array Value) (w : World) : Sem.run Tryz.prog (callFunc 201 args) w = .ok (.enter 201 args) w := enterFn Tryz.func201 (by kernel_rfl) rfl args w
theorem meth201 (a0 a1 a2 a3 a4 : Value) (w : World) : Sem.run Tryz.prog (method 345 179 (.agg #[a0, a1, a2, a3, a4]) "Filter") w = .ok (201, .agg #[a0, a1, a2, a3, a4]) w := by kernel_rfl
set_option maxHeartbeats 1000000 in
theorem matchList118 {kb kc vb vc : Nat} (w : World) : Calls Tryz.prog 118 #[.slice (some ⟨kb, 0, none⟩) 1 kc, .slice (some ⟨vb, 0, none⟩) 1 vc] w fun e w' => e = .returned (.agg #[.string noStr, .slice (some ⟨kb, 0, none⟩) 1 kc, .slice (some ⟨vb, 0, none⟩) 1 vc, .pointer none, .bool false]) ∧ Below w.heap.size w w' := by
 go_enter Tryz.func118, Tryz.ntmps118
 go_wp2_with fail
 refine bodyPost_ret (v := .agg #[.string noStr, .slice (some ⟨kb, 0, none⟩) 1 kc, .slice (some ⟨vb, 0, none⟩) 1 vc, .pointer none, .bool false]) (by simp [results, Tryz.results118, go_sem]) rfl ⟨rfl, ?_⟩
 repeat (first | exact Below.refl _ _ | apply below_alloc | apply pw_below_drewN | apply below_drew)
def ElemQ (w : World) (bs : List Nat) (ns : List ByteArray) (v : ByteArray) (q : Option Addr) (w' : World) : Prop := (∀ (i : Nat) e', bs[i]? = some e' → ns[i]? = some v → ∃ r', q = some ⟨r', 0, none⟩ ∧ RNB w' r' e') ∧ (v ∉ ns → q = none) ∧ Below w.heap.size w w'
set_option maxRecDepth 20000 in
set_option maxHeartbeats 4000000 in
theorem elemList110 {r b : Nat} {C kv vv : Value} {bs : List Nat} {ns : List ByteArray} {v : ByteArray} (w : World) (hr : RNB w r b) (hl : ListAt w b C bs) (hlen : bs.length ≤ 1000) (hn : bs.length = ns.length) (hel : ∀ (i : Nat) e s, bs[i]? = some e → ns[i]? = some s → NmB w e s) (hk : S1 w kv nmKey) (hv : S1 w vv v) (hnd : ns.Nodup) :
  Calls Tryz.prog 110 #[.pointer (some ⟨r, 0, none⟩), kv, vv] w fun e w' => ∃ q, e = .returned (.pointer q) ∧ ElemQ w bs ns v q w' := by
 have H := Lib.hid (And.intro hr (And.intro hl (And.intro hlen (And.intro hn (And.intro hel (And.intro hk (And.intro hv hnd)))))))
 obtain ⟨kb, kc, _, rfl, _⟩ := hk
 obtain ⟨vb, vc, _, rfl, _⟩ := hv
 have HY := Lib.hid (ynode_some w hr hl.node rfl)
 have hc0 := hl.node.c0
 clear hr hl hlen hn hel hnd
 go_enter Tryz.func110, Tryz.ntmps110
 go_wp2_with (go_at_call 42; (with_reducible refine Calls.mono HY.out ?_); rintro e w' ⟨rfl, rfl⟩)
 refine (matchList118 w).mono ?_
 rintro e w1 ⟨rfl, hb⟩
 have HB := Lib.hid hb
 clear hb hc0
 go_wp2_with fail
 have hb2 : Below w.heap.size w (w1.alloc (.cells #[.iface 179 (.agg #[.string noStr, .slice (some ⟨kb, 0, none⟩) 1 kc, .slice (some ⟨vb, 0, none⟩) 1 vc, .pointer none, .bool false])] 135)) := below_alloc HB.out _
 refine (pipe1 (fun q w' => ElemQ w bs ns v q w') _ (H.out.1.under hb2) (H.out.2.1.node.under hb2) rfl (fb := w1.heap.size) ((blk_cell (blk_new rfl _) 0).trans rfl) (meth201 _ _ _ _ _) enter201 ((matcher201 _ (H.out.1.under hb2) (H.out.2.1.under hb2) H.out.2.2.1 H.out.2.2.2.1 (fun i e s h1 h2 => (H.out.2.2.2.2.1 i e s h1 h2).under hb2) (H.out.2.2.2.2.2.1.under hb2) (H.out.2.2.2.2.2.2.1.under hb2) H.out.2.2.2.2.2.2.2).mono ?_)).mono ?_
 ·rintro e w' ⟨q, he, h1, h2, h3⟩
  exact ⟨q, he, h1, h2, hb2.trans (h3.mono hb2.size)⟩
 rintro e w3 ⟨q, rfl, hq⟩
 have HQ := Lib.hid hq
 clear hq hb2
 go_wp2_with fail
 refine bodyPost_ret (v := .pointer q) (by simp [results, Tryz.results110, go_sem]) rfl ⟨q, rfl, HQ.out⟩
end Go.Proofs.YtghmajlfmoggfaaGreat
namespace Go.Proofs.YtghmajlfmoggfaaGreat
open Go.RowKit Go.Proofs.YtghmajlfmoggfaaGreatW.PrintWords Go.Proofs.YtghmajlfmoggfaaGreatW.PrintLast PFnMerge Go.Maps
abbrev nmLit : Lit := .string nmKey.data.toList
set_option maxRecDepth 20000 in
set_option maxHeartbeats 2000000 in
theorem has97 {mb n : Nat} {D : DataW Unit} {b : Bool} (w : World) (hs : SetAt w mb n D) (hb : Maps.has D nmLit = b) : Calls Tryz.prog 97 #[.map (some mb), .string nmKey] w fun e w' => e = .returned (.bool b) ∧ w = w' := by
 have hkey := Go.WideMaps.keyOf_string_mk (P := Tryz.prog) Tryz.underlying9 (show nmKey.size ≤ maxLen by decide)
 have HS := Lib.hid (And.intro hs hb)
 clear hs hb
 go_enter Tryz.func97, Tryz.ntmps97
 go_wp2_with (at_lookup; refine wpList_lookup_own_ok _ rfl _ _ 123 rfl 9 20 keyLaw Tryz.underlying123 nilElem (z := .nilIface) (by kernel_rfl) .nil [] rfl mb n D rfl HS.out.1 _ _ rfl hkey ?_; intro v ps hv; obtain rfl := nilElem_inv hv; rw [HS.out.2])
 go_ret
 exact ⟨rfl, rfl⟩
set_option maxRecDepth 20000 in
set_option maxHeartbeats 2000000 in
theorem len109 {mb n : Nat} {D : DataW Unit} {m : Nat} (w : World) (hs : SetAt w mb n D) (hm : Maps.size D = m) : Calls Tryz.prog 109 #[.map (some mb)] w fun e w' => e = .returned (.int .i64 (m : Int)) ∧ w = w' := by
 have HS := Lib.hid (And.intro hs hm)
 clear hs hm
 go_enter Tryz.func109, Tryz.ntmps109
 go_wp2_with (at_len; refine wpList_len_own _ rfl _ 123 rfl 9 20 Tryz.underlying123 nilElem mb n D rfl HS.out.1 ?_; rw [HS.out.2])
 go_ret
 exact ⟨rfl, rfl⟩
theorem own_lit {w : World} {base : Nat} {e : TypeId} {u : Value} {g : Nat} (hg : w.heap[g]? = some (.cells #[u] e (0, 0))) (h : base ≤ g) : w.ownsRow base e 1 (.slice (some ⟨g, 0, none⟩) 1 1) 1 [u] := ⟨rfl, .inr ⟨g, 1, #[u], rfl, h, hg, Nat.le_refl _, by decide, rfl, rfl⟩⟩
theorem own_empty' {w : World} {base g : Nat} {e : TypeId} (hg : w.heap[g]? = some (.cells #[] e (0, 0))) (h : base ≤ g) : w.ownsRow base e 1 (.slice (some ⟨g, 0, none⟩) 0 0) 0 [] := ⟨rfl, .inr ⟨g, 0, #[], rfl, h, hg, Nat.le_refl _, Nat.zero_le _, rfl, rfl⟩⟩
structure VK (w : World) (j : Nat) (wr : World) : Prop where
 below : Below w.heap.size w wr
 r8 : wr.heap[w.heap.size]? = some (.cells #[] 9 (0, 0))
 r9 : wr.heap[w.heap.size + 1]? = some (.cells #[] 9 (0, 0))
 set : ∃ D, SetAt wr (w.heap.size + 1 + 1) j D ∧ (j = 0 ∧ D = .map [] ∨ 1 ≤ j ∧ Maps.has D nmLit = true ∧ Maps.size D = 1)
theorem VK.under {w wr wr' : World} {j : Nat} (h : VK w j wr) (hb : Below wr.heap.size wr wr') : VK w j wr' := by
 obtain ⟨D, h1, h2⟩ := h.set
 exact ⟨h.below.trans (hb.mono h.below.size), (hb.block _ (lt_of_block h.r8)).trans h.r8, (hb.block _ (lt_of_block h.r9)).trans h.r9, D, h1.kept (grown_of_below hb none) (by simp), h2⟩
set_option maxRecDepth 20000 in
set_option maxHeartbeats 8000000 in
theorem validate91 {vl vv kv : Value} {ss : List ByteArray} {v : ByteArray} (w : World) (hl : SL w vl ss) (hne : ss ≠ []) (hlen : ss.length ≤ 5000) (hss : ∀ s ∈ ss, s.toList.isEmpty = false) (hv : S1 w vv v) (hve : v.toList.isEmpty = false) (hk : S1 w kv nmKey) :
  Calls Tryz.prog 91 #[vl, vv, kv] w fun e w' => ∃ k2 v2, e = .returned (.tuple #[k2, v2]) ∧ S1 w' k2 nmKey ∧ S1 w' v2 v ∧ Below w.heap.size w w' := by
 have H := Lib.hid (And.intro hl (And.intro hss (And.intro hv hk)))
 obtain ⟨lb, lc, lcs, rfl, hlc, _, _⟩ := hl
 obtain ⟨vb, vc, _, rfl, hvc, _, _⟩ := hv
 obtain ⟨kb, kc, _, rfl, hkc, _, _⟩ := hk
 obtain ⟨n, hn⟩ : ∃ n, n = ss.length := ⟨_, rfl⟩
 rw [← hn] at hlc H ⊢
 have hn1 : 1 ≤ n := by have := List.length_pos_iff.2 hne; omega
 have hn2 : (n : Int) ≤ 5000 := by omega
 have hvc1 : 0 < vc := by omega
 have hkc1 : 0 < kc := by omega
 have hve' : (!v.toList.isEmpty) = true := by rw [hve]; rfl
 have HN := Lib.hid hn
 have hmk : ∀ w : World, (Instr.makeSlice 22 (.int .i64 0) (.int .i64 0)).run Tryz.prog w = .ok (.slice (some ⟨w.heap.size, 0, none⟩) 0 0) (w.alloc (.cells #[] 9)) := fun _ => by kernel_rfl
 have hmm := @run_makeMap Tryz.prog
 clear hne hlen hss hve hn hvc hkc
 go_enter Tryz.func91, Tryz.ntmps91
 go_wp2_with fail
 have HV0 := Lib.hid (show VK w 0 (((w.alloc (.cells #[] 9)).alloc (.cells #[] 9)).alloc (.map #[] 0)) from ⟨below_alloc (below_alloc (below_alloc (Below.refl _ _) _) _) _, blk_old _ (blk_old _ (blk_new rfl _)), blk_old _ (blk_new (by simp) _), .map [], by
  have h := World.ownsMap_made ((w.alloc (.cells #[] 9)).alloc (.cells #[] 9)) Tryz.prog 9 nilElem
  have hz : ((w.alloc (.cells #[] 9)).alloc (.cells #[] 9)).heap.size = w.heap.size + 1 + 1 := by simp
  rw [hz] at h
  exact h, .inl ⟨rfl, rfl⟩⟩)
 clear hmk hmm
 go_loopg [24] n (fun k i wr => ∃ j : Nat, j + k = n ∧ i = .int .i64 (j : Int) ∧ Hid (VK w j wr))
 case atStart => exact ⟨0, by omega, rfl, HV0⟩
 case round =>
  obtain ⟨j, hj, rfl, HI⟩ := hrel
  by_cases hlt : 1 ≤ gk
  ·have hj2 : (j : Int) < (n : Int) := by omega
   have hj3 : j < n := by omega
   have hj4 : j < lc := by omega
   obtain ⟨s, hs⟩ : ∃ s, ss[j]? = some s := ⟨_, List.getElem?_eq_getElem (by have := HN.out; omega)⟩
   obtain ⟨u, hcell, hu⟩ := (H.out.1.under HI.out.below).cell hs
   have hse := H.out.2.1 s (List.mem_of_getElem? hs)
   have hse' : (!s.toList.isEmpty) = true := by rw [hse]; rfl
   have hk0 : wr.cell? ⟨kb, 0, none⟩ = some (.string nmKey) := (H.out.2.2.2.under HI.out.below).cell
   have hu0 := hu
   obtain ⟨ub, uc, _, rfl, huc, _, _⟩ := hu0
   have hu1 := hu.cell
   have huc1 : 0 < uc := by omega
   clear hs hu hse huc
   go_wp2_with fail
   refine wp_loop_rounds 2 ?_
   rw [rounds_succ]
   go_wp2_with fail
   have HI2 := Lib.hid (HI.out.under (below_alloc (Below.refl wr.heap.size wr) (.cells #[.string nmKey] 9)))
   obtain ⟨D, hD1, hD2⟩ := HI2.out.set
   have HD := Lib.hid (And.intro hD1 hD2)
   refine (insert75 (keys := [nmKey]) (base := 0) (wr.alloc (.cells #[.string nmKey] 9)) hD1 (own_lit (blk_new rfl _) (Nat.zero_le _)) (fun s hs => by rw [List.mem_singleton.1 hs]; decide) (by unfold maxLen; simp only [List.length_singleton]; omega)).mono ?_
   clear hD1 hD2
   rintro e w2 ⟨rfl, hs2, hg2⟩
   have HJ := Lib.hid (show VK w (j + 1) w2 from by
    have hk2 : Keep (fun k => some (w.heap.size + 1 + 1) = some k) (wr.alloc (.cells #[.string nmKey] 9)) w2 := (Keep.refl _ _).grown hg2 fun k _ h => h
    refine ⟨HI2.out.below.trans (hk2.below HI2.out.below.size fun k _ e => by injection e with e; omega), hk2.at_ HI2.out.r8 (by intro e; injection e with e; omega), hk2.at_ HI2.out.r9 (by intro e; injection e with e; omega), _, hs2, .inr ⟨by omega, ?_⟩⟩
    have ht := HD.out.1.tidy keyLaw
    have hm := HD.out.1.isMap
    show Maps.has (D.put nmLit .nil) nmLit = true ∧ Maps.size (D.put nmLit .nil) = 1
    refine ⟨has_put_same hm (by trivial) _, ?_⟩
    rw [size_put ht]
    rcases HD.out.2 with ⟨_, rfl⟩ | ⟨_, h1, h2⟩
    ·rfl
    ·rw [h1, h2]; rfl)
   clear hs2 hg2 hcell hu1 hk0
   go_wp2_with fail
   rw [rounds_succ]
   go_wp2_with fail
   go_roundg (gk - 1)
   case measure => omega
   case rel => exact ⟨j + 1, by omega, by go_num, HJ⟩
  ·have hj2 : ¬ ((j : Int) < (n : Int)) := by omega
   have hj3 : ¬ (j < n) := by omega
   obtain ⟨D, hD1, hD2⟩ := HI.out.set
   obtain ⟨hh, hsz⟩ : Maps.has D nmLit = true ∧ Maps.size D = 1 := by
    rcases hD2 with ⟨h, _⟩ | ⟨_, h⟩
    ·omega
    ·exact h
   have HD := Lib.hid (And.intro hD1 (And.intro hh hsz))
   have hk0 : wr.cell? ⟨kb, 0, none⟩ = some (.string nmKey) := (H.out.2.2.2.under HI.out.below).cell
   clear hD1 hD2 hh hsz
   go_wp2_with fail
   refine (len109 _ HD.out.1 HD.out.2.2).mono ?_
   rintro e w2 ⟨rfl, rfl⟩
   go_wp2_with fail
   refine wp_loop_rounds 2 ?_
   rw [rounds_succ]
   go_wp2_with fail
   refine (has97 _ HD.out.1 HD.out.2.1).mono ?_
   rintro e w2 ⟨rfl, rfl⟩
   go_wp2_with (at_builtin; refine list_app (base := w.heap.size) (by exact HI.out.below.size) 22 9 (.string ⟨#[]⟩) 16 [.string nmKey] 1 rfl rfl rfl Tryz.underlying22 info9 rfl (by omega) _ 0 [] (by rfl) (by rfl) (by simp [Value.oneCell']) (own_empty' HI.out.r8 (Nat.le_refl _)) (by omega) ?_; intro v1 w4 hown1 hg1 hat1; have HO1 := Lib.hid hown1; have HG1 := Lib.hid (And.intro hg1 hat1); clear hown1 hg1 hat1)
   have k4 : Keep (fun k => some w.heap.size = some k) wr w4 := (Keep.refl _ _).grown HG1.out.1 fun k _ h => h
   have hb4 : Below w.heap.size w w4 := HI.out.below.trans (k4.below HI.out.below.size fun k _ e => by injection e with e; omega)
   have h9 : w4.heap[w.heap.size + 1]? = some (.cells #[] 9 (0, 0)) := k4.at_ HI.out.r9 (by intro e; injection e with e; omega)
   have hv1 := S1.of_own HO1.out
   have hat : ∀ k, v1.ownBlock = some k → k = w.heap.size ∨ wr.heap.size ≤ k := fun k e => by
    rcases HG1.out.2 with h | ⟨b, h, hb⟩
    ·rw [h] at e; injection e with e; exact .inl e.symm
    ·rw [h] at e; injection e with e; exact .inr (e ▸ hb)
   have HW4 := Lib.hid (And.intro hb4 (And.intro h9 (And.intro hv1 (And.intro hat k4.size))))
   have hv0 : w4.cell? ⟨vb, 0, none⟩ = some (.string v) := (H.out.2.2.1.under hb4).cell
   clear k4 hb4 h9 hv1 hat hk0
   rw [rounds_succ]
   go_wp2_with fail
   refine wp_loop_rounds 2 ?_
   rw [rounds_succ]
   go_wp2_with (at_builtin; refine list_app (base := w.heap.size) (by exact HW4.out.1.size) 22 9 (.string ⟨#[]⟩) 16 [.string v] 1 rfl rfl rfl Tryz.underlying22 info9 rfl (by omega) _ 0 [] (by rfl) (by rfl) (by simp [Value.oneCell']) (own_empty' HW4.out.2.1 (Nat.le_succ _)) (by omega) ?_; intro v2 w5 hown1 hg1 hat1; have HO2 := Lib.hid hown1; have HG2 := Lib.hid (And.intro hg1 hat1); clear hown1 hg1 hat1)
   rw [rounds_succ]
   go_wp2_with fail
   have k5 : Keep (fun k => some (w.heap.size + 1) = some k) w4 w5 := (Keep.refl _ _).grown HG2.out.1 fun k _ h => h
   have hb5 : Below w.heap.size w w5 := HW4.out.1.trans (k5.below HW4.out.1.size fun k _ e => by injection e with e; omega)
   refine bodyPost_ret (v := .tuple #[v1, v2]) (by simp [results, Tryz.results91, go_sem]) rfl ⟨v1, v2, rfl, ?_, S1.of_own HO2.out, hb5⟩
   obtain ⟨g, c, cs, rfl, h2, h3, h4⟩ := HW4.out.2.2.1
   have h9 := lt_of_block HI.out.r9
   refine ⟨g, c, cs, rfl, h2, k5.at_ h3 (fun e => ?_), h4⟩
   injection e with e
   rcases HW4.out.2.2.2.1 g rfl with h | h <;> omega
end Go.Proofs.YtghmajlfmoggfaaGreat
namespace Go.Proofs.YtghmajlfmoggfaaGreat
open Go.RowKit Go.Proofs.YtghmajlfmoggfaaGreatW.PrintWords Go.Proofs.YtghmajlfmoggfaaGreatW.PrintLast PFnMerge
def NLb (w : World) (q : Option Addr) (bs : List Nat) (ns : List ByteArray) : Prop := (q = none ∧ bs = [] ∧ ns = []) ∨ ∃ r b C, q = some ⟨r, 0, none⟩ ∧ RNB w r b ∧ ListAt w b C bs ∧ bs.length = ns.length ∧ bs.length ≤ 1000 ∧ (∀ (i : Nat) e s, bs[i]? = some e → ns[i]? = some s → NmB w e s) ∧ ns.Nodup ∧ 0 < ns.length
theorem NLb.under {w w' : World} {q : Option Addr} {bs : List Nat} {ns : List ByteArray} (h : NLb w q bs ns) (hb : Below w.heap.size w w') : NLb w' q bs ns := by
 rcases h with h | ⟨r, b, C, h1, h2, h3, h4, h5, h6, h7⟩
 ·exact .inl h
 ·exact .inr ⟨r, b, C, h1, h2.under hb, h3.under hb, h4, h5, fun i e s he hs => (h6 i e s he hs).under hb, h7⟩
theorem NLb.nl {w : World} {q : Option Addr} {bs : List Nat} {ns : List ByteArray} (h : NLb w q bs ns) : NL w q ns := by
 rcases h with ⟨h, _, h2⟩ | ⟨r, b, C, h1, h2, h3, h4, h5, h6, h7, h8⟩
 ·exact .inl ⟨h, h2⟩
 ·exact .inr ⟨r, b, C, bs, h1, h2, h3, h4, h5, h8, h6⟩
def EQ (bs : List Nat) (ns : List ByteArray) (v : ByteArray) (q : Option Addr) (w : World) : Prop := (∀ (i : Nat) e', bs[i]? = some e' → ns[i]? = some v → ∃ r', q = some ⟨r', 0, none⟩ ∧ RNB w r' e') ∧ (v ∉ ns → q = none)
theorem EQ.under {w w' : World} {bs : List Nat} {ns : List ByteArray} {v : ByteArray} {q : Option Addr} (h : EQ bs ns v q w) (hb : Below w.heap.size w w') : EQ bs ns v q w' :=
 ⟨fun i e' h1 h2 => by obtain ⟨r', h3, h4⟩ := h.1 i e' h1 h2; exact ⟨r', h3, h4.under hb⟩, h.2⟩
structure VL (w : World) (bx : Array Value) (P : Nat → Option Addr → World → Prop) (j : Nat) (fv : Value) (xs : List (Option Addr)) (wr : World) : Prop where
 below : Below w.heap.size w wr
 box : wr.heap[w.heap.size]? = some (.cells bx 66 (0, 0))
 row : wr.ownsRow w.heap.size 47 1 fv j (xs.map Value.pointer)
 each : ∀ (i : Nat) q, xs[i]? = some q → P i q wr
theorem VL.under {w wr wr' : World} {bx : Array Value} {P : Nat → Option Addr → World → Prop} {j : Nat} {fv : Value} {xs : List (Option Addr)} (hP : ∀ i q W W', P i q W → Below W.heap.size W W' → P i q W') (h : VL w bx P j fv xs wr) (hb : Below wr.heap.size wr wr') : VL w bx P j fv xs wr' :=
 ⟨h.below.trans (hb.mono h.below.size), (hb.block _ (lt_of_block h.box)).trans h.box, pw_own_below h.row hb, fun i q hq => hP i q _ _ (h.each i q hq) hb⟩
theorem VL.push {w wr w1 : World} {bx : Array Value} {P : Nat → Option Addr → World → Prop} {j : Nat} {fv fv1 : Value} {xs : List (Option Addr)} {q : Option Addr} (hP : ∀ i q W W' T, P i q W → Keep T W W' → (∀ k, T k → ∃ cs, W.heap[k]? = some (.cells cs 47 (0, 0))) → P i q W') (h : VL w bx P j fv xs wr) (hl : xs.length = j) (hq : P j q wr)
  (h1 : w1.ownsRow w.heap.size 47 1 fv1 (j + 1) (xs.map Value.pointer ++ [.pointer q])) (hg : wr.grownBy w1 fv.ownBlock) : VL w bx P (j + 1) fv1 (xs ++ [q]) w1 := by
 have hk : Keep (fun k => fv.ownBlock = some k) wr w1 := (Keep.refl _ _).grown hg fun k _ h => h
 have ht : ∀ k, fv.ownBlock = some k → ∃ cs, wr.heap[k]? = some (.cells cs 47 (0, 0)) := fun k e => own_typed h.row k e
 refine ⟨h.below.trans (hk.below h.below.size fun k _ e => own_base h.row k e), hk.at_ h.box ?_, by rw [List.map_append]; exact h1, fun i q' hq' => ?_⟩
 ·intro e
  obtain ⟨cs, hc⟩ := ht _ e
  rw [h.box] at hc
  injection hc with hc
  injection hc with _ hc
  cases hc
 ·by_cases hi : i < xs.length
  ·rw [List.getElem?_append_left hi] at hq'
   exact hP _ _ _ _ _ (h.each i q' hq') hk ht
  ·rw [List.getElem?_append_right (by omega)] at hq'
   have hz : i - xs.length = 0 := by have := (List.getElem?_eq_some_iff.1 hq').1; simp only [List.length_singleton] at this; omega
   rw [hz] at hq'
   injection hq' with hq'
   subst hq'
   obtain rfl : i = j := by omega
   exact hP _ _ _ _ _ hq hk ht
theorem EQ.keep {w w' : World} {bs : List Nat} {ns : List ByteArray} {v : ByteArray} {q : Option Addr} {T : Nat → Prop} (h : EQ bs ns v q w) (hk : Keep T w w') (ht : ∀ k, T k → ∃ cs, w.heap[k]? = some (.cells cs 47 (0, 0))) : EQ bs ns v q w' :=
 ⟨fun i e' h1 h2 => by
  obtain ⟨r', h3, h4⟩ := h.1 i e' h1 h2
  exact ⟨r', h3, hk.at_ h4 (fun hT => by
   obtain ⟨cs, hc⟩ := ht _ hT
   unfold RNB at h4
   rw [h4] at hc
   injection hc with hc
   injection hc with _ hc
   cases hc)⟩, h.2⟩
theorem S1.grown {w w1 : World} {v fv : Value} {s : ByteArray} {base n : Nat} {xs : List Value} (h : S1 w v s) (hg : w.grownBy w1 fv.ownBlock) (ho : w.ownsRow base 47 1 fv n xs) : S1 w1 v s := by
 obtain ⟨g, c, cs, h1, h2, h3, h4⟩ := h
 have hk : Keep (fun k => fv.ownBlock = some k) w w1 := (Keep.refl _ w).grown hg fun k _ h => h
 refine ⟨g, c, cs, h1, h2, hk.at_ h3 (fun e => ?_), h4⟩
 obtain ⟨cells, hc⟩ := own_typed ho g e
 rw [h3] at hc
 injection hc with hc
 injection hc with _ hc
 cases hc
theorem S1.lit {w : World} {v : Value} {s : ByteArray} (h : S1 w v s) : SL (w.alloc (.cells #[v] 22)) (.slice (some ⟨w.heap.size, 0, none⟩) 1 1) [s] := by
 refine ⟨w.heap.size, 1, #[v], rfl, Nat.le_refl _, blk_new rfl _, fun i t ht => ?_⟩
 have hi : i = 0 := by have := (List.getElem?_eq_some_iff.1 ht).1; simp only [List.length_singleton] at this; omega
 subst hi
 injection ht with ht
 subst ht
 exact ⟨v, rfl, h.under (below_alloc (Below.refl _ _) _)⟩
theorem src_of_own {w : World} {base : Nat} {v : Value} {q1 q2 : Option Addr} (h : w.ownsRow base 47 1 v 2 [.pointer q1, .pointer q2]) : ∃ g cap, v = .slice (some ⟨g, 0, none⟩) 2 cap ∧ 2 ≤ cap ∧ base ≤ g ∧ SrcAt w g q1 q2 := by
 obtain ⟨hl, h | ⟨g, cap, cur, rfl, hb, hg, h1, h2, hz, ht⟩⟩ := h
 ·cases h.2
 ·refine ⟨g, cap, rfl, h1, hb, cur, hg, ?_, ?_⟩
  ·have h3 : (cur.toList.take (2 * 1))[0]? = some (.pointer q1) := by rw [ht]; rfl
   rw [List.getElem?_take_of_lt (by omega)] at h3
   rw [← Array.getElem?_toList]
   exact h3
  ·have h3 : (cur.toList.take (2 * 1))[1]? = some (.pointer q2) := by rw [ht]; rfl
   rw [List.getElem?_take_of_lt (by omega)] at h3
   rw [← Array.getElem?_toList]
   exact h3
def ValsQ (w : World) (bd bs : List Nat) (nd ns : List ByteArray) (v : ByteArray) (e : Ending) (w' : World) : Prop := ∃ g cap q1 q2, e = .returned (.slice (some ⟨g, 0, none⟩) 2 cap) ∧ 2 ≤ cap ∧ w.heap.size ≤ g ∧ SrcAt w' g q1 q2 ∧ EQ bd nd v q1 w' ∧ EQ bs ns v q2 w' ∧ Below w.heap.size w w'
set_option maxRecDepth 20000 in
set_option maxHeartbeats 8000000 in
theorem valueList92 {sb c : Nat} {dp sp : Option Addr} {bd bs : List Nat} {nd ns : List ByteArray} {v : ByteArray} {V path sc ic vk kv vv mo : Value} (w : World) (hs : SrcAt w sb dp sp) (hc : 2 ≤ c) (hd : NLb w dp bd nd) (ho : NLb w sp bs ns) (hk : S1 w kv nmKey) (hv : S1 w vv v) (hve : v.toList.isEmpty = false) :
  Calls Tryz.prog 92 #[.agg #[V, sc, .slice (some ⟨sb, 0, none⟩) 2 c, path, ic, vk, mo], kv, vv] w fun e w' => ValsQ w bd bs nd ns v e w' := by
 obtain ⟨P, hP0, hP1, hPa, hPk⟩ : ∃ P : Nat → Option Addr → World → Prop, (∀ q W, P 0 q W ↔ EQ bd nd v q W) ∧ (∀ q W, P 1 q W ↔ EQ bs ns v q W) ∧ (∀ i q W W', P i q W → Below W.heap.size W W' → P i q W') ∧ ∀ i q W W' T, P i q W → Keep T W W' → (∀ k, T k → ∃ cs, W.heap[k]? = some (.cells cs 47 (0, 0))) → P i q W' := by
  refine ⟨fun i q W => if i = 0 then EQ bd nd v q W else EQ bs ns v q W, fun q W => by simp, fun q W => by simp, fun i q W W' h hb => ?_, fun i q W W' T h hk ht => ?_⟩
  ·by_cases hi : i = 0
   ·simp only [hi, if_true] at h ⊢; exact h.under hb
   ·simp only [hi, if_false] at h ⊢; exact h.under hb
  ·by_cases hi : i = 0
   ·simp only [hi, if_true] at h ⊢; exact h.keep hk ht
   ·simp only [hi, if_false] at h ⊢; exact h.keep hk ht
 have hq : ∀ j, j < 2 → ∃ q bl nl, (∀ W, Below w.heap.size w W → W.cell? ⟨sb, j, none⟩ = some (.pointer q)) ∧ NLb w q bl nl ∧ ∀ q' W, EQ bl nl v q' W → P j q' W := by
  intro j hj
  match j, hj with
  | 0, _ => exact ⟨dp, bd, nd, fun W hb => (hs.under hb).c0, hd, fun q' W h => (hP0 q' W).2 h⟩
  | 1, _ => exact ⟨sp, bs, ns, fun W hb => (hs.under hb).c1, ho, fun q' W h => (hP1 q' W).2 h⟩
 have HQ := Lib.hid (And.intro hq (And.intro hP0 (And.intro hP1 (And.intro hPa hPk))))
 have HKV := Lib.hid (And.intro hk hv)
 have HB0 := Lib.hid (below_alloc (Below.refl w.heap.size w) (.cells #[V, sc, .slice (some ⟨sb, 0, none⟩) 2 c, path, ic, vk, mo] 66))
 have HX0 := Lib.hid (show (w.alloc (.cells #[V, sc, .slice (some ⟨sb, 0, none⟩) 2 c, path, ic, vk, mo] 66)).heap[w.heap.size]? = some (.cells #[V, sc, .slice (some ⟨sb, 0, none⟩) 2 c, path, ic, vk, mo] 66 (0, 0)) from blk_new rfl _)
 have HVE := Lib.hid hve
 obtain ⟨kb, kc, _, rfl, _⟩ := hk
 obtain ⟨vb, vc, _, rfl, _⟩ := hv
 clear hs hd ho hq hP0 hP1 hPa hPk hve
 go_enter Tryz.func92, Tryz.ntmps92
 go_wp2_with fail
 have hlit := (HKV.out.2.under HB0.out).lit
 have hbl := HB0.out.trans ((below_alloc (Below.refl (w.alloc (.cells #[V, sc, .slice (some ⟨sb, 0, none⟩) 2 c, path, ic, vk, mo] 66)).heap.size (w.alloc (.cells #[V, sc, .slice (some ⟨sb, 0, none⟩) 2 c, path, ic, vk, mo] 66))) (.cells #[.slice (some ⟨vb, 0, none⟩) 1 vc] 22)).mono HB0.out.size)
 have HLB := Lib.hid hbl
 have hsz : (w.alloc (.cells #[V, sc, .slice (some ⟨sb, 0, none⟩) 2 c, path, ic, vk, mo] 66)).heap.size = w.heap.size + 1 := by simp
 rw [hsz] at hlit
 refine (validate91 _ hlit (by simp) (by simp) (fun s hs => by rw [List.mem_singleton.1 hs]; exact HVE.out) (HKV.out.2.under hbl) HVE.out (HKV.out.1.under hbl)).mono ?_
 clear hlit hbl hsz
 rintro e w1 ⟨k2, v2, rfl, hk2, hv2, hb⟩
 have HK2 := Lib.hid (And.intro hk2 hv2)
 have HI0 := Lib.hid (show VL w #[V, sc, .slice (some ⟨sb, 0, none⟩) 2 c, path, ic, vk, mo] P 0 (.slice none 0 0) [] w1 from ⟨HLB.out.trans (hb.mono HLB.out.size), (hb.block _ (by have := HB0.out.size; simp; omega)).trans (blk_old _ HX0.out), own_nil _ _ _ _, fun i q h => by simp at h⟩)
 obtain ⟨k2b, k2c, _, rfl, _⟩ := hk2
 obtain ⟨v2b, v2c, _, rfl, _⟩ := hv2
 have x2 : w1.cell? ⟨w.heap.size, 2, none⟩ = some (.slice (some ⟨sb, 0, none⟩) 2 c) := (blk_cell HI0.out.box 2).trans rfl
 clear hb
 go_wp2_with fail
 go_loopg [20, 7] 2 (fun k i fv wr => ∃ (j : Nat) (xs : List (Option Addr)), j + k = 2 ∧ i = .int .i64 (j : Int) ∧ xs.length = j ∧ Hid (VL w #[V, sc, .slice (some ⟨sb, 0, none⟩) 2 c, path, ic, vk, mo] P j fv xs wr) ∧ Hid (S1 wr (.slice (some ⟨k2b, 0, none⟩) 1 k2c) nmKey ∧ S1 wr (.slice (some ⟨v2b, 0, none⟩) 1 v2c) v))
 case atStart => exact ⟨0, [], by omega, rfl, rfl, HI0, HK2⟩
 case round =>
  obtain ⟨j, xs, hj, rfl, hxl, HI, HBW⟩ := hrel
  by_cases hlt : 1 ≤ gk
  ·have hj2 : (j : Int) < 2 := by omega
   have hj3 : j < 2 := by omega
   have hj4 : j < c := by omega
   obtain ⟨q, bl, nl, hcell, hnl, hP⟩ := HQ.out.1 j hj3
   have hcq := hcell wr HI.out.below
   have y2 : wr.cell? ⟨w.heap.size, 2, none⟩ = some (.slice (some ⟨sb, 0, none⟩) 2 c) := (blk_cell HI.out.box 2).trans rfl
   have HNL := Lib.hid (And.intro hnl (And.intro hP hxl))
   clear hcell hnl hP hxl
   rcases HNL.out.1 with ⟨rfl, hbl, hnl⟩ | ⟨r, b, C, rfl, hr, hla, hlen, hl1, hel, hnd, hpos⟩
   ·have hpe : P j none wr := HNL.out.2.1 none wr ⟨fun i e' h1 h2 => by rw [hbl] at h1; simp at h1, fun _ => rfl⟩
    have HPE := Lib.hid hpe
    clear hpe hbl hnl
    go_wp2_with (at_builtin; refine list_app (base := w.heap.size) (by exact HI.out.below.size) 58 47 (.pointer none) 8 [.pointer none] 1 rfl rfl rfl Tryz.underlying58 info47 rfl (by omega) _ j _ (by rfl) (by rfl) (by simp [Value.oneCell']) HI.out.row (by omega) ?_; intro v1 w4 hown1 hg1 hat1; have HPU := Lib.hid (VL.push (q := none) HQ.out.2.2.2.2 HI.out HNL.out.2.2 HPE.out hown1 hg1); have HBW4 := Lib.hid (And.intro (HBW.out.1.grown hg1 HI.out.row) (HBW.out.2.grown hg1 HI.out.row)); clear hown1 hg1 hat1)
    go_roundg (gk - 1)
    case measure => omega
    case rel => exact ⟨j + 1, xs ++ [none], by omega, by go_num, by simp [HNL.out.2.2], HPU, HBW4⟩
   ·have HR := Lib.hid (And.intro hr (And.intro hla (And.intro hlen (And.intro hl1 (And.intro hel hnd)))))
    clear hr hla hlen hl1 hel hnd hpos
    go_wp2_with fail
    refine (elemList110 wr (HR.out.1.under HI.out.below) (HR.out.2.1.under HI.out.below) HR.out.2.2.2.1 HR.out.2.2.1 (fun i e s h1 h2 => (HR.out.2.2.2.2.1 i e s h1 h2).under HI.out.below) HBW.out.1 HBW.out.2 HR.out.2.2.2.2.2).mono ?_
    rintro e w3 ⟨q, rfl, h1, h2, hb⟩
    have HPE := Lib.hid (HNL.out.2.1 q w3 ⟨h1, h2⟩)
    have HI3 := Lib.hid (HI.out.under HQ.out.2.2.2.1 hb)
    have HBW3 := Lib.hid (And.intro (HBW.out.1.under hb) (HBW.out.2.under hb))
    clear h1 h2 hb
    go_wp2_with (at_builtin; refine list_app (base := w.heap.size) (by exact HI3.out.below.size) 58 47 (.pointer none) 8 [.pointer q] 1 rfl rfl rfl Tryz.underlying58 info47 rfl (by omega) _ j _ (by rfl) (by rfl) (by simp [Value.oneCell']) HI3.out.row (by omega) ?_; intro v1 w4 hown1 hg1 hat1; have HPU := Lib.hid (VL.push (q := q) HQ.out.2.2.2.2 HI3.out HNL.out.2.2 HPE.out hown1 hg1); have HBW4 := Lib.hid (And.intro (HBW3.out.1.grown hg1 HI3.out.row) (HBW3.out.2.grown hg1 HI3.out.row)); clear hown1 hg1 hat1)
    go_roundg (gk - 1)
    case measure => omega
    case rel => exact ⟨j + 1, xs ++ [q], by omega, by go_num, by simp [HNL.out.2.2], HPU, HBW4⟩
  ·have hj2 : ¬ ((j : Int) < 2) := by omega
   have hj3 : ¬ (j < 2) := by omega
   obtain rfl : j = 2 := by omega
   obtain ⟨q1, q2, rfl⟩ : ∃ q1 q2, xs = [q1, q2] := by
    match xs, hxl with
    | [a, b], _ => exact ⟨a, b, rfl⟩
   obtain ⟨g, cap, rfl, h1, h2, h3⟩ := src_of_own HI.out.row
   have HF := Lib.hid (And.intro h1 (And.intro h2 (And.intro h3 (And.intro ((HQ.out.2.1 _ _).1 (HI.out.each 0 q1 rfl)) ((HQ.out.2.2.1 _ _).1 (HI.out.each 1 q2 rfl))))))
   clear h1 h2 h3 hxl
   go_wp2_with fail
   refine bodyPost_ret (v := .slice (some ⟨g, 0, none⟩) 2 cap) (by simp [results, Tryz.results92, go_sem]) rfl ⟨g, cap, q1, q2, rfl, HF.out.1, HF.out.2.1, HF.out.2.2.1, HF.out.2.2.2.1, HF.out.2.2.2.2, HI.out.below⟩
end Go.Proofs.YtghmajlfmoggfaaGreat
