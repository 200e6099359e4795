import Derived.Test.YtghmajlfmoggfaaGreatMI11
import Derived.Test.YtghmajlfmoggfaaGreatMB1
set_option linter.unusedSimpArgs false
set_option linter.unusedVariables false
namespace Go.Proofs.YtghmajlfmoggfaaGreat
open Go.RowKit Go.Proofs.YtghmajlfmoggfaaGreatW.PrintWords Go.Proofs.YtghmajlfmoggfaaGreatW.PrintLast PFnMerge
theorem NmB.miss {w : World} {r b : Nat} {s : ByteArray} (h : NmB w b s) (hr : RNB w r b) : Calls Tryz.prog 55 #[.pointer (some ⟨r, 0, none⟩)] w fun e w' => e = .returned (.bool false) ∧ w = w' := by
 obtain ⟨C, kids, h1⟩ := h.map
 exact missing_no w hr h1.node rfl (by decide +kernel)
set_option maxHeartbeats 1000000 in
theorem NmB.empty93 {w : World} {r b : Nat} {s : ByteArray} (h : NmB w b s) (hr : RNB w r b) : Calls Tryz.prog 93 #[.pointer (some ⟨r, 0, none⟩)] w fun e w' => e = .returned (.bool false) ∧ w = w' := by
 have HM := Lib.hid (h.miss hr)
 obtain ⟨C, kids, kid, tag, h1, h2, _⟩ := h
 obtain ⟨F, hrow⟩ := h1.row
 obtain ⟨A, c, rfl, hc, _⟩ := hrow.slice
 have hY := Lib.hid (ynode_some w hr h1.node rfl)
 have h3 := two_length kids
 have h4 : 0 < kids.length := List.length_pos_iff.2 (by rintro rfl; simp at h2)
 have hc0 := h1.node.c0
 have hc6 := h1.node.c6
 obtain ⟨n, hn⟩ : ∃ n, n = (kids.flatMap Kid.two).length := ⟨_, rfl⟩
 rw [← hn] at hc6 h3
 have hz : ((n : Int) == 0) = false := beq_false_of_ne (by omega)
 have h111 : Calls Tryz.prog 111 #[.pointer (some ⟨b, 0, none⟩)] w fun e w' => e = .returned (.bool false) ∧ w = w' := by
  clear HM hY hr h1 h2 hrow hc h3 h4 hn
  go_enter Tryz.func111, Tryz.ntmps111
  go_wp2_with fail
  go_ret
  exact ⟨rfl, rfl⟩
 have H1 := Lib.hid h111
 clear h1 h2 hrow hc h3 h4 hn hc0 hc6 hz h111 hr
 go_enter Tryz.func93, Tryz.ntmps93
 go_wp2_with (first | (go_at_call 55; (with_reducible refine Calls.mono HM.out ?_); rintro e w' ⟨rfl, rfl⟩) | (go_at_call 42; (with_reducible refine Calls.mono hY.out ?_); rintro e w' ⟨rfl, rfl⟩) | (go_at_call 111; (with_reducible refine Calls.mono H1.out ?_); rintro e w' ⟨rfl, rfl⟩))
 go_ret
 exact ⟨rfl, rfl⟩
set_option maxHeartbeats 1000000 in
theorem NmB.mapping193 {w : World} {r b : Nat} {s : ByteArray} {bx : Array Value} (h : NmB w b s) (hr : RNB w r b) : Calls Tryz.prog 193 #[.agg bx, .pointer (some ⟨r, 0, none⟩)] w fun e w' => e = .returned (.bool true) ∧ Below w.heap.size w w' := by
 have hb := below_alloc (Below.refl w.heap.size w) (.cells bx 150)
 have HE := Lib.hid ((h.under hb).err56 (hr.under hb))
 clear h hr hb
 go_enter Tryz.func193, Tryz.ntmps193
 go_wp2_with (go_at_call 56; (with_reducible refine Calls.mono HE.out ?_); rintro e w' ⟨rfl, rfl⟩)
 go_ret
 exact ⟨rfl, below_alloc (Below.refl _ _) _⟩
def setN (bs : List Nat) (ns : List ByteArray) (v : ByteArray) (el : Nat) : List Nat := List.zipWith (fun b s => if s.toList == v.toList then el else b) bs ns
theorem setN_len {bs : List Nat} {ns : List ByteArray} {v : ByteArray} {el : Nat} (h : bs.length = ns.length) : (setN bs ns v el).length = bs.length := by unfold setN; rw [List.length_zipWith, ← h, Nat.min_self]
theorem setN_get {bs : List Nat} {ns : List ByteArray} {v s : ByteArray} {el b j : Nat} (h1 : bs[j]? = some b) (h2 : ns[j]? = some s) : (setN bs ns v el)[j]? = some (if s.toList == v.toList then el else b) := by
 unfold setN
 rw [List.getElem?_zipWith, h1, h2]
theorem setN_no {v : ByteArray} {el : Nat} : ∀ {bs : List Nat} {ns : List ByteArray}, bs.length = ns.length → hasB ns v = false → setN bs ns v el = bs := by
 intro bs
 induction bs with
 | nil => intro ns _ _; rfl
 | cons b r ih =>
  intro ns hl hb
  cases ns with
  | nil => simp at hl
  | cons s t =>
   unfold hasB at hb
   rw [List.any_cons, Bool.or_eq_false_iff] at hb
   have h2 := ih (ns := t) (by simpa using hl) hb.2
   unfold setN at h2 ⊢
   rw [List.zipWith_cons_cons, hb.1, h2]
   rfl
structure TJ (w : World) (bs : List Nat) (ns : List ByteArray) (v : ByteArray) (el : Nat) (bx : Array Value) (b : Nat) (C0 : Value) (j : Nat) (cv : Value) (wr : World) : Prop where
 below : Below w.heap.size w wr
 box : wr.heap[w.heap.size]? = some (.cells bx 150 (0, 0))
 row : wr.ownsRow w.heap.size 69 1 cv j (((setN bs ns v el).take j).map ptrV)
theorem TJ.under {w wr wr' : World} {bs : List Nat} {ns : List ByteArray} {v : ByteArray} {el : Nat} {bx : Array Value} {b : Nat} {C0 : Value} {j : Nat} {cv : Value} (h : TJ w bs ns v el bx b C0 j cv wr) (hb : Below wr.heap.size wr wr') : TJ w bs ns v el bx b C0 j cv wr' :=
 ⟨h.below.trans (hb.mono h.below.size), (hb.block _ (lt_of_block h.box)).trans h.box, pw_own_below h.row hb⟩
theorem TJ.push {w wr w1 : World} {bs : List Nat} {ns : List ByteArray} {v s : ByteArray} {el : Nat} {bx : Array Value} {b : Nat} {C0 : Value} {j : Nat} {cv cv1 : Value} {x bi : Nat} (h : TJ w bs ns v el bx b C0 j cv wr) (hb : bs[j]? = some bi) (hs : ns[j]? = some s) (hx : x = if s.toList == v.toList then el else bi)
  (h1 : w1.ownsRow w.heap.size 69 1 cv1 (j + 1) (((setN bs ns v el).take j).map ptrV ++ [ptrV x])) (hg : wr.grownBy w1 cv.ownBlock) : TJ w bs ns v el bx b C0 (j + 1) cv1 w1 := by
 have hk : Keep (fun k => cv.ownBlock = some k) wr w1 := (Keep.refl _ wr).grown hg fun k _ h => h
 refine ⟨h.below.trans (hk.below h.below.size fun k _ e => own_base h.row k e), hk.at_ h.box ?_, ?_⟩
 ·intro e
  obtain ⟨cs, hc⟩ := own_typed h.row _ e
  rw [h.box] at hc
  injection hc with hc
  injection hc with _ hc
  cases hc
 ·rw [List.take_add_one, setN_get hb hs, ← hx, Option.toList_some, List.map_append]
  exact h1
def SetQ (w : World) (b : Nat) (bs : List Nat) (ns : List ByteArray) (v : ByteArray) (el : Nat) (e : Ending) (w' : World) : Prop := ∃ q C' L, e = .returned (.tuple #[.pointer q, .nilIface]) ∧ L = (if hasB ns v then setN bs ns v el else bs ++ [el]) ∧ NodeB w' b 2 noStr noStr C' ∧ w'.ownsRow w.heap.size 69 1 C' L.length (L.map ptrV) ∧ Keep (fun k => k = b) w w'
set_option maxRecDepth 20000 in
set_option maxHeartbeats 8000000 in
theorem setter191 {r b el : Nat} {C0 Cel kv vv : Value} {bs : List Nat} {ns : List ByteArray} {v : ByteArray} (w : World) (hr : RNB w r b) (hl : ListAt w b C0 bs) (hlen : bs.length ≤ 1000) (hn : bs.length = ns.length) (hel : ∀ (i : Nat) e s, bs[i]? = some e → ns[i]? = some s → NmB w e s) (hk : S1 w kv nmKey) (hv : S1 w vv v) (hve : v.toList.isEmpty = false) (hnel : NodeB w el 4 noStr noStr Cel) (hne : el ≠ b) :
  Calls Tryz.prog 191 #[.agg #[.string noStr, .pointer (some ⟨el, 0, none⟩), kv, vv], .pointer (some ⟨r, 0, none⟩)] w fun e w' => SetQ w b bs ns v el e w' := by
 obtain ⟨F, hrow⟩ := hl.row
 obtain ⟨A, c, rfl, hc, _⟩ := hrow.slice
 obtain ⟨n, hnn⟩ : ∃ n, n = bs.length := ⟨_, rfl⟩
 rw [← hnn] at hc hrow
 have hnode := hl.node
 rw [← hnn] at hnode
 have H := Lib.hid (And.intro hr (And.intro hnode (And.intro hrow (And.intro hel (And.intro hnn (And.intro hn (And.intro hk (And.intro hv (And.intro hnel hne)))))))))
 have HVE := Lib.hid hve
 have hn2 : (n : Int) ≤ 1000 := by omega
 obtain ⟨kb, kc, _, rfl, hkc, _, _⟩ := hk
 obtain ⟨vb, vc, _, rfl, hvc, _, _⟩ := hv
 have hkc1 : 0 < kc := by omega
 have hvc1 : 0 < vc := by omega
 have HI0 := Lib.hid (show TJ w bs ns v el #[.string noStr, .pointer (some ⟨el, 0, none⟩), .slice (some ⟨kb, 0, none⟩) 1 kc, .slice (some ⟨vb, 0, none⟩) 1 vc] b (.slice A n c) 0 (.slice none 0 0) (w.alloc (.cells #[.string noStr, .pointer (some ⟨el, 0, none⟩), .slice (some ⟨kb, 0, none⟩) 1 kc, .slice (some ⟨vb, 0, none⟩) 1 vc] 150)) from ⟨below_alloc (Below.refl _ _) _, blk_new rfl _, own_nil _ _ _ _⟩)
 have hn6 := (H.out.2.1.under HI0.out.below).c6
 have hyn := Lib.hid (ynode_some _ (H.out.1.under HI0.out.below) (H.out.2.1.under HI0.out.below) rfl)
 clear hr hl hnode hrow hlen hel hnn hn hkc hvc hve hnel hne
 go_enter Tryz.func191, Tryz.ntmps191
 go_wp2_with (first | (go_at_call 56; (with_reducible refine Calls.mono (errInv_eq _ (H.out.1.under HI0.out.below) (H.out.2.1.under HI0.out.below) rfl rfl (by decide +kernel)) ?_); rintro e w' ⟨rfl, rfl⟩) | (go_at_call 42; (with_reducible refine Calls.mono hyn.out ?_); rintro e w' ⟨rfl, rfl⟩))
 clear hn6 hyn
 go_loopg [36, 7, 8] n (fun k i cv mf wr => ∃ j : Nat, j + k = n ∧ i = .int .i64 (j : Int) ∧ mf = .bool (hasB (ns.take j) v) ∧ Hid (TJ w bs ns v el #[.string noStr, .pointer (some ⟨el, 0, none⟩), .slice (some ⟨kb, 0, none⟩) 1 kc, .slice (some ⟨vb, 0, none⟩) 1 vc] b (.slice A n c) j cv wr))
 case atStart => exact ⟨0, by omega, rfl, rfl, HI0⟩
 case round =>
  obtain ⟨j, hj, rfl, rfl, HI⟩ := hrel
  by_cases hlt : 1 ≤ gk
  ·have hj2 : (j : Int) < (n : Int) := by omega
   have hj3 : j < n := by omega
   have hj4 : j < c := by omega
   have HC := Lib.hid (content_some wr (H.out.1.under HI.out.below) (H.out.2.1.under HI.out.below) rfl)
   obtain ⟨ei, hb⟩ : ∃ ei, bs[j]? = some ei := ⟨_, List.getElem?_eq_getElem (by have := H.out.2.2.2.2.1; omega)⟩
   obtain ⟨s, hs⟩ : ∃ s, ns[j]? = some s := ⟨_, List.getElem?_eq_getElem (by have h1 := H.out.2.2.2.2.1; have h2 := H.out.2.2.2.2.2.1; omega)⟩
   obtain ⟨g, rfl, hcell⟩ := (H.out.2.2.1.under HI.out.below).cell j ei hb
   have HE := Lib.hid (And.intro (And.intro hs hb) (H.out.2.2.2.1 j ei s hb hs))
   obtain ⟨mf, hmf⟩ : ∃ mf, mf = hasB (ns.take j) v := ⟨_, rfl⟩
   rw [← hmf]
   have HMF := Lib.hid hmf
   clear hb hs hmf
   go_wp2_with (go_at_call 79; (with_reducible refine Calls.mono HC.out ?_); rintro e w' ⟨rfl, rfl⟩)
   refine (newRNode _).mono ?_
   rintro e w2 ⟨rfl, rfl⟩
   have hr2 : RNB (wr.alloc (.cells #[nilS, .pointer (some ⟨ei, 0, none⟩), .bool false, nilS] 81)) wr.heap.size ei := blk_new rfl _
   have hba := below_alloc (Below.refl wr.heap.size wr) (.cells #[nilS, .pointer (some ⟨ei, 0, none⟩), .bool false, nilS] 81)
   have HR := Lib.hid hr2
   have HE := Lib.hid (And.intro HE.out.1 ((HE.out.2.under HI.out.below).under hba))
   have HI := Lib.hid (HI.out.under hba)
   have x0 : (wr.alloc (.cells #[nilS, .pointer (some ⟨ei, 0, none⟩), .bool false, nilS] 81)).cell? ⟨w.heap.size, 0, none⟩ = some (.string noStr) := (blk_cell HI.out.box 0).trans rfl
   have x1 : (wr.alloc (.cells #[nilS, .pointer (some ⟨ei, 0, none⟩), .bool false, nilS] 81)).cell? ⟨w.heap.size, 1, none⟩ = some (.pointer (some ⟨el, 0, none⟩)) := (blk_cell HI.out.box 1).trans rfl
   have x2 : (wr.alloc (.cells #[nilS, .pointer (some ⟨ei, 0, none⟩), .bool false, nilS] 81)).cell? ⟨w.heap.size, 2, none⟩ = some (.slice (some ⟨kb, 0, none⟩) 1 kc) := (blk_cell HI.out.box 2).trans rfl
   have x3 : (wr.alloc (.cells #[nilS, .pointer (some ⟨ei, 0, none⟩), .bool false, nilS] 81)).cell? ⟨w.heap.size, 3, none⟩ = some (.slice (some ⟨vb, 0, none⟩) 1 vc) := (blk_cell HI.out.box 3).trans rfl
   clear hr2 hcell HC hba
   go_wp2_with (first | (go_at_call 55; (with_reducible refine Calls.mono (HE.out.2.miss HR.out) ?_); rintro e w' ⟨rfl, rfl⟩) | (go_at_call 93; (with_reducible refine Calls.mono (HE.out.2.empty93 HR.out) ?_); rintro e w' ⟨rfl, rfl⟩))
   refine (HE.out.2.mapping193 HR.out).mono ?_
   rintro e w4 ⟨rfl, hb4⟩
   have HR := Lib.hid (HR.out.under hb4)
   have HE := Lib.hid (And.intro HE.out.1 (HE.out.2.under hb4))
   have HI := Lib.hid (HI.out.under hb4)
   clear x0 x1 x2 x3 hb4
   have x2 : w4.cell? ⟨w.heap.size, 2, none⟩ = some (.slice (some ⟨kb, 0, none⟩) 1 kc) := (blk_cell HI.out.box 2).trans rfl
   have x3 : w4.cell? ⟨w.heap.size, 3, none⟩ = some (.slice (some ⟨vb, 0, none⟩) 1 vc) := (blk_cell HI.out.box 3).trans rfl
   have k0 : w4.cell? ⟨kb, 0, none⟩ = some (.string nmKey) := (H.out.2.2.2.2.2.2.1.under HI.out.below).cell
   have v0 : w4.cell? ⟨vb, 0, none⟩ = some (.string v) := (H.out.2.2.2.2.2.2.2.1.under HI.out.below).cell
   go_wp2_with fail
   refine wp_loop_rounds 2 ?_
   rw [rounds_succ]
   go_wp2_with fail
   refine start_ (n := 20) (S := fun w' => w'.cell? ⟨w.heap.size, 2, none⟩ = some (.slice (some ⟨kb, 0, none⟩) 1 kc) ∧ w'.cell? ⟨w.heap.size, 3, none⟩ = some (.slice (some ⟨vb, 0, none⟩) 1 vc) ∧ w'.cell? ⟨kb, 0, none⟩ = some (.string nmKey) ∧ w'.cell? ⟨vb, 0, none⟩ = some (.string v)) (ds := []) #[false, false, false, false, false, false, false, false, false, false, false, false, false, false, false, false, false, false, false, false] (by kernel_rfl) rfl rfl ⟨x2, x3, k0, v0⟩ (fun hHeld => ?_)
   obtain ⟨W, hW⟩ : ∃ W, W = w4.drew := ⟨_, rfl⟩
   have hti := HI.out.under (below_drew (Below.refl w4.heap.size w4))
   rw [← hW] at hti
   have HI := Lib.hid hti
   clear hti
   have HE := Lib.hid (And.intro HE.out.1 (show NmB W ei s from hW ▸ HE.out.2.under (below_drew (Below.refl _ _))))
   have HR := Lib.hid (show RNB W wr.heap.size ei from hW ▸ HR.out.under (below_drew (Below.refl _ _)))
   rw [← hW] at hHeld ⊢
   clear hW
   refine pu 0 (some 76) (bl 20 1) ?_
   refine pu 1 (some 77) (bl 20 3) ?_
   refine pu 3 (some 79) (bl 20 11) ?_
   refine pu 6 (some 82) (bl 20 75) ?_
   refine pu 8 (some 84) (bl 20 331) ?_
   refine tk 2 (some 78) (bl 20 335) hHeld ?_
   refine pu 4 (some 80) (bl 20 351) ?_
   refine tk 5 (some 81) (bl 20 383) hHeld ?_
   refine tk 7 (some 83) (bl 20 511) hHeld ?_
   refine pu 9 (some 85) (bl 20 1023) ?_
   refine tk 10 (some 86) (bl 20 2047) hHeld ?_
   refine pu 11 (some 87) (bl 20 4095) ?_
   refine pu 12 (some 88) (bl 20 8191) ?_
   refine on_ 13 (some 89) (bl 20 16383) fun K hK => ?_
   refine value_ (w1 := ?_) (v := ?_) (by rfl) rfl ?_ ?_
   rotate_left 2
   ·go_simp
    constructor
    ·rfl
    ·rfl
   refine hK.out _ _ ⟨((below_alloc (Below.refl W.heap.size W) (.cells #[.iface 168 (.agg #[.string noStr, .string nmKey, .pointer none, .string v, .string noStr, .pointer none])] 135)).cell (World.block_lt_of_cell? _ _ hHeld.1)).trans hHeld.1, ((below_alloc (Below.refl W.heap.size W) (.cells #[.iface 168 (.agg #[.string noStr, .string nmKey, .pointer none, .string v, .string noStr, .pointer none])] 135)).cell (World.block_lt_of_cell? _ _ hHeld.2.1)).trans hHeld.2.1, ((below_alloc (Below.refl W.heap.size W) (.cells #[.iface 168 (.agg #[.string noStr, .string nmKey, .pointer none, .string v, .string noStr, .pointer none])] 135)).cell (World.block_lt_of_cell? _ _ hHeld.2.2.1)).trans hHeld.2.2.1, ((below_alloc (Below.refl W.heap.size W) (.cells #[.iface 168 (.agg #[.string noStr, .string nmKey, .pointer none, .string v, .string noStr, .pointer none])] 135)).cell (World.block_lt_of_cell? _ _ hHeld.2.2.2)).trans hHeld.2.2.2⟩ (fun hHeld => ?_)
   clear hK K
   refine nr (some 89) ?_
   refine on_ 14 (some 90) (bl 20 32767) fun K hK => ?_
   refine gs_ Tryz.func62 #[.pointer (some ⟨wr.heap.size, 0, none⟩), .slice (some ⟨W.heap.size, 0, none⟩) 1 1] ?_
   obtain ⟨C, kids, hma⟩ := (HE.out.2.under (below_alloc (Below.refl W.heap.size W) (.cells #[.iface 168 (.agg #[.string noStr, .string nmKey, .pointer none, .string v, .string noStr, .pointer none])] 135))).map
   refine (pipe1 (fun q w' => q.isSome = (s.toList == v.toList) ∧ Below (W.alloc (.cells #[.iface 168 (.agg #[.string noStr, .string nmKey, .pointer none, .string v, .string noStr, .pointer none])] 135)).heap.size (W.alloc (.cells #[.iface 168 (.agg #[.string noStr, .string nmKey, .pointer none, .string v, .string noStr, .pointer none])] 135)) w') _ (HR.out.under (below_alloc (Below.refl W.heap.size W) (.cells #[.iface 168 (.agg #[.string noStr, .string nmKey, .pointer none, .string v, .string noStr, .pointer none])] 135))) hma.node rfl (fb := W.heap.size) ((blk_cell (blk_new rfl _) 0).trans rfl) (meth195 _ _ _ _ _ _) enter195 ((match195s _ (HR.out.under (below_alloc (Below.refl W.heap.size W) (.cells #[.iface 168 (.agg #[.string noStr, .string nmKey, .pointer none, .string v, .string noStr, .pointer none])] 135))) (HE.out.2.under (below_alloc (Below.refl W.heap.size W) (.cells #[.iface 168 (.agg #[.string noStr, .string nmKey, .pointer none, .string v, .string noStr, .pointer none])] 135))) HVE.out).mono ?_)).mono ?_
   ·rintro e w' ⟨q, he, h1, h2⟩
    exact ⟨q, he, h1, h2⟩
   rintro e w6 ⟨q, rfl, hq, hb6⟩
   have HB6 := Lib.hid ((below_alloc (Below.refl W.heap.size W) (.cells #[.iface 168 (.agg #[.string noStr, .string nmKey, .pointer none, .string v, .string noStr, .pointer none])] 135)).trans (hb6.mono (below_alloc (Below.refl W.heap.size W) (.cells #[.iface 168 (.agg #[.string noStr, .string nmKey, .pointer none, .string v, .string noStr, .pointer none])] 135)).size))
   have HQ := Lib.hid hq
   clear hma hq
   refine ⟨_, rfl, ?_⟩
   refine hK.out _ _ ⟨(hb6.cell (World.block_lt_of_cell? _ _ hHeld.1)).trans hHeld.1, (hb6.cell (World.block_lt_of_cell? _ _ hHeld.2.1)).trans hHeld.2.1, (hb6.cell (World.block_lt_of_cell? _ _ hHeld.2.2.1)).trans hHeld.2.2.1, (hb6.cell (World.block_lt_of_cell? _ _ hHeld.2.2.2)).trans hHeld.2.2.2⟩ (fun hHeld => ?_)
   clear hK K
   refine nr (some 90) ?_
   refine pu 15 (some 75) (bl 20 65535) ?_
   refine pu 16 (some 91) (bl 20 131071) ?_
   refine pu 17 (some 92) (bl 20 262143) ?_
   refine pu 18 (some 12) (bl 20 524287) ?_
   refine pu 19 (some 13) (bl 20 1048575) ?_
   refine done_ (by kernel_rfl) ?_
   have HI6 := Lib.hid (HI.out.under HB6.out)
   clear hHeld x2 x3 k0 v0
   have y1 : w6.cell? ⟨w.heap.size, 1, none⟩ = some (.pointer (some ⟨el, 0, none⟩)) := (blk_cell HI6.out.box 1).trans rfl
   have y2 : w6.cell? ⟨w.heap.size, 2, none⟩ = some (.slice (some ⟨kb, 0, none⟩) 1 kc) := (blk_cell HI6.out.box 2).trans rfl
   have y3 : w6.cell? ⟨w.heap.size, 3, none⟩ = some (.slice (some ⟨vb, 0, none⟩) 1 vc) := (blk_cell HI6.out.box 3).trans rfl
   rcases q with _ | q
   ·have hmf2 : hasB (ns.take (j + 1)) v = mf := by
     rw [HMF.out, List.take_add_one, HE.out.1.1, Option.toList_some]
     unfold hasB
     rw [List.any_append]
     have h1 : (s.toList == v.toList) = false := HQ.out.symm
     simp [h1]
    have HM2 := Lib.hid hmf2
    clear hmf2
    go_wp2_with (at_builtin; refine list_app (base := w.heap.size) (by exact HI6.out.below.size) 83 69 (.pointer none) 8 [.pointer (some ⟨ei, 0, none⟩)] 1 rfl rfl rfl Tryz.underlying83 info69 rfl (by omega) _ j _ (by rfl) (by rfl) (by simp [Value.oneCell']) HI6.out.row (by omega) ?_; intro cv1 w7 hown1 hg1 hat1; have HPU := Lib.hid (TJ.push (x := ei) HI6.out HE.out.1.2 HE.out.1.1 (by rw [← HQ.out]; rfl) hown1 hg1); clear hown1 hg1 hat1)
    go_roundg (gk - 1)
    case measure => omega
    case rel => exact ⟨j + 1, by omega, by go_num, by rw [HM2.out], HPU⟩
   ·have hmf2 : hasB (ns.take (j + 1)) v = true := by
     refine hasB_yes ?_
     have hsv : s = v := toList_inj (beq_iff_eq.1 HQ.out.symm)
     rw [← hsv, List.take_add_one, HE.out.1.1]
     simp
    have HM2 := Lib.hid hmf2
    clear hmf2
    go_wp2_with fail
    rw [rounds_succ]
    go_wp2_with (at_builtin; refine list_app (base := w.heap.size) (by exact HI6.out.below.size) 83 69 (.pointer none) 8 [.pointer (some ⟨el, 0, none⟩)] 1 rfl rfl rfl Tryz.underlying83 info69 rfl (by omega) _ j _ (by rfl) (by rfl) (by simp [Value.oneCell']) HI6.out.row (by omega) ?_; intro cv1 w7 hown1 hg1 hat1; have HPU := Lib.hid (TJ.push (x := el) HI6.out HE.out.1.2 HE.out.1.1 (by rw [← HQ.out]; rfl) hown1 hg1); clear hown1 hg1 hat1)
    go_roundg (gk - 1)
    case measure => omega
    case rel => exact ⟨j + 1, by omega, by go_num, by rw [HM2.out], HPU⟩
  ·have hj2 : ¬ ((j : Int) < (n : Int)) := by omega
   have hj3 : ¬ (j < n) := by omega
   obtain rfl : j = n := by omega
   obtain ⟨A1, c1, rfl⟩ := own_slice HI.out.row
   have hrow := HI.out.row
   rw [List.take_of_length_le (by rw [setN_len H.out.2.2.2.2.2.1]; have := H.out.2.2.2.2.1; omega)] at hrow
   rw [List.take_of_length_le (by have h1 := H.out.2.2.2.2.1; have h2 := H.out.2.2.2.2.2.1; omega)]
   have hnw := H.out.2.1.under HI.out.below
   have c6 := hnw.c6
   have z6 := hnw.fz 6
   have HY := Lib.hid (ynode_some wr (H.out.1.under HI.out.below) hnw rfl)
   have hkS : Keep (fun k => k = b) wr (wr.setCell ⟨b, 6, none⟩ (.slice A1 j c1)) := (Keep.refl _ _).setCell _ _ fun _ => rfl
   have hbl := H.out.2.1.lt
   have hnS : NodeB (wr.setCell ⟨b, 6, none⟩ (.slice A1 j c1)) b 2 noStr noStr (.slice A1 j c1) := (blk_set hnw 6 _).trans (by simp only [List.setIfInBounds_toArray, List.set_cons_zero, List.set_cons_succ])
   have HS := Lib.hid (show (wr.setCell ⟨b, 6, none⟩ (.slice A1 j c1)).ownsRow w.heap.size 69 1 (.slice A1 j c1) j ((setN bs ns v el).map ptrV) ∧ NodeB (wr.setCell ⟨b, 6, none⟩ (.slice A1 j c1)) b 2 noStr noStr (.slice A1 j c1) ∧ NodeB (wr.setCell ⟨b, 6, none⟩ (.slice A1 j c1)) el 4 noStr noStr Cel ∧ Keep (fun k => k = b) w (wr.setCell ⟨b, 6, none⟩ (.slice A1 j c1)) from
    ⟨own_move hrow fun k e => hkS.block k (own_lt hrow k e) (fun e2 => by have := own_base hrow k e; omega), hnS, (hkS.block el ((H.out.2.2.2.2.2.2.2.2.1.under HI.out.below).lt) H.out.2.2.2.2.2.2.2.2.2).trans (H.out.2.2.2.2.2.2.2.2.1.under HI.out.below), (Keep.of_below HI.out.below _).trans hkS fun k _ h => h⟩)
   have HRW := Lib.hid (show RNB (wr.setCell ⟨b, 6, none⟩ (.slice A1 j c1)) r b ∧ (wr.setCell ⟨b, 6, none⟩ (.slice A1 j c1)).heap[w.heap.size]? = some (.cells #[.string noStr, .pointer (some ⟨el, 0, none⟩), .slice (some ⟨kb, 0, none⟩) 1 kc, .slice (some ⟨vb, 0, none⟩) 1 vc] 150 (0, 0)) from
    ⟨hkS.at_ (H.out.1.under HI.out.below) (by rintro rfl; have h1 := H.out.1; have h2 := H.out.2.1; unfold RNB at h1; unfold NodeB at h2; rw [h1] at h2; injection h2 with h2; injection h2 with _ h2; cases h2), hkS.at_ HI.out.box (by omega)⟩)
   obtain ⟨mf, hmf⟩ : ∃ mf, mf = hasB ns v := ⟨_, rfl⟩
   rw [← hmf]
   have HMF := Lib.hid hmf
   clear hrow hnw hkS hnS hmf
   have y1 : (wr.setCell ⟨b, 6, none⟩ (.slice A1 j c1)).cell? ⟨w.heap.size, 1, none⟩ = some (.pointer (some ⟨el, 0, none⟩)) := (blk_cell HRW.out.2 1).trans rfl
   go_wp2_with (go_at_call 42; (with_reducible refine Calls.mono HY.out ?_); rintro e w' ⟨rfl, rfl⟩)
   refine (newRNode _).mono ?_
   rintro e w2 ⟨rfl, rfl⟩
   obtain ⟨WT, hWT⟩ : ∃ WT, WT = (wr.setCell ⟨b, 6, none⟩ (.slice A1 j c1)).alloc (.cells #[nilS, .pointer (some ⟨el, 0, none⟩), .bool false, nilS] 81) := ⟨_, rfl⟩
   have hba := below_alloc (Below.refl (wr.setCell ⟨b, 6, none⟩ (.slice A1 j c1)).heap.size (wr.setCell ⟨b, 6, none⟩ (.slice A1 j c1))) (.cells #[nilS, .pointer (some ⟨el, 0, none⟩), .bool false, nilS] 81)
   have HWT := Lib.hid (show WT.ownsRow w.heap.size 69 1 (.slice A1 j c1) j ((setN bs ns v el).map ptrV) ∧ NodeB WT b 2 noStr noStr (.slice A1 j c1) ∧ NodeB WT el 4 noStr noStr Cel ∧ Keep (fun k => k = b) w WT from hWT ▸ ⟨HS.out.1.alloc _, HS.out.2.1.under hba, HS.out.2.2.1.under hba, HS.out.2.2.2.alloc _⟩)
   have HRT := Lib.hid (show RNB WT r b ∧ WT.heap[w.heap.size]? = some (.cells #[.string noStr, .pointer (some ⟨el, 0, none⟩), .slice (some ⟨kb, 0, none⟩) 1 kc, .slice (some ⟨vb, 0, none⟩) 1 vc] 150 (0, 0)) ∧ RNB WT wr.heap.size el from hWT ▸ ⟨HRW.out.1.under hba, blk_old _ HRW.out.2, blk_new (size_set _ _ _).symm _⟩)
   have HHT := Lib.hid hWT
   clear y1 c6 z6 hba hWT
   have HMS := Lib.hid (missing_no WT HRT.out.2.2 HWT.out.2.2.1 rfl (by decide +kernel))
   rw [← HHT.out]
   have y1 : WT.cell? ⟨w.heap.size, 1, none⟩ = some (.pointer (some ⟨el, 0, none⟩)) := (blk_cell HRT.out.2.1 1).trans rfl
   have y2 := HRT.out.1.cell1
   have y3 := HWT.out.2.1.c0
   have y4 := HWT.out.2.1.c6
   go_wp2_with fail
   refine HMS.out.mono ?_
   rintro e w' ⟨rfl, rfl⟩
   cases mf with
   | true =>
    go_wp2_with fail
    refine (newRNode _).mono ?_
    rintro e w9 ⟨rfl, rfl⟩
    go_wp2_with fail
    have hb9 := below_alloc (Below.refl WT.heap.size WT) (.cells #[nilS, .pointer (some ⟨el, 0, none⟩), .bool false, nilS] 81)
    refine bodyPost_ret (v := .tuple #[.pointer (some ⟨WT.heap.size, 0, none⟩), .nilIface]) (by simp [results, Tryz.results191, go_sem]) rfl ⟨_, .slice A1 j c1, setN bs ns v el, rfl, ?_, HWT.out.2.1.under hb9, ?_, HWT.out.2.2.2.alloc _⟩
    ·rw [← HMF.out]; rfl
    ·rw [setN_len H.out.2.2.2.2.2.1, ← H.out.2.2.2.2.1]; exact HWT.out.1.alloc _
   | false =>
    go_wp2_with fail
    refine start_ (n := 14) (S := fun w' => w'.cell? ⟨w.heap.size, 1, none⟩ = some (.pointer (some ⟨el, 0, none⟩)) ∧ w'.cell? ⟨r, 1, none⟩ = some (.pointer (some ⟨b, 0, none⟩)) ∧ w'.cell? ⟨b, 0, none⟩ = some (.int .u32 2) ∧ w'.cell? ⟨b, 6, none⟩ = some (.slice A1 j c1)) (ds := [10, 13]) #[false, false, false, false, false, false, false, false, false, false, false, false, false, false] (by kernel_rfl) rfl rfl ⟨y1, y2, y3, y4⟩ (fun hHeld => ?_)
    obtain ⟨W2, hW2⟩ : ∃ W2, W2 = WT.drew := ⟨_, rfl⟩
    have HW2 := Lib.hid (show W2.ownsRow w.heap.size 69 1 (.slice A1 j c1) j ((setN bs ns v el).map ptrV) ∧ NodeB W2 b 2 noStr noStr (.slice A1 j c1) ∧ NodeB W2 el 4 noStr noStr Cel ∧ Keep (fun k => k = b) w W2 from hW2 ▸ ⟨own_drew HWT.out.1, blk_drew HWT.out.2.1, blk_drew HWT.out.2.2.1, HWT.out.2.2.2.drew⟩)
    have HBX2 := Lib.hid (show W2.heap[w.heap.size]? = some (.cells #[.string noStr, .pointer (some ⟨el, 0, none⟩), .slice (some ⟨kb, 0, none⟩) 1 kc, .slice (some ⟨vb, 0, none⟩) 1 vc] 150 (0, 0)) from hW2 ▸ blk_drew HRT.out.2.1)
    rw [← hW2] at hHeld ⊢
    clear hW2
    refine pu 0 (some 129) (bl 14 1) ?_
    refine pu 2 (some 131) (bl 14 5) ?_
    refine pu 7 (some 136) (bl 14 133) ?_
    refine takeC_ (i := 1) (N := some 130) (v := ?_) (a' := ?_) (bl 14 135) rfl rfl (by kernel_rfl) (fun _ _ _ h => h) Tryz.func42 (by kernel_rfl) rfl #[.pointer (some ⟨r, 0, none⟩)] (by rfl) rfl (by simp only [List.map_toArray, List.map_cons, List.map_nil]; rfl) ?_ hHeld ?_ ?_
    rotate_left
    ·rintro w' ⟨s0, s1, s2, s3⟩
     exact ynode_c _ s1 s2 rfl
    rotate_left
    ·simp only [np]
     rfl
    refine takeC_ (i := 3) (N := some 132) (v := ?_) (a' := ?_) (bl 14 143) rfl rfl (by kernel_rfl) (fun _ _ _ h => h) Tryz.func42 (by kernel_rfl) rfl #[.pointer (some ⟨r, 0, none⟩)] (by rfl) rfl (by simp only [List.map_toArray, List.map_cons, List.map_nil]; rfl) ?_ hHeld ?_ ?_
    rotate_left
    ·rintro w' ⟨s0, s1, s2, s3⟩
     exact ynode_c _ s1 s2 rfl
    rotate_left
    ·simp only [np]
     rfl
    refine pu 4 (some 133) (bl 14 159) ?_
    refine pu 5 (some 134) (bl 14 191) ?_
    refine tk 6 (some 135) (bl 14 255) hHeld ?_
    refine tk 8 (some 137) (bl 14 511) hHeld ?_
    refine on_ 9 (some 138) (bl 14 1023) fun K hK => ?_
    refine value_ (w1 := ?_) (v := ?_) (by rfl) rfl ?_ ?_
    rotate_left 2
    ·go_simp
     constructor
     ·rfl
     ·rfl
    refine hK.out _ _ ⟨((below_alloc (Below.refl W2.heap.size W2) (.cells #[.pointer (some ⟨el, 0, none⟩)] 69)).cell (World.block_lt_of_cell? _ _ hHeld.1)).trans hHeld.1, ((below_alloc (Below.refl W2.heap.size W2) (.cells #[.pointer (some ⟨el, 0, none⟩)] 69)).cell (World.block_lt_of_cell? _ _ hHeld.2.1)).trans hHeld.2.1, ((below_alloc (Below.refl W2.heap.size W2) (.cells #[.pointer (some ⟨el, 0, none⟩)] 69)).cell (World.block_lt_of_cell? _ _ hHeld.2.2.1)).trans hHeld.2.2.1, ((below_alloc (Below.refl W2.heap.size W2) (.cells #[.pointer (some ⟨el, 0, none⟩)] 69)).cell (World.block_lt_of_cell? _ _ hHeld.2.2.2)).trans hHeld.2.2.2⟩ (fun hHeld => ?_)
    clear hK K
    refine nr (some 138) ?_
    refine ls_ 10 (some 139) (bl 14 2047) fun K hK => ?_
    refine step_app (base := w.heap.size) (by exact HW2.out.2.2.2.size) 83 69 (.pointer none) 8 [.pointer (some ⟨el, 0, none⟩)] 1 rfl (by rfl) (by rfl) Tryz.underlying83 info69 rfl (by omega) (.slice A1 j c1) j _ (by rfl) (by rfl) (by simp [Value.oneCell']) HW2.out.1 (by omega) ?_
    intro v1 w8 hown1 hg1 hat1
    obtain ⟨A2, c2, rfl⟩ := own_slice hown1
    have hnb8 : NodeB w8 b 2 noStr noStr (.slice A1 j c1) := (hg1.block b (by exact HW2.out.2.1.lt) (fun e => by have h1 := own_base HW2.out.1 b e.symm; have h2 := H.out.2.1.lt; omega)).trans HW2.out.2.1
    have c68 := hnb8.c6
    have z68 := hnb8.fz 6
    have HO8 := Lib.hid (And.intro hown1 (And.intro hg1 hnb8))
    clear hown1 hg1 hat1 hnb8
    refine hK.out _ _ ?_
    clear hK K
    refine nr (some 139) ?_
    refine pu 11 (some 140) (bl 14 4095) ?_
    refine pu 12 (some 141) (bl 14 8191) ?_
    refine ls_ 13 none (bl 14 16383) fun K hK => ?_
    refine skip_ (w1 := ?_) (by rfl) rfl ?_ ?_
    rotate_left
    ·go_simp
     rfl
    refine hK.out _ _ ?_
    clear hK K
    refine done_ (by kernel_rfl) ?_
    have hk8 : Keep (fun k => k = b) w8 (w8.setCell ⟨b, 6, none⟩ (.slice A2 (j + 1) c2)) := (Keep.refl _ _).setCell _ _ fun _ => rfl
    have hk82 : Keep (fun k => k = b ∨ (Value.slice A1 j c1).ownBlock = some k) w w8 := (HW2.out.2.2.2.mono fun k _ h => .inl h).trans ((Keep.refl _ W2).grown HO8.out.2.1 fun k _ h => h) fun k _ h => .inr h
    have hn9 : NodeB (w8.setCell ⟨b, 6, none⟩ (.slice A2 (j + 1) c2)) b 2 noStr noStr (.slice A2 (j + 1) c2) := (blk_set HO8.out.2.2 6 _).trans (by simp only [List.setIfInBounds_toArray, List.set_cons_zero, List.set_cons_succ])
    have HF := Lib.hid (show NodeB (w8.setCell ⟨b, 6, none⟩ (.slice A2 (j + 1) c2)) b 2 noStr noStr (.slice A2 (j + 1) c2) ∧ (w8.setCell ⟨b, 6, none⟩ (.slice A2 (j + 1) c2)).ownsRow w.heap.size 69 1 (.slice A2 (j + 1) c2) (j + 1) ((setN bs ns v el).map ptrV ++ [.pointer (some ⟨el, 0, none⟩)]) ∧ Keep (fun k => k = b) w (w8.setCell ⟨b, 6, none⟩ (.slice A2 (j + 1) c2)) from
     ⟨hn9, own_move HO8.out.1 fun k e => hk8.block k (own_lt HO8.out.1 k e) (fun e2 => by have := own_base HO8.out.1 k e; omega), (hk82.trans hk8 fun k _ h => .inl h).mono fun k hl h => h.elim id fun e => by have := own_base HW2.out.1 k e; omega⟩)
    have hbx8 : w8.heap[w.heap.size]? = some (.cells #[.string noStr, .pointer (some ⟨el, 0, none⟩), .slice (some ⟨kb, 0, none⟩) 1 kc, .slice (some ⟨vb, 0, none⟩) 1 vc] 150 (0, 0)) := (HO8.out.2.1.block _ (lt_of_block HBX2.out) (own_ne HW2.out.1 HBX2.out (by decide))).trans HBX2.out
    have z1 : (w8.setCell ⟨b, 6, none⟩ (.slice A2 (j + 1) c2)).cell? ⟨w.heap.size, 1, none⟩ = some (.pointer (some ⟨el, 0, none⟩)) := (blk_cell (hk8.at_ hbx8 (by omega)) 1).trans rfl
    clear hk8 hk82 hn9 hbl hbx8
    go_wp2_with fail
    refine (newRNode _).mono ?_
    rintro e w9 ⟨rfl, rfl⟩
    go_wp2_with fail
    have hb9 := below_alloc (Below.refl (w8.setCell ⟨b, 6, none⟩ (.slice A2 (j + 1) c2)).heap.size (w8.setCell ⟨b, 6, none⟩ (.slice A2 (j + 1) c2))) (.cells #[nilS, .pointer (some ⟨el, 0, none⟩), .bool false, nilS] 81)
    refine bodyPost_ret (v := .tuple #[.pointer (some ⟨w8.heap.size, 0, none⟩), .nilIface]) (by simp [results, Tryz.results191, go_sem]) rfl ⟨_, .slice A2 (j + 1) c2, bs ++ [el], rfl, ?_, HF.out.1.under hb9, ?_, HF.out.2.2.alloc _⟩
    ·rw [← HMF.out]; rfl
    ·have hsn : setN bs ns v el = bs := setN_no H.out.2.2.2.2.2.1 (by rw [← HMF.out])
     rw [List.length_append, List.length_singleton, ← H.out.2.2.2.2.1, List.map_append]
     have h9 := HF.out.2.1.alloc (.cells #[nilS, .pointer (some ⟨el, 0, none⟩), .bool false, nilS] 81)
     rw [hsn] at h9
     exact h9
def putL (st : List Nat × List ByteArray) (x : Nat × ByteArray) : List Nat × List ByteArray := if hasB st.2 x.2 then (setN st.1 st.2 x.2 x.1, st.2) else (st.1 ++ [x.1], st.2 ++ [x.2])
theorem putL_len {st : List Nat × List ByteArray} {x : Nat × ByteArray} (h : st.1.length = st.2.length) : (putL st x).1.length = (putL st x).2.length ∧ (putL st x).1.length ≤ st.1.length + 1 := by
 unfold putL
 split
 ·exact ⟨(setN_len h).trans h, by rw [setN_len h]; omega⟩
 ·simp [h]
def Nms (w : World) (bs : List Nat) (ns : List ByteArray) : Prop := ∀ (i : Nat) e s, bs[i]? = some e → ns[i]? = some s → NmB w e s
theorem Nms.under {w w' : World} {bs : List Nat} {ns : List ByteArray} (h : Nms w bs ns) (hb : Below w.heap.size w w') : Nms w' bs ns := fun i e s h1 h2 => (h i e s h1 h2).under hb
theorem NmB.keep {w w' : World} {T : Nat → Prop} {b : Nat} {s : ByteArray} (h : NmB w b s) (hk : Keep T w w') (ht : ∀ k, T k → ∃ tag val C, NodeB w k 2 tag val C) : NmB w' b s := by
 obtain ⟨C, kids, kid, tag, h1, h2, h3, h4⟩ := h
 have hn : ∀ (j : Nat) (k : Int) (tg vl : ByteArray) (Cj : Value), NodeB w j k tg vl Cj → k ≠ 2 → ¬ T j := fun j k tg vl Cj hj hne hT => by
  obtain ⟨t2, v2, C2, h⟩ := ht j hT
  unfold NodeB at h hj
  rw [h] at hj
  injection hj with hj
  injection hj with hj
  injection hj with hj
  injection hj with hj _
  injection hj with _ hj
  exact hne hj.symm
 obtain ⟨F, hrow⟩ := h1.row
 refine ⟨C, kids, kid, tag, ⟨h1.node.move (hk.block _ h1.node.lt (hn _ _ _ _ _ h1.node (by decide))), ⟨F, hrow.1, own_move hrow.2 fun k e => hk.block k (own_lt hrow.2 k e) (fun hT => ?_)⟩, fun c hc => (h1.keys c hc).move (hk.block _ (h1.keys c hc).lt (hn _ _ _ _ _ (h1.keys c hc) (by decide)))⟩, h2, h3.move (hk.block _ h3.lt (hn _ _ _ _ _ h3 (by decide))), h4⟩
 obtain ⟨t2, v2, C2, h⟩ := ht k hT
 obtain ⟨cells, hc⟩ := own_typed hrow.2 k e
 unfold NodeB at h
 rw [h] at hc
 injection hc with hc
 injection hc with _ hc
 cases hc
theorem Nms.putL {w : World} {st : List Nat × List ByteArray} {x : Nat × ByteArray} (h : Nms w st.1 st.2) (hl : st.1.length = st.2.length) (hx : NmB w x.1 x.2) : Nms w (putL st x).1 (putL st x).2 := by
 unfold Go.Proofs.YtghmajlfmoggfaaGreat.putL
 split
 ·intro i e s h1 h2
  have hlt : i < st.1.length := by
   have := (List.getElem?_eq_some_iff.1 h1).1
   rw [setN_len hl] at this
   exact this
  obtain ⟨b, hb⟩ : ∃ b, st.1[i]? = some b := ⟨_, List.getElem?_eq_getElem hlt⟩
  rw [setN_get hb h2] at h1
  injection h1 with h1
  by_cases hs : (s.toList == x.2.toList) = true
  ·rw [if_pos hs] at h1
   have : s = x.2 := toList_inj (beq_iff_eq.1 hs)
   rw [← h1, this]
   exact hx
  ·rw [if_neg hs] at h1
   rw [← h1]
   exact h i b s hb h2
 ·intro i e s h1 h2
  by_cases hi : i < st.1.length
  ·rw [List.getElem?_append_left hi] at h1
   rw [List.getElem?_append_left (by omega)] at h2
   exact h i e s h1 h2
  ·rw [List.getElem?_append_right (by omega)] at h1 h2
   have hz : i - st.1.length = 0 := by have := (List.getElem?_eq_some_iff.1 h1).1; simp only [List.length_singleton] at this; omega
   rw [hz] at h1
   rw [← hl, hz] at h2
   injection h1 with h1
   injection h2 with h2
   rw [← h1, ← h2]
   exact hx
theorem NmB.get {w : World} {r b : Nat} {s : ByteArray} (h : NmB w b s) (hr : RNB w r b) : Calls Tryz.prog 195 #[.agg #[.string noStr, .string nmKey, .pointer none, .string noStr, .string noStr, .pointer none], .pointer (some ⟨r, 0, none⟩)] w fun e w' => ∃ q, e = .returned (.tuple #[.pointer q, .nilIface]) ∧ (∃ vr cb tag, q = some ⟨vr, 0, none⟩ ∧ RNB w' vr cb ∧ NodeB w' cb 8 tag s nilS) ∧ Below w.heap.size w w' := by
 obtain ⟨C, kids, kid, tag, h1, h2, h3, h4⟩ := h
 refine (match_key (name := nmKey) w hr h1 (by decide +kernel)).mono ?_
 rintro e w' ⟨q, he, hb, hf⟩
 obtain ⟨vr, h5, h6⟩ := hf.2 kid h2
 exact ⟨q, he, ⟨vr, kid.cb, tag, h5, h6, h3.under hb⟩, hb⟩
theorem S1.keep {w w' : World} {T : Nat → Prop} {v : Value} {s : ByteArray} (h : S1 w v s) (hk : Keep T w w') (ht : ∀ k, T k → ∃ tag val C, NodeB w k 2 tag val C) : S1 w' v s := by
 obtain ⟨g, c, cs, h1, h2, h3, h4⟩ := h
 refine ⟨g, c, cs, h1, h2, hk.at_ h3 (fun hT => ?_), h4⟩
 obtain ⟨t2, v2, C2, h⟩ := ht g hT
 unfold NodeB at h
 rw [h] at h3
 injection h3 with h3
 injection h3 with _ h3
 cases h3
theorem PRow.keepb {w w' : World} {T F : Nat → Prop} {C : Value} {ps : List Nat} (h : PRow w F C ps) (hk : Keep T w w') (ht : ∀ k, T k → ∃ tag val C, NodeB w k 2 tag val C) : PRow w' F C ps := by
 refine ⟨h.1, own_move h.2 fun k e => hk.block k (own_lt h.2 k e) (fun hT => ?_)⟩
 obtain ⟨t2, v2, C2, hn⟩ := ht k hT
 obtain ⟨cells, hc⟩ := own_typed h.2 k e
 unfold NodeB at hn
 rw [hn] at hc
 injection hc with hc
 injection hc with _ hc
 cases hc
theorem enter191 (args : Array Value) (w : World) : Sem.run Tryz.prog (callFunc 191 args) w = .ok (.enter 191 args) w := enterFn Tryz.func191 (by kernel_rfl) rfl args w
theorem meth191 (a0 a1 a2 a3 : Value) (w : World) : Sem.run Tryz.prog (method 345 150 (.agg #[a0, a1, a2, a3]) "Filter") w = .ok (191, .agg #[a0, a1, a2, a3]) w := by kernel_rfl
theorem own_zero {w : World} {base n : Nat} {e : TypeId} {v : Value} {xs : List Value} (h : w.ownsRow base e 1 v n xs) : w.ownsRow 0 e 1 v n xs := by
 obtain ⟨h1, h | ⟨g, cap, cur, rfl, hb, h⟩⟩ := h
 ·exact ⟨h1, .inl h⟩
 ·exact ⟨h1, .inr ⟨g, cap, cur, rfl, Nat.zero_le _, h⟩⟩
theorem putAll_len {l : List (Nat × ByteArray)} {st : List Nat × List ByteArray} : (l.foldl putL st).1.length ≤ st.1.length + l.length := by
 induction l generalizing st with
 | nil => simp
 | cons a r ih =>
  simp only [List.foldl_cons, List.length_cons]
  have h1 := ih (st := putL st a)
  have h2 : (putL st a).1.length ≤ st.1.length + 1 := by
   unfold putL
   split
   ·unfold setN
    rw [List.length_zipWith]
    have := Nat.min_le_left st.1.length st.2.length
    omega
   ·simp
  omega
structure PL (w : World) (b : Nat) (C0 : Value) (st : List Nat × List ByteArray) (wr : World) : Prop where
 keep : Keep (fun k => k = b) w wr
 list : ∃ C, ListAt wr b C st.1 ∧ (C.ownBlock = C0.ownBlock ∨ ∀ k, C.ownBlock = some k → w.heap.size ≤ k)
 len : st.1.length = st.2.length
 nms : Nms wr st.1 st.2
theorem PL.under {w wr wr' : World} {b : Nat} {C0 : Value} {st : List Nat × List ByteArray} (h : PL w b C0 st wr) (hb : Below wr.heap.size wr wr') : PL w b C0 st wr' := by
 obtain ⟨C, h1, h2⟩ := h.list
 exact ⟨h.keep.then hb, ⟨C, h1.under hb, h2⟩, h.len, h.nms.under hb⟩
def PutQ (w : World) (rd b : Nat) (C0 : Value) (st : List Nat × List ByteArray) (e : Ending) (w' : World) : Prop := e = .returned (.tuple #[.pointer (some ⟨rd, 0, none⟩), .nilIface]) ∧ PL w b C0 st w'
set_option maxRecDepth 20000 in
set_option maxHeartbeats 8000000 in
theorem append96 {rd b ri bi : Nat} {C0 Ci kv : Value} {bs E : List Nat} {nd N : List ByteArray} (w : World) (hr : RNB w rd b) (hl : ListAt w b C0 bs) (hlen : bs.length + E.length ≤ 1000) (hn : bs.length = nd.length) (hel : Nms w bs nd) (hri : RNB w ri bi) (hli : ListAt w bi Ci E) (hni : E.length = N.length) (heli : Nms w E N) (hNe : ∀ s ∈ N, s.toList.isEmpty = false) (hbb : bi ≠ b) (hk : S1 w kv nmKey) :
  Calls Tryz.prog 96 #[.pointer (some ⟨rd, 0, none⟩), .pointer (some ⟨ri, 0, none⟩), kv] w fun e w' => PutQ w rd b C0 ((E.zip N).foldl putL (bs, nd)) e w' := by
 obtain ⟨F, hrow⟩ := hli.row
 obtain ⟨A, c, rfl, hc, _⟩ := hrow.slice
 obtain ⟨n, hnn⟩ : ∃ n, n = E.length := ⟨_, rfl⟩
 rw [← hnn] at hc hrow
 have hnode := hli.node
 rw [← hnn] at hnode
 have H := Lib.hid (And.intro hr (And.intro hnode (And.intro hrow (And.intro heli (And.intro hnn (And.intro hni (And.intro hk (And.intro hNe (And.intro hri (And.intro hbb (And.intro hlen hl.node)))))))))))
 have hn2 : (n : Int) ≤ 1000 := by omega
 obtain ⟨kb, kc, _, rfl, hkc, _, _⟩ := hk
 have hkc1 : 0 < kc := by omega
 have HP0 := Lib.hid (show PL w b C0 (bs, nd) w from ⟨Keep.refl _ _, ⟨C0, hl, .inl rfl⟩, hn, hel⟩)
 have HCI := Lib.hid (content_some w hri hnode rfl)
 clear hr hl hlen hn hel hri hli hni heli hNe hbb hrow hnode hnn hkc
 go_enter Tryz.func96, Tryz.ntmps96
 go_wp2_with (go_at_call 79; (with_reducible refine Calls.mono HCI.out ?_); rintro e w' ⟨rfl, rfl⟩)
 clear HCI
 go_loopg [20] n (fun k i wr => ∃ j : Nat, j + k = n ∧ i = .int .i64 (j : Int) ∧ Hid (PL w b C0 (((E.zip N).take j).foldl putL (bs, nd)) wr))
 case atStart => exact ⟨0, by omega, rfl, HP0⟩
 case round =>
  obtain ⟨j, hj, rfl, HI⟩ := hrel
  by_cases hlt : 1 ≤ gk
  ·have hj2 : (j : Int) < (n : Int) := by omega
   have hj3 : j < n := by omega
   have hj4 : j < c := by omega
   obtain ⟨ei, hb⟩ : ∃ ei, E[j]? = some ei := ⟨_, List.getElem?_eq_getElem (by have := H.out.2.2.2.2.1; omega)⟩
   obtain ⟨s, hs⟩ : ∃ s, N[j]? = some s := ⟨_, List.getElem?_eq_getElem (by have h1 := H.out.2.2.2.2.1; have h2 := H.out.2.2.2.2.2.1; omega)⟩
   have ht : ∀ k, k = b → ∃ tag val C, NodeB w k 2 tag val C := fun k hk => ⟨_, _, _, hk ▸ H.out.2.2.2.2.2.2.2.2.2.2.2⟩
   obtain ⟨g, rfl, hcell⟩ := (H.out.2.2.1.keepb HI.out.keep ht).cell j ei hb
   have hk1 := H.out.2.2.2.2.2.2.1.keep HI.out.keep ht
   have hk0 := hk1.cell
   have HE := Lib.hid (And.intro (And.intro hb hs) (And.intro ((H.out.2.2.2.1 j ei s hb hs).keep HI.out.keep ht) (And.intro hk1 (H.out.2.2.2.2.2.2.2.1 s (List.mem_of_getElem? hs)))))
   clear hb hs hk1 ht
   go_wp2_with fail
   refine wp_loop_rounds 2 ?_
   rw [rounds_succ]
   have hk0' : (wr.alloc (.cells #[] 9)).cell? ⟨kb, 0, none⟩ = some (.string nmKey) := (HE.out.2.2.1.under (below_alloc (Below.refl _ _) _)).cell
   go_wp2_with fail
   refine (newRNode _).mono ?_
   rintro e w2 ⟨rfl, rfl⟩
   obtain ⟨W1, hW1⟩ : ∃ W1, W1 = (wr.alloc (.cells #[] 9)).alloc (.cells #[nilS, .pointer (some ⟨ei, 0, none⟩), .bool false, nilS] 81) := ⟨_, rfl⟩
   have hb1 : Below wr.heap.size wr W1 := hW1 ▸ below_alloc (below_alloc (Below.refl _ _) _) _
   have HW1 := Lib.hid (show Below wr.heap.size wr W1 ∧ W1.heap[wr.heap.size]? = some (.cells #[] 9 (0, 0)) ∧ RNB W1 (wr.heap.size + 1) ei from ⟨hb1, hW1 ▸ blk_old _ (blk_new rfl _), hW1 ▸ blk_new (by simp) _⟩)
   have HWE := Lib.hid hW1
   clear hb1 hW1 hk0 hk0' hcell
   rw [← HWE.out]
   go_wp2_with fail
   refine (get112 _).mono ?_
   rintro e w3 ⟨rfl, hb3⟩
   have HB3 := Lib.hid hb3
   clear hb3
   go_wp2_with fail
   have hb4 : Below W1.heap.size W1 (w3.alloc (.cells #[.iface 168 (.agg #[.string noStr, .string nmKey, .pointer none, .string noStr, .string noStr, .pointer none])] 135)) := below_alloc HB3.out _
   have hb4r := HW1.out.1.trans (hb4.mono HW1.out.1.size)
   obtain ⟨Cm, kidsm, hma⟩ := (HE.out.2.1.under hb4r).map
   refine (pipe1 (fun q w' => (∃ vr cb tag, q = some ⟨vr, 0, none⟩ ∧ RNB w' vr cb ∧ NodeB w' cb 8 tag s nilS) ∧ Below W1.heap.size W1 w') _ (HW1.out.2.2.under hb4) hma.node rfl (fb := w3.heap.size) ((blk_cell (blk_new rfl _) 0).trans rfl) (meth195 _ _ _ _ _ _) enter195 (((HE.out.2.1.under hb4r).get (HW1.out.2.2.under hb4)).mono ?_)).mono ?_
   ·rintro e w' ⟨q, he, h1, h2⟩
    exact ⟨q, he, h1, hb4.trans (h2.mono hb4.size)⟩
   rintro e w5 ⟨q, rfl, ⟨vr, cb, tag, rfl, hvr, hcb⟩, hb5⟩
   have HB5 := Lib.hid (And.intro hb5 (And.intro hvr hcb))
   have HYN := Lib.hid (And.intro (isNil_some w5 hvr hcb rfl) (ynode_some w5 hvr hcb rfl))
   have hc3 := hcb.c3
   have he5 : w5.heap[wr.heap.size]? = some (.cells #[] 9 (0, 0)) := (hb5.block _ (lt_of_block HW1.out.2.1)).trans HW1.out.2.1
   have HE5 := Lib.hid (And.intro he5 (HW1.out.1.trans (hb5.mono HW1.out.1.size)))
   clear hma hb4 hb4r hb5 hvr hcb he5
   go_wp2_with (first | (go_at_call 72; (with_reducible refine Calls.mono HYN.out.1 ?_); rintro e w' ⟨rfl, rfl⟩) | (go_at_call 42; (with_reducible refine Calls.mono HYN.out.2 ?_); rintro e w' ⟨rfl, rfl⟩) | (at_builtin; refine list_app (base := wr.heap.size) (by exact HE5.out.2.size) 22 9 (.string ⟨#[]⟩) 16 [.string s] 1 rfl rfl rfl Tryz.underlying22 info9 rfl (by omega) _ 0 [] (by rfl) (by rfl) (by simp [Value.oneCell']) (own_empty' HE5.out.1 (Nat.le_refl _)) (by omega) ?_; intro v1 w6 hown1 hg1 hat1; have hv1 := S1.of_own hown1; have HO1 := Lib.hid hv1; obtain ⟨gv, cv, csv, rfl, _, _, _⟩ := hv1; have HG1 := Lib.hid (show Below wr.heap.size wr w6 from HE5.out.2.trans (((Keep.refl _ w5).grown hg1 fun k _ h => h).below HE5.out.2.size fun k _ e => own_base (own_empty' HE5.out.1 (Nat.le_refl _)) k e)); clear hown1 hg1 hat1))
   rw [rounds_succ]
   go_wp2_with fail
   obtain ⟨W7, hW7⟩ : ∃ W7, W7 = w6.alloc (.cells #[.iface 150 (.agg #[.string noStr, .pointer (some ⟨ei, 0, none⟩), .slice (some ⟨kb, 0, none⟩) 1 kc, .slice (some ⟨gv, 0, none⟩) 1 cv])] 135) := ⟨_, rfl⟩
   have hb7 : Below wr.heap.size wr W7 := hW7 ▸ below_alloc HG1.out _
   have hp7 := HI.out.under hb7
   have hcell7 : W7.cell? ⟨w6.heap.size, 0, none⟩ = some (.iface 150 (.agg #[.string noStr, .pointer (some ⟨ei, 0, none⟩), .slice (some ⟨kb, 0, none⟩) 1 kc, .slice (some ⟨gv, 0, none⟩) 1 cv])) := hW7 ▸ (blk_cell (blk_new rfl _) 0).trans rfl
   have hb67 : Below w6.heap.size w6 W7 := hW7 ▸ below_alloc (Below.refl _ _) _
   obtain ⟨Cl, hla, hown⟩ := hp7.list
   have ht : ∀ k, k = b → ∃ tag val C, NodeB w k 2 tag val C := fun k hk => ⟨_, _, _, hk ▸ H.out.2.2.2.2.2.2.2.2.2.2.2⟩
   have hrd7 : RNB W7 rd b := hp7.keep.at_ H.out.1 (by
    rintro rfl
    have h1 := H.out.1
    have h2 := H.out.2.2.2.2.2.2.2.2.2.2.2
    unfold RNB at h1
    unfold NodeB at h2
    rw [h1] at h2
    injection h2 with h2
    injection h2 with _ h2
    cases h2)
   have hei7 := HE.out.2.1.under hb7
   obtain ⟨Ce, kidse, hmae⟩ := hei7.map
   have hneb : ei ≠ b := by
    rintro rfl
    have h1 := hmae.node
    have h2 := hla.node
    unfold NodeB at h1 h2
    rw [h1] at h2
    injection h2 with h2
    injection h2 with h2
    injection h2 with h2
    injection h2 with h2 _
    injection h2 with _ h2
    revert h2
    decide
   have hlen7 : (((E.zip N).take j).foldl putL (bs, nd)).1.length ≤ 1000 := by
    have h1 := putAll_len (l := (E.zip N).take j) (st := (bs, nd))
    have h2 := List.length_take_le j (E.zip N)
    have h3 := H.out.2.2.2.2.1
    have h4 := H.out.2.2.2.2.2.2.2.2.2.2.1
    simp only at h1
    omega
   have hset := setter191 (el := ei) (v := s) W7 hrd7 hla hlen7 hp7.len hp7.nms (HE.out.2.2.1.under hb7) (HO1.out.under hb67) HE.out.2.2.2 hmae.node hneb
   have hzip : (E.zip N)[j]? = some (ei, s) := List.getElem?_zip_eq_some.2 HE.out.1
   have HST := Lib.hid (And.intro hset (And.intro hp7 (And.intro hown (And.intro hei7 (And.intro hzip hb7)))))
   have hpn := hla.node
   have HPI := Lib.hid (pipe1 (fun q w' => SetQ W7 b (((E.zip N).take j).foldl putL (bs, nd)).1 (((E.zip N).take j).foldl putL (bs, nd)).2 s ei (.returned (.tuple #[.pointer q, .nilIface])) w') W7 hrd7 hpn rfl (fb := w6.heap.size) hcell7 (meth191 _ _ _ _) enter191 (hset.mono fun e w' h => by
    obtain ⟨q, C', L, h1, h2⟩ := h
    subst h1
    exact ⟨q, rfl, q, C', L, rfl, h2⟩))
   have HW7 := Lib.hid hW7
   clear hb7 hp7 hcell7 hb67 hla hown ht hrd7 hei7 hmae hneb hlen7 hset hzip hpn hW7
   rw [← HW7.out]
   refine HPI.out.mono ?_
   rintro e w8 ⟨q, rfl, hq⟩
   have HQ := Lib.hid hq
   clear hq
   go_wp2_with fail
   go_roundg (gk - 1)
   case measure => omega
   case rel =>
    obtain ⟨q', C', L, _, hL, hnb, hown8, hk8⟩ := HQ.out
    refine ⟨j + 1, by omega, by go_num, Lib.hid ?_⟩
    rw [List.take_add_one, HST.out.2.2.2.2.1, Option.toList_some, List.foldl_append]
    have ht7 : ∀ k, k = b → ∃ tag val C, NodeB W7 k 2 tag val C := fun k hk => by
     obtain ⟨Cl, hla, _⟩ := HST.out.2.1.list
     exact ⟨_, _, _, hk ▸ hla.node⟩
    have hL' : L = (putL (((E.zip N).take j).foldl putL (bs, nd)) (ei, s)).1 := by
     rw [hL]
     unfold putL
     split <;> rfl
    refine ⟨HST.out.2.1.keep.trans hk8 fun k _ h => h, ⟨C', ?_, .inr fun k e => Nat.le_trans HST.out.2.1.keep.size (own_base hown8 k e)⟩, (putL_len HST.out.2.1.len).1, ?_⟩
    ·show ListAt w8 b C' (putL (((E.zip N).take j).foldl putL (bs, nd)) (ei, s)).1
     rw [← hL']
     exact ⟨hnb, fun _ => True, fun _ _ => trivial, own_zero hown8⟩
    ·intro i e t h1 h2
     exact ((Nms.putL (x := (ei, s)) HST.out.2.1.nms HST.out.2.1.len HST.out.2.2.2.1) i e t h1 h2).keep hk8 ht7
  ·have hj2 : ¬ ((j : Int) < (n : Int)) := by omega
   have hj3 : ¬ (j < n) := by omega
   have hp := HI.out
   rw [List.take_of_length_le (by rw [List.length_zip]; have := H.out.2.2.2.2.1; have := Nat.min_le_left E.length N.length; omega)] at hp
   have HP := Lib.hid hp
   clear hp
   go_wp2_with fail
   refine bodyPost_ret (v := .tuple #[.pointer (some ⟨rd, 0, none⟩), .nilIface]) (by simp [results, Tryz.results96, go_sem]) rfl ⟨rfl, HP.out⟩
def NoP (w : World) (b : Nat) : Prop := ∃ C kids, MapAt w b C kids ∧ kids.find? (hasKey patchKey) = none
theorem NoP.under {w w' : World} {b : Nat} (h : NoP w b) (hb : Below w.heap.size w w') : NoP w' b := by
 obtain ⟨C, kids, h1, h2⟩ := h
 exact ⟨C, kids, h1.under hb, h2⟩
theorem NoP.err56 {w : World} {r b : Nat} (h : NoP w b) (hr : RNB w r b) : Calls Tryz.prog 56 #[.pointer (some ⟨r, 0, none⟩), .int .u32 4] w fun e w' => e = .returned .nilIface ∧ w = w' := by
 obtain ⟨C, kids, h1, _⟩ := h
 obtain ⟨F, hrow⟩ := h1.row
 obtain ⟨A, c, rfl, hc, hcm⟩ := hrow.slice
 have h2 := two_length kids
 exact errInv_map w hr h1.node (by decide +kernel) (by rw [bne_eq_false_iff_eq]; omega) (by unfold maxLen at hcm; omega)
theorem NoP.get {w : World} {r b : Nat} (h : NoP w b) (hr : RNB w r b) : Calls Tryz.prog 195 #[.agg #[.string noStr, .string patchKey, .pointer none, .string noStr, .string noStr, .pointer none], .pointer (some ⟨r, 0, none⟩)] w fun e w' => ∃ q, e = .returned (.tuple #[.pointer q, .nilIface]) ∧ q = none ∧ Below w.heap.size w w' := by
 obtain ⟨C, kids, h1, h2⟩ := h
 refine (match_key (name := patchKey) w hr h1 (by decide +kernel)).mono ?_
 rintro e w' ⟨q, he, hb, hf⟩
 exact ⟨q, he, hf.1 h2, hb⟩
set_option maxHeartbeats 1000000 in
theorem keyList170 (w : World) : Calls Tryz.prog 170 #[.string patchKey] w fun e w' => ∃ kb kc, e = .returned (.agg #[.string noStr, .slice (some ⟨kb, 0, none⟩) 1 kc, .slice none 0 0, .pointer none, .bool true]) ∧ S1 w' (.slice (some ⟨kb, 0, none⟩) 1 kc) patchKey ∧ Below w.heap.size w w' := by
 go_enter Tryz.func170, Tryz.ntmps170
 go_wp2_with fail
 have hx : ((w.alloc (.cells #[.string noStr, .slice (some ⟨w.heap.size + 1, 0, none⟩) 1 1, .slice none 0 0, .pointer none, .bool true] 179)).alloc (.cells #[.string patchKey] 9)).heap[w.heap.size]? = some (.cells #[.string noStr, .slice (some ⟨w.heap.size + 1, 0, none⟩) 1 1, .slice none 0 0, .pointer none, .bool true] 179 (0, 0)) := blk_old _ (blk_new rfl _)
 refine bodyPost_ret (results_cell_row rfl _ _ w.heap.size 179 #[.string noStr, .slice (some ⟨w.heap.size + 1, 0, none⟩) 1 1, .slice none 0 0, .pointer none, .bool true] (0, 0) _ rfl hx Tryz.underlying179 rfl (by kernel_rfl)) rfl ⟨w.heap.size + 1, 1, rfl, ⟨w.heap.size + 1, 1, #[.string patchKey], rfl, Nat.le_refl _, blk_new (World.size_alloc _ _).symm _, rfl⟩, below_alloc (below_alloc (Below.refl _ _) _) _⟩
set_option maxRecDepth 20000 in
set_option maxHeartbeats 8000000 in
theorem matcherAny201 {r b kb kc : Nat} {C : Value} {bs : List Nat} (w : World) (hr : RNB w r b) (hl : ListAt w b C bs) (hlen : bs.length ≤ 1000) (hel : ∀ e ∈ bs, NoP w e) (hk : S1 w (.slice (some ⟨kb, 0, none⟩) 1 kc) patchKey) (hkc : 1 ≤ kc) :
  Calls Tryz.prog 201 #[.agg #[.string noStr, .slice (some ⟨kb, 0, none⟩) 1 kc, .slice none 0 0, .pointer none, .bool true], .pointer (some ⟨r, 0, none⟩)] w fun e w' => ∃ q, e = .returned (.tuple #[.pointer q, .nilIface]) ∧ q = none ∧ Below w.heap.size w w' := by
 obtain ⟨F, hrow⟩ := hl.row
 obtain ⟨A, c, rfl, hc, _⟩ := hrow.slice
 obtain ⟨n, hnn⟩ : ∃ n, n = bs.length := ⟨_, rfl⟩
 rw [← hnn] at hc hrow
 have hnode := hl.node
 rw [← hnn] at hnode
 have H := Lib.hid (And.intro hr (And.intro hnode (And.intro hrow (And.intro hel (And.intro hnn hk)))))
 have hn2 : (n : Int) ≤ 1000 := by omega
 have hkc1 : 0 < kc := by omega
 clear hr hl hnode hrow hlen hel hnn hk hkc
 go_enter Tryz.func201, Tryz.ntmps201
 go_wp2_with fail
 obtain ⟨vc, hvc⟩ : ∃ vc, vc = (Question.appendCap 1 0 9).cut (w.tape w.drawn (Question.appendCap 1 0 9)) := ⟨_, rfl⟩
 rw [← hvc]
 clear hvc
 obtain ⟨vb, hvb⟩ : ∃ vb, vb = w.heap.size + 1 + 1 := ⟨_, rfl⟩
 rw [← hvb]
 obtain ⟨W0, hW0⟩ : ∃ W0, W0 = (((w.alloc (.cells #[.string noStr, .slice (some ⟨kb, 0, none⟩) 1 kc, .slice (some ⟨vb, 0, none⟩) 1 vc, .pointer none, .bool true] 179)).alloc (.cells #[.string noStr] 9)).alloc (.cells (#[.string noStr] ++ Builtin.zeroCells #[.string noStr] (vc - 1)) 9)).drew := ⟨_, rfl⟩
 have HI0 := Lib.hid (show MI9 w #[.string noStr, .slice (some ⟨kb, 0, none⟩) 1 kc, .slice (some ⟨vb, 0, none⟩) 1 vc, .pointer none, .bool true] W0 from hW0 ▸ ⟨below_drew (below_alloc (below_alloc (below_alloc (Below.refl _ _) _) _) _), blk_drew (blk_old _ (blk_old _ (blk_new rfl _)))⟩)
 have HV0 := Lib.hid (show W0.cell? ⟨vb, 0, none⟩ = some (.string noStr) from by
  rw [hW0]
  have hh := heap_alloc_new ((w.alloc (.cells #[.string noStr, .slice (some ⟨kb, 0, none⟩) 1 kc, .slice (some ⟨vb, 0, none⟩) 1 vc, .pointer none, .bool true] 179)).alloc (.cells #[.string noStr] 9)) (.cells (#[.string noStr] ++ Builtin.zeroCells #[.string noStr] (vc - 1)) 9)
  rw [World.size_alloc, World.size_alloc, ← hvb] at hh
  refine (blk_cell (blk_drew hh) 0).trans ?_
  rw [Array.getElem?_append_left (show 0 < (#[Value.string noStr] : Array Value).size by decide)]
  rfl)
 have HH := Lib.hid hW0
 clear hW0 hvb
 have hgoal : (((w.alloc (.cells #[.string noStr, .slice (some ⟨kb, 0, none⟩) 1 kc, .slice (some ⟨vb, 0, none⟩) 1 vc, .pointer none, .bool true] 179)).alloc (.cells #[.string noStr] 9)).alloc (.cells (#[.string noStr] ++ Builtin.zeroCells #[.string noStr] (vc - 1)) 9)).drew = W0 := HH.out.symm
 rw [hgoal]
 clear hgoal
 have x1 : W0.cell? ⟨w.heap.size, 1, none⟩ = some (.slice (some ⟨kb, 0, none⟩) 1 kc) := (blk_cell HI0.out.box 1).trans rfl
 have x2 : W0.cell? ⟨w.heap.size, 2, none⟩ = some (.slice (some ⟨vb, 0, none⟩) 1 vc) := (blk_cell HI0.out.box 2).trans rfl
 have x4 : W0.cell? ⟨w.heap.size, 4, none⟩ = some (.bool true) := (blk_cell HI0.out.box 4).trans rfl
 have k0 : W0.cell? ⟨kb, 0, none⟩ = some (.string patchKey) := (H.out.2.2.2.2.2.under HI0.out.below).cell
 have v0 := HV0.out
 refine (errInv_eq _ (H.out.1.under HI0.out.below) (H.out.2.1.under HI0.out.below) rfl rfl (by decide +kernel)).mono ?_
 rintro e w2 ⟨rfl, rfl⟩
 go_wp2_with (go_at_call 79; (with_reducible refine Calls.mono (content_some _ (H.out.1.under HI0.out.below) (H.out.2.1.under HI0.out.below) rfl) ?_); rintro e w' ⟨rfl, rfl⟩)
 clear x1 x2 x4 k0 v0
 go_loopg [109] n (fun k i wr => ∃ j : Nat, j + k = n ∧ i = .int .i64 (j : Int) ∧ Hid (MI9 w #[.string noStr, .slice (some ⟨kb, 0, none⟩) 1 kc, .slice (some ⟨vb, 0, none⟩) 1 vc, .pointer none, .bool true] wr))
 case atStart => exact ⟨0, by omega, rfl, HI0⟩
 case round =>
  obtain ⟨j, hj, rfl, HI⟩ := hrel
  by_cases hlt : 1 ≤ gk
  ·have hj2 : (j : Int) < (n : Int) := by omega
   have hj3 : j < n := by omega
   have hj4 : j < c := by omega
   have HC := Lib.hid (content_some wr (H.out.1.under HI.out.below) (H.out.2.1.under HI.out.below) rfl)
   obtain ⟨el, hb⟩ : ∃ el, bs[j]? = some el := ⟨_, List.getElem?_eq_getElem (by have := H.out.2.2.2.2.1; omega)⟩
   obtain ⟨g, rfl, hcell⟩ := (H.out.2.2.1.under HI.out.below).cell j el hb
   have HE := Lib.hid (H.out.2.2.2.1 el (List.mem_of_getElem? hb))
   clear hb
   go_wp2_with (go_at_call 79; (with_reducible refine Calls.mono HC.out ?_); rintro e w' ⟨rfl, rfl⟩)
   refine (newRNode _).mono ?_
   rintro e w2 ⟨rfl, rfl⟩
   have hba := below_alloc (Below.refl wr.heap.size wr) (.cells #[nilS, .pointer (some ⟨el, 0, none⟩), .bool false, nilS] 81)
   obtain ⟨W1, hW1⟩ : ∃ W1, W1 = (wr.alloc (.cells #[nilS, .pointer (some ⟨el, 0, none⟩), .bool false, nilS] 81)) := ⟨_, rfl⟩
   have HR := Lib.hid (show RNB W1 wr.heap.size el from hW1 ▸ blk_new rfl _)
   have hi1 := HI.out.under hba
   rw [← hW1] at hba hi1
   have HI := Lib.hid hi1
   have HE := Lib.hid (HE.out.under HI.out.below)
   rw [← hW1]
   clear hW1 hcell HC hba hi1
   have x1 : W1.cell? ⟨w.heap.size, 1, none⟩ = some (.slice (some ⟨kb, 0, none⟩) 1 kc) := (blk_cell HI.out.box 1).trans rfl
   have x4 : W1.cell? ⟨w.heap.size, 4, none⟩ = some (.bool true) := (blk_cell HI.out.box 4).trans rfl
   have k0 : W1.cell? ⟨kb, 0, none⟩ = some (.string patchKey) := (H.out.2.2.2.2.2.under HI.out.below).cell
   go_wp2_with (go_at_call 56; (with_reducible refine Calls.mono (HE.out.err56 HR.out) ?_); rintro e w' ⟨rfl, rfl⟩)
   refine wp_loop_rounds 2 ?_
   rw [rounds_succ]
   go_wp2_with fail
   refine (get112 _).mono ?_
   rintro e w3 ⟨rfl, hb3⟩
   have HB3 := Lib.hid hb3
   clear hb3 x1 x4 k0
   go_wp2_with fail
   have hb4 : Below W1.heap.size W1 (w3.alloc (.cells #[.iface 168 (.agg #[.string noStr, .string patchKey, .pointer none, .string noStr, .string noStr, .pointer none])] 135)) := below_alloc HB3.out _
   obtain ⟨Cm, kidsm, hma, _⟩ := HE.out.under hb4
   refine (pipe1 (fun q w' => q = none ∧ Below W1.heap.size W1 w') _ (HR.out.under hb4) hma.node rfl (fb := w3.heap.size) ((blk_cell (blk_new rfl _) 0).trans rfl) (meth195 _ _ _ _ _ _) enter195 (((HE.out.under hb4).get (HR.out.under hb4)).mono ?_)).mono ?_
   ·rintro e w' ⟨q, he, h1, h2⟩
    exact ⟨q, he, h1, hb4.trans (h2.mono hb4.size)⟩
   rintro e w5 ⟨q, rfl, rfl, hb5⟩
   have HI5 := Lib.hid (HI.out.under hb5)
   clear hma hb4 hb5
   have hf203 : ∀ W, Calls Tryz.prog 203 #[.pointer none, .nilIface] W fun e w' => e = .returned (.bool false) ∧ W = w' := by
    intro W
    clear HI HE HR HB3 HI5
    go_enter Tryz.func203, Tryz.ntmps203
    go_wp2_with fail
    go_ret
    exact ⟨rfl, rfl⟩
   have HF := Lib.hid hf203
   clear hf203
   go_wp2_with fail
   refine (HF.out _).mono ?_
   rintro e w6 ⟨rfl, rfl⟩
   go_wp2_with fail
   go_roundg (gk - 1)
   case measure => omega
   case rel => exact ⟨j + 1, by omega, by go_num, HI5⟩
  ·have hj2 : ¬ ((j : Int) < (n : Int)) := by omega
   have hj3 : ¬ (j < n) := by omega
   have x3 : wr.cell? ⟨w.heap.size, 3, none⟩ = some (.pointer none) := (blk_cell HI.out.box 3).trans rfl
   go_wp2_with fail
   refine bodyPost_ret (v := .tuple #[.pointer none, .nilIface]) (by simp [results, Tryz.results201, go_sem]) rfl ⟨none, rfl, rfl, HI.out.below⟩
set_option maxRecDepth 20000 in
set_option maxHeartbeats 2000000 in
theorem det166_seq {r b : Nat} {C : Value} {bs : List Nat} (w : World) (hr : RNB w r b) (hl : ListAt w b C bs) (hlen : bs.length ≤ 1000) (hel : ∀ e ∈ bs, NoP w e) :
  Calls Tryz.prog 166 #[.pointer (some ⟨r, 0, none⟩)] w fun e w' => e = .returned (.tuple #[.int .i64 3, .nilIface]) ∧ Below w.heap.size w w' := by
 have h168 : Calls Tryz.prog 168 #[.pointer (some ⟨r, 0, none⟩)] w fun e w' => e = .returned (.tuple #[.int .i64 3, .nilIface]) ∧ Below w.heap.size w w' := by
  have H := Lib.hid (And.intro hr (And.intro hl (And.intro hlen hel)))
  clear hr hl hlen hel
  go_enter Tryz.func168, Tryz.ntmps168
  go_wp2_with fail
  refine (keyList170 _).mono ?_
  rintro e w1 ⟨kb, kc, rfl, hk, hb⟩
  have HB := Lib.hid (And.intro hk hb)
  clear hk hb
  go_wp2_with fail
  have hb2 : Below w.heap.size w (w1.alloc (.cells #[.iface 179 (.agg #[.string noStr, .slice (some ⟨kb, 0, none⟩) 1 kc, .slice none 0 0, .pointer none, .bool true])] 135)) := below_alloc HB.out.2 _
  have hk2 := HB.out.1.under (below_alloc (Below.refl w1.heap.size w1) (.cells #[.iface 179 (.agg #[.string noStr, .slice (some ⟨kb, 0, none⟩) 1 kc, .slice none 0 0, .pointer none, .bool true])] 135))
  refine (pipe1 (fun q w' => q = none ∧ Below w.heap.size w w') _ (H.out.1.under hb2) (H.out.2.1.node.under hb2) rfl (fb := w1.heap.size) ((blk_cell (blk_new rfl _) 0).trans rfl) (meth201 _ _ _ _ _) enter201 ((matcherAny201 _ (H.out.1.under hb2) (H.out.2.1.under hb2) H.out.2.2.1 (fun e he => (H.out.2.2.2 e he).under hb2) hk2 (by obtain ⟨_, _, _, h1, h2, _⟩ := hk2; injection h1 with _ _ h1; omega)).mono ?_)).mono ?_
  ·rintro e w' ⟨q, he, h1, h2⟩
   exact ⟨q, he, h1, hb2.trans (h2.mono hb2.size)⟩
  rintro e w3 ⟨q, rfl, rfl, hb3⟩
  have HB3 := Lib.hid hb3
  clear hb2 hk2 hb3
  go_wp2_with fail
  go_ret2
  exact ⟨rfl, HB3.out⟩
 have HC := Lib.hid h168
 have HY := Lib.hid (ynode_some w hr hl.node rfl)
 have h0 := hl.node.c0
 clear hr hl hlen hel h168
 go_enter Tryz.func166, Tryz.ntmps166
 go_wp2_with (first | (go_at_call 42; (with_reducible refine Calls.mono HY.out ?_); rintro e w' ⟨rfl, rfl⟩) | (go_at_call 168; (with_reducible refine Calls.mono HC.out ?_); rintro e w' ⟨rfl, hb⟩))
 go_ret2
 exact ⟨rfl, hb⟩
def ListQ (w : World) (q : Option Addr) : Prop := ∃ r b C bs, q = some ⟨r, 0, none⟩ ∧ RNB w r b ∧ ListAt w b C bs ∧ bs ≠ [] ∧ bs.length ≤ 1000 ∧ ∀ e ∈ bs, NoP w e
theorem ListQ.nodeQ {w : World} {q : Option Addr} (h : ListQ w q) : NodeQ w q := by
 obtain ⟨r, b, C, bs, rfl, hr, hm, hne, hl, hno⟩ := h
 obtain ⟨F, hrow⟩ := hm.row
 obtain ⟨A, c, rfl, _, _⟩ := hrow.slice
 refine .inr ⟨r, b, 2, _, _, A, _, c, rfl, hr, hm.node, rfl, .inr ⟨rfl, ?_⟩⟩
 have : 0 < bs.length := List.length_pos_iff.2 hne
 rw [beq_eq_false_iff_ne]
 omega
theorem ListQ.under {w w' : World} {q : Option Addr} (h : ListQ w q) (hb : Below w.heap.size w w') : ListQ w' q := by
 obtain ⟨r, b, C, bs, rfl, hr, hm, hne, hl, hno⟩ := h
 exact ⟨r, b, C, bs, rfl, hr.under hb, hm.under hb, hne, hl, fun e he => (hno e he).under hb⟩
section
variable {sb c : Nat} {dp sp : Option Addr}
set_option maxRecDepth 20000 in
set_option maxHeartbeats 1000000 in
theorem visitListA_d (w : World) (hs : SrcAt w sb dp sp) (hd : ListQ w dp) (ho : sp = none ∨ ListQ w sp) :
  Calls Tryz.prog 158 #[.agg #[], .slice (some ⟨sb, 0, none⟩) 2 c, .pointer none, .int .i32 1] w fun e w' => e = .returned (.tuple #[.pointer dp, .nilIface]) ∧ Below w.heap.size w w' := by
 have HS := Lib.hid hs
 have HM := Lib.hid hd
 have HD := Lib.hid hd.nodeQ
 have HO : Hid (NodeQ w sp) := Lib.hid (ho.elim .inl ListQ.nodeQ)
 have HQ := Lib.hid ho
 clear hs hd ho
 go_enter Tryz.func158, Tryz.ntmps158
 go_wp2_with fail
 have hb0 : Below w.heap.size w (w.alloc (.cells #[] 60)) := below_alloc (Below.refl _ _) _
 refine Calls.mono (comments157 _ (HS.out.under hb0) (HD.out.under hb0) (HO.out.under hb0)) ?_
 rintro e w1 ⟨rfl, hb1⟩
 have HB1 := Lib.hid (hb0.trans (hb1.mono hb0.size))
 clear hb1 hb0
 go_wp2_with fail
 refine Calls.mono (style161 _ (HS.out.under HB1.out) (HD.out.under HB1.out) (HO.out.under HB1.out)) ?_
 rintro e w2 ⟨rfl, hb2⟩
 have HB2 := Lib.hid (HB1.out.trans (hb2.mono HB1.out.size))
 clear hb2 HB1
 have HS2 := Lib.hid (HS.out.under HB2.out)
 obtain ⟨r1, b1, C1, bs1, rfl, hr1, hm1, _, _⟩ := HM.out.under HB2.out
 have HN1 := Lib.hid (missing_no _ hr1 hm1.node rfl (by decide +kernel))
 clear hr1 hm1
 rcases HQ.out with rfl | hq
 ·go_wp2_with (first | (go_at_call 162; (with_reducible refine Calls.mono (origin162 _ HS2.out) ?_); rintro e w' ⟨rfl, rfl⟩) | (go_at_call 163; (with_reducible refine Calls.mono (dest163 _ HS2.out) ?_); rintro e w' ⟨rfl, rfl⟩) | (go_at_call 55; (with_reducible refine Calls.mono HN1.out ?_); rintro e w' ⟨rfl, rfl⟩) | (go_at_call 164; (with_reducible refine Calls.mono (tagged_nil _) ?_); rintro e w' ⟨rfl, rfl⟩) | (go_at_call 166; (with_reducible refine Calls.mono (det166_nil _) ?_); rintro e w' ⟨rfl, rfl⟩))
  go_ret2
  exact ⟨rfl, HB2.out⟩
 ·obtain ⟨r2, b2, C2, bs2, rfl, hr2, hm2, _, hl2, hno2⟩ := hq.under HB2.out
  have ht2 := tagged_any _ hr2 hm2.node rfl
  rw [show (noStr.toList == [33, 33, 110, 117, 108, 108]) = false from by decide +kernel] at ht2
  have HT2 := Lib.hid ht2
  have HE2 := Lib.hid (det166_seq _ hr2 hm2 hl2 hno2)
  clear hr2 hm2 hl2 hno2 ht2
  go_wp2_with (first | (go_at_call 162; (with_reducible refine Calls.mono (origin162 _ HS2.out) ?_); rintro e w' ⟨rfl, rfl⟩) | (go_at_call 163; (with_reducible refine Calls.mono (dest163 _ HS2.out) ?_); rintro e w' ⟨rfl, rfl⟩) | (go_at_call 55; (with_reducible refine Calls.mono HN1.out ?_); rintro e w' ⟨rfl, rfl⟩) | (go_at_call 164; (with_reducible refine Calls.mono HT2.out ?_); rintro e w' ⟨rfl, rfl⟩))
  refine Calls.mono HE2.out ?_
  rintro e w3 ⟨rfl, hb3⟩
  have HB3 := Lib.hid (HB2.out.trans (hb3.mono HB2.out.size))
  have HS3 := Lib.hid (HS.out.under HB3.out)
  clear hb3 HS2
  go_wp2_with (go_at_call 163; (with_reducible refine Calls.mono (dest163 _ HS3.out) ?_); rintro e w' ⟨rfl, rfl⟩)
  go_ret2
  exact ⟨rfl, HB3.out⟩
set_option maxRecDepth 20000 in
set_option maxHeartbeats 1000000 in
theorem visitListA_n (w : World) (hs : SrcAt w sb none sp) (ho : ListQ w sp) :
  Calls Tryz.prog 158 #[.agg #[], .slice (some ⟨sb, 0, none⟩) 2 c, .pointer none, .int .i32 1] w fun e w' => e = .returned (.tuple #[.pointer sp, .nilIface]) ∧ Below w.heap.size w w' := by
 have HS := Lib.hid hs
 have HD : Hid (NodeQ w none) := Lib.hid (.inl rfl)
 have HO : Hid (NodeQ w sp) := Lib.hid ho.nodeQ
 clear hs ho
 go_enter Tryz.func158, Tryz.ntmps158
 go_wp2_with fail
 have hb0 : Below w.heap.size w (w.alloc (.cells #[] 60)) := below_alloc (Below.refl _ _) _
 refine Calls.mono (comments157 _ (HS.out.under hb0) (HD.out.under hb0) (HO.out.under hb0)) ?_
 rintro e w1 ⟨rfl, hb1⟩
 have HB1 := Lib.hid (hb0.trans (hb1.mono hb0.size))
 clear hb1 hb0
 go_wp2_with fail
 refine Calls.mono (style161 _ (HS.out.under HB1.out) (HD.out.under HB1.out) (HO.out.under HB1.out)) ?_
 rintro e w2 ⟨rfl, hb2⟩
 have HB2 := Lib.hid (HB1.out.trans (hb2.mono HB1.out.size))
 clear hb2 HB1
 have HS2 := Lib.hid (HS.out.under HB2.out)
 go_wp2_with (first | (go_at_call 162; (with_reducible refine Calls.mono (origin162 _ HS2.out) ?_); rintro e w' ⟨rfl, rfl⟩) | (go_at_call 163; (with_reducible refine Calls.mono (dest163 _ HS2.out) ?_); rintro e w' ⟨rfl, rfl⟩) | (go_at_call 55; (with_reducible refine Calls.mono (missing_nil _) ?_); rintro e w' ⟨rfl, rfl⟩))
 go_ret2
 exact ⟨rfl, HB2.out⟩
theorem visitListA (w : World) (hs : SrcAt w sb dp sp) (hd : dp = none ∨ ListQ w dp) (ho : sp = none ∨ ListQ w sp) (hn : ¬ (dp = none ∧ sp = none)) :
  Calls Tryz.prog 158 #[.agg #[], .slice (some ⟨sb, 0, none⟩) 2 c, .pointer none, .int .i32 1] w fun e w' => e = .returned (.tuple #[.pointer (dp.or sp), .nilIface]) ∧ Below w.heap.size w w' := by
 rcases hd with rfl | hd
 ·rcases ho with rfl | ho
  ·exact absurd ⟨rfl, rfl⟩ hn
  ·exact visitListA_n w hs ho
 ·have h := visitListA_d (c := c) w hs hd ho
  obtain ⟨r, b, C, bs, rfl, _⟩ := hd
  exact h
end
end Go.Proofs.YtghmajlfmoggfaaGreat
