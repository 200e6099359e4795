import Derived.Test.YtghmajlfmoggfaaGreatMB2
import Derived.Test.YtghmajlfmoggfaaGreatMB1
import Derived.Test.YtghmajlfmoggfaaGreatMD
import Derived.Test.YtghmajlfmoggfaaGreatMX4
set_option linter.unusedSimpArgs false
set_option linter.unusedVariables false
namespace Go.Proofs.YtghmajlfmoggfaaGreat
open Go.RowKit Go.Proofs.YtghmajlfmoggfaaGreatW.PrintWords Go.Proofs.YtghmajlfmoggfaaGreatW.PrintLast PFnMerge
section
variable {kb cb p2 p3 p4 vr vb : Nat} {v : Value} {k : Int} {kd name sv tag val vv : ByteArray} {C Cv : Value}
set_option maxRecDepth 20000 in
set_option maxHeartbeats 2000000 in
theorem clo199v_eq (w : World) (h2 : w.cell? ⟨p2, 0, none⟩ = some (.bool true)) (h3 : w.heap[p3]? = some (.cells #[.string kd, .string name, .pointer (some ⟨vr, 0, none⟩), .string sv, .string noStr, .pointer none] 168 (0, 0)))
  (hvr : RNB w vr vb) (hvb : NodeB w vb 8 noStr vv Cv) (hcb : NodeB w cb k tag val C) (hp : w.heap[p4]? = some (.cells #[v] 47 (0, 0))) (he : (val.toList == vv.toList) = true) :
  Calls Tryz.prog 199 #[.pointer (some ⟨kb, 0, none⟩), .pointer (some ⟨cb, 0, none⟩), .pointer (some ⟨p2, 0, none⟩), .pointer (some ⟨p3, 0, none⟩), .pointer (some ⟨p4, 0, none⟩)] w fun e w' =>
   e = .returned (.tuple #[]) ∧ ∃ r, w'.heap[p4]? = some (.cells #[.pointer (some ⟨r, 0, none⟩)] 47 (0, 0)) ∧ RNB w' r cb ∧ Keep (fun k => k = p4) w w' := by
 have hc : w.cell? ⟨p4, 0, none⟩ = some v := (blk_cell hp 0).trans rfl
 have hz : w.frozen? ⟨p4, 0, none⟩ = false := blk_frozen hp 0
 have hlt : p4 < w.heap.size := blk_lt hp
 have h32 : w.cell? ⟨p3, 2, none⟩ = some (.pointer (some ⟨vr, 0, none⟩)) := (blk_cell h3 2).trans rfl
 have hc3 := hcb.c3
 have hv1 := hvr.cell1
 have hv0 := hvb.c0
 have hv3 := hvb.c3
 have HP := Lib.hid hp
 have HB := Lib.hid (show ∀ W : World, Below w.heap.size w W → W.cell? ⟨p4, 0, none⟩ = some v ∧ W.frozen? ⟨p4, 0, none⟩ = false from fun W hb => ⟨(blk_cell ((hb.block _ hlt).trans hp) 0).trans rfl, blk_frozen ((hb.block _ hlt).trans hp) 0⟩)
 clear hp h3 hvr hvb hcb
 go_enter Tryz.func199, Tryz.ntmps199
 go_wp2_with fail
 refine start_ (n := 15) (S := fun w' => w'.cell? ⟨p2, 0, none⟩ = some (.bool true) ∧ w'.cell? ⟨cb, 3, none⟩ = some (.string val) ∧ w'.cell? ⟨p3, 2, none⟩ = some (.pointer (some ⟨vr, 0, none⟩)) ∧ w'.cell? ⟨vr, 1, none⟩ = some (.pointer (some ⟨vb, 0, none⟩)) ∧ w'.cell? ⟨vb, 0, none⟩ = some (.int .u32 8) ∧ w'.cell? ⟨vb, 3, none⟩ = some (.string vv)) (ds := []) #[false, false, false, false, false, false, false, false, false, false, false, false, false, false, false] (by kernel_rfl) rfl rfl ⟨h2, hc3, h32, hv1, hv0, hv3⟩ (fun hHeld => ?_)
 refine tk 0 (some 7) (bl 15 1) hHeld ?_
 refine pu 1 (some 8) (bl 15 3) ?_
 refine pu 2 (some 9) (bl 15 7) ?_
 refine pu 3 (some 10) (bl 15 15) ?_
 refine pu 4 (some 11) (bl 15 31) ?_
 refine pu 5 (some 12) (bl 15 63) ?_
 refine pu 7 (some 14) (bl 15 191) ?_
 refine tk 6 (some 13) (bl 15 255) hHeld ?_
 refine tk 8 (some 15) (bl 15 511) hHeld ?_
 refine takeC_ (i := 9) (N := some 16) (v := ?_) (a' := ?_) (bl 15 1023) rfl rfl (by kernel_rfl) (fun _ _ _ h => h) Tryz.func42 (by kernel_rfl) rfl #[.pointer (some ⟨vr, 0, none⟩)] (by rfl) rfl (by simp only [List.map_toArray, List.map_cons, List.map_nil]; rfl) ?_ hHeld ?_ ?_
 rotate_left
 ·rintro w' ⟨s0, s1, s2, s3, s4, s5⟩
  exact ynode_c _ s3 s4 rfl
 rotate_left
 ·simp only [np]
  rfl
 refine pu 10 (some 17) (bl 15 2047) ?_
 refine pu 11 (some 18) (bl 15 4095) ?_
 refine tk 12 (some 19) (bl 15 8191) hHeld ?_
 refine pu 13 (some 20) (bl 15 16383) ?_
 refine pu 14 (some 21) (bl 15 32767) ?_
 refine done_ (by kernel_rfl) ?_
 obtain ⟨W, hW⟩ : ∃ W, W = w.drew := ⟨_, rfl⟩
 have hb : Below w.heap.size w W := hW ▸ below_drew (Below.refl _ _)
 rw [← hW]
 clear hW hc hz h32 hc3 hv1 hv0 hv3 h2 hHeld
 have HW := Lib.hid hb
 have hcq : ∀ o, (W.alloc o).cell? ⟨p4, 0, none⟩ = some v := fun o => (HB.out _ (below_alloc hb o)).1
 have hzq : ∀ o, (W.alloc o).frozen? ⟨p4, 0, none⟩ = false := fun o => (HB.out _ (below_alloc hb o)).2
 clear hb
 go_wp2_with (go_at_call 39; (with_reducible refine Calls.mono (newRNode _) ?_); rintro e w' ⟨rfl, rfl⟩)
 go_end0
 refine ⟨rfl, W.heap.size, ?_, ?_, ?_⟩
 ·exact blk_set (blk_old _ ((HW.out.block _ hlt).trans HP.out)) 0 _
 ·exact blk_else _ (by show W.heap.size ≠ p4; have := HW.out.size; omega) (blk_new rfl _)
 ·exact Keep.setCell (Keep.of_below (below_alloc HW.out _) _) ⟨p4, 0, none⟩ _ (fun _ => rfl)
set_option maxRecDepth 20000 in
set_option maxHeartbeats 2000000 in
theorem clo199v_ne (w : World) (h2 : w.cell? ⟨p2, 0, none⟩ = some (.bool true)) (h3 : w.heap[p3]? = some (.cells #[.string kd, .string name, .pointer (some ⟨vr, 0, none⟩), .string sv, .string noStr, .pointer none] 168 (0, 0)))
  (hvr : RNB w vr vb) (hvb : NodeB w vb 8 noStr vv Cv) (hcb : NodeB w cb k tag val C) (he : (val.toList == vv.toList) = false) :
  Calls Tryz.prog 199 #[.pointer (some ⟨kb, 0, none⟩), .pointer (some ⟨cb, 0, none⟩), .pointer (some ⟨p2, 0, none⟩), .pointer (some ⟨p3, 0, none⟩), .pointer (some ⟨p4, 0, none⟩)] w fun e w' =>
   e = .returned (.tuple #[]) ∧ Below w.heap.size w w' := by
 have h32 : w.cell? ⟨p3, 2, none⟩ = some (.pointer (some ⟨vr, 0, none⟩)) := (blk_cell h3 2).trans rfl
 have hc3 := hcb.c3
 have hv1 := hvr.cell1
 have hv0 := hvb.c0
 have hv3 := hvb.c3
 clear h3 hvr hvb hcb
 go_enter Tryz.func199, Tryz.ntmps199
 go_wp2_with fail
 refine start_ (n := 15) (S := fun w' => w'.cell? ⟨p2, 0, none⟩ = some (.bool true) ∧ w'.cell? ⟨cb, 3, none⟩ = some (.string val) ∧ w'.cell? ⟨p3, 2, none⟩ = some (.pointer (some ⟨vr, 0, none⟩)) ∧ w'.cell? ⟨vr, 1, none⟩ = some (.pointer (some ⟨vb, 0, none⟩)) ∧ w'.cell? ⟨vb, 0, none⟩ = some (.int .u32 8) ∧ w'.cell? ⟨vb, 3, none⟩ = some (.string vv)) (ds := []) #[false, false, false, false, false, false, false, false, false, false, false, false, false, false, false] (by kernel_rfl) rfl rfl ⟨h2, hc3, h32, hv1, hv0, hv3⟩ (fun hHeld => ?_)
 refine tk 0 (some 7) (bl 15 1) hHeld ?_
 refine pu 1 (some 8) (bl 15 3) ?_
 refine pu 2 (some 9) (bl 15 7) ?_
 refine pu 3 (some 10) (bl 15 15) ?_
 refine pu 4 (some 11) (bl 15 31) ?_
 refine pu 5 (some 12) (bl 15 63) ?_
 refine pu 7 (some 14) (bl 15 191) ?_
 refine tk 6 (some 13) (bl 15 255) hHeld ?_
 refine tk 8 (some 15) (bl 15 511) hHeld ?_
 refine takeC_ (i := 9) (N := some 16) (v := ?_) (a' := ?_) (bl 15 1023) rfl rfl (by kernel_rfl) (fun _ _ _ h => h) Tryz.func42 (by kernel_rfl) rfl #[.pointer (some ⟨vr, 0, none⟩)] (by rfl) rfl (by simp only [List.map_toArray, List.map_cons, List.map_nil]; rfl) ?_ hHeld ?_ ?_
 rotate_left
 ·rintro w' ⟨s0, s1, s2, s3, s4, s5⟩
  exact ynode_c _ s3 s4 rfl
 rotate_left
 ·simp only [np]
  rfl
 refine pu 10 (some 17) (bl 15 2047) ?_
 refine pu 11 (some 18) (bl 15 4095) ?_
 refine tk 12 (some 19) (bl 15 8191) hHeld ?_
 refine pu 13 (some 20) (bl 15 16383) ?_
 refine pu 14 (some 21) (bl 15 32767) ?_
 refine done_ (by kernel_rfl) ?_
 go_wp2_with fail
 go_end0
 exact ⟨rfl, below_drew (Below.refl _ _)⟩
end
end Go.Proofs.YtghmajlfmoggfaaGreat
namespace Go.Proofs.YtghmajlfmoggfaaGreat
open Go.RowKit Go.Proofs.YtghmajlfmoggfaaGreatW.PrintWords Go.Proofs.YtghmajlfmoggfaaGreatW.PrintLast PFnMerge
abbrev nmKey : ByteArray := ⟨#[110, 97, 109, 101]⟩
set_option maxHeartbeats 400000 in
theorem field_no {r b : Nat} {k : Int} {tag val name : ByteArray} {C : Value} (w : World) (hr : RNB w r b) (hb : NodeB w b k tag val C) (hk1 : (k == 1) = false) (hk4 : (k == 4) = false) :
  Calls Tryz.prog 59 #[.pointer (some ⟨r, 0, none⟩), .string name] w fun e w' => e = .returned (.pointer none) ∧ Below w.heap.size w w' := by
 have h0 := hb.c0
 have HY := Lib.hid (And.intro hr hb)
 clear hr hb
 go_enter Tryz.func59, Tryz.ntmps59
 go_wp2_with (go_at_call 42; (with_reducible refine Calls.mono (ynode_some _ (HY.out.1.under ?b1) (HY.out.2.under ?b2) hk1) ?_); (case b1 => repeat (first | exact Below.refl _ _ | apply below_alloc | apply below_drew)); (case b2 => repeat (first | exact Below.refl _ _ | apply below_alloc | apply below_drew)); rintro e w' ⟨rfl, rfl⟩)
 go_ret
 exact ⟨rfl, by repeat (first | exact Below.refl _ _ | apply below_alloc | apply below_drew)⟩
def ElQ (w : World) (b : Nat) (has : Bool) : Prop := (∃ C kids, MapAt w b C kids ∧ (kids.find? (hasKey nmKey)).isSome = has) ∨ (has = false ∧ ∃ k tag val C, NodeB w b k tag val C ∧ (k == 1) = false ∧ (k == 4) = false)
theorem ElQ.under {w w' : World} {b : Nat} {has : Bool} (h : ElQ w b has) (hb : Below w.heap.size w w') : ElQ w' b has := by
 rcases h with ⟨C, kids, h1, h2⟩ | ⟨h, k, tag, val, C, h1, h2⟩
 ·exact .inl ⟨C, kids, h1.under hb, h2⟩
 ·exact .inr ⟨h, k, tag, val, C, h1.under hb, h2⟩
theorem field_el {r b : Nat} {has : Bool} (w : World) (hr : RNB w r b) (h : ElQ w b has) : Calls Tryz.prog 59 #[.pointer (some ⟨r, 0, none⟩), .string nmKey] w fun e w' => ∃ q, e = .returned (.pointer q) ∧ q.isSome = has ∧ Below w.heap.size w w' := by
 rcases h with ⟨C, kids, h1, h2⟩ | ⟨h, k, tag, val, C, h1, h2, h3⟩
 ·refine (field_some (name := nmKey) w hr h1).mono ?_
  rintro e w' ⟨hb, hn, hs⟩
  cases hf : kids.find? (hasKey nmKey) with
  | none => exact ⟨none, hn hf, by rw [← h2, hf]; rfl, hb⟩
  | some kid =>
   obtain ⟨mb, kr, vr, he, _⟩ := hs kid hf
   exact ⟨_, he, by rw [← h2, hf]; rfl, hb⟩
 ·refine (field_no (name := nmKey) w hr h1 h2 h3).mono ?_
  rintro e w' ⟨rfl, hb⟩
  exact ⟨none, rfl, by rw [h]; rfl, hb⟩
def allB (f : Nat → Bool) (bs : List Nat) : Bool := decide ((bs.filter f).length = bs.length)
theorem filt_succ {l : List Nat} {f : Nat → Bool} {j b : Nat} (h : l[j]? = some b) : ((l.take (j + 1)).filter f).length = ((l.take j).filter f).length + (if f b then 1 else 0) := by
 rw [List.take_add_one, h, Option.toList_some, List.filter_append, List.length_append]
 congr 1
 by_cases hf : f b = true
 ·simp [hf]
 ·simp [hf]
set_option maxRecDepth 20000 in
set_option maxHeartbeats 4000000 in
theorem check105 {A : Option Addr} {n c : Nat} {bs : List Nat} {F : Nat → Prop} (f : Nat → Bool) (w : World) (hrow : PRow w F (.slice A n c) bs) (hn : n = bs.length) (hc : n ≤ c) (hl : n ≤ 1000) (hel : ∀ b ∈ bs, ElQ w b (f b)) :
  Calls Tryz.prog 105 #[.string nmKey, .slice A n c] w fun e w' => e = .returned (.bool (allB f bs)) ∧ Below w.heap.size w w' := by
 have H := Lib.hid (And.intro hrow (And.intro hn hel))
 have hn2 : (n : Int) ≤ 1000 := by omega
 clear hrow hn hel
 go_enter Tryz.func105, Tryz.ntmps105
 go_wp2_with fail
 go_loopg [10, 5] n (fun k i v wr => ∃ j : Nat, j + k = n ∧ i = .int .i64 (j : Int) ∧ v = .int .i64 ((((bs.take j).filter f).length : Nat) : Int) ∧ Hid (Below w.heap.size w wr))
 case atStart => exact ⟨0, by omega, rfl, rfl, Lib.hid (by repeat (first | exact Below.refl _ _ | apply below_alloc | apply pw_below_drewN | apply below_drew))⟩
 case round =>
  obtain ⟨j, hj, rfl, rfl, HB⟩ := hrel
  obtain ⟨N, hN⟩ : ∃ N, N = ((bs.take j).filter f).length := ⟨_, rfl⟩
  have hNj : N ≤ j := by
   rw [hN]
   refine Nat.le_trans (List.length_filter_le _ _) ?_
   rw [List.length_take]
   exact Nat.min_le_left _ _
  rw [← hN]
  by_cases hlt : 1 ≤ gk
  ·have hj2 : (j : Int) < (n : Int) := by omega
   have hj3 : j < n := by omega
   have hj4 : j < c := by omega
   obtain ⟨b, hb⟩ : ∃ b, bs[j]? = some b := ⟨_, List.getElem?_eq_getElem (by have := H.out.2.1; omega)⟩
   obtain ⟨g, rfl, hcell⟩ := (H.out.1.under HB.out).cell j b hb
   have HE := Lib.hid (And.intro hb (H.out.2.2 b (List.mem_of_getElem? hb)))
   have HN := Lib.hid hN
   have hw : wrap64 ((N : Int) + 1) = ((N + 1 : Nat) : Int) := by unfold wrap64; omega
   clear hb hN
   go_wp2_with fail
   refine (newRNode _).mono ?_
   rintro e w1 ⟨rfl, rfl⟩
   have hr : RNB (wr.alloc (.cells #[nilS, .pointer (some ⟨b, 0, none⟩), .bool false, nilS] 81)) wr.heap.size b := blk_new rfl _
   have HR := Lib.hid hr
   have HB1 := Lib.hid (HB.out.trans ((below_alloc (Below.refl wr.heap.size wr) (.cells #[nilS, .pointer (some ⟨b, 0, none⟩), .bool false, nilS] 81)).mono HB.out.size))
   clear hr
   go_wp2_with fail
   refine (field_el _ HR.out (HE.out.2.under HB1.out)).mono ?_
   rintro e w2 ⟨q, rfl, hq, hb2⟩
   have HB2 := Lib.hid (HB1.out.trans (hb2.mono HB1.out.size))
   have HQ := Lib.hid hq
   clear hb2 hq
   rcases q with _ | q
   ·go_wp2_with fail
    go_roundg (gk - 1)
    case measure => omega
    case rel =>
     refine ⟨j + 1, by omega, by go_num, ?_, HB2⟩
     rw [filt_succ HE.out.1, ← HN.out, ← HQ.out]
     rfl
   ·go_wp2_with fail
    go_roundg (gk - 1)
    case measure => omega
    case rel =>
     refine ⟨j + 1, by omega, by go_num, ?_, HB2⟩
     rw [filt_succ HE.out.1, ← HN.out, ← HQ.out]
     first | rfl | (simp; done) | exact congrArg _ hw
  ·have hj2 : ¬ ((j : Int) < (n : Int)) := by omega
   have hj3 : ¬ (j < n) := by omega
   have hjn : j = bs.length := by have := H.out.2.1; omega
   rw [hjn, List.take_of_length_le (Nat.le_refl _)] at hN
   have HN := Lib.hid (And.intro hN H.out.2.1)
   clear hN hjn
   go_wp2_with fail
   refine bodyPost_ret (v := .bool ((N : Int) == (n : Int))) (by simp [results, Tryz.results105, go_sem]) rfl ⟨?_, HB.out⟩
   have e : ((N : Int) == (n : Int)) = allB f bs := by
    unfold allB
    rw [← HN.out.1, ← HN.out.2]
    by_cases h : N = n
    ·rw [h]; simp
    ·rw [decide_eq_false h]; exact beq_false_of_ne (by omega)
   rw [e]
structure ListAt (w : World) (b : Nat) (C : Value) (bs : List Nat) : Prop where
 node : NodeB w b 2 noStr noStr C
 row : ∃ F, PRow w F C bs
theorem ListAt.under {w w' : World} {b : Nat} {C : Value} {bs : List Nat} (h : ListAt w b C bs) (hb : Below w.heap.size w w') : ListAt w' b C bs :=
 ⟨h.node.under hb, by obtain ⟨F, h⟩ := h.row; exact ⟨F, h.under hb⟩⟩
set_option maxRecDepth 20000 in
set_option maxHeartbeats 4000000 in
theorem getKey84 {r b : Nat} {C : Value} {bs : List Nat} (f : Nat → Bool) (w : World) (hr : RNB w r b) (hl : ListAt w b C bs) (hlen : bs.length ≤ 1000) (hel : ∀ b ∈ bs, ElQ w b (f b)) :
  Calls Tryz.prog 84 #[.pointer (some ⟨r, 0, none⟩)] w fun e w' => e = .returned (.string (if allB f bs then nmKey else noStr)) ∧ Below w.heap.size w w' := by
 obtain ⟨F, hrow⟩ := hl.row
 obtain ⟨A, c, rfl, hc, _⟩ := hrow.slice
 have H := Lib.hid (And.intro hr (And.intro hl (And.intro hrow (And.intro hc (And.intro hlen hel)))))
 obtain ⟨q, hq⟩ : ∃ q, q = allB f bs := ⟨_, rfl⟩
 rw [← hq]
 have HQ := Lib.hid hq
 clear hr hl hrow hc hlen hel hq
 have hk : ∀ w : World, Calls Tryz.prog 104 #[] w fun e w' => e = .returned (.slice (some ⟨w.heap.size, 0, none⟩) 1 1) ∧ w' = w.alloc (.cells #[.string nmKey] 9) := by
  intro w
  clear HQ H
  go_enter Tryz.func104, Tryz.ntmps104
  go_wp2_with fail
  go_ret
  exact ⟨rfl, rfl⟩
 go_enter Tryz.func84, Tryz.ntmps84
 go_wp2_with fail
 refine (hk _).mono ?_
 rintro e w1 ⟨rfl, rfl⟩
 have HB := Lib.hid (below_alloc (Below.refl w.heap.size w) (.cells #[.string nmKey] 9))
 clear hk
 go_wp2_with fail
 refine wp_loop_rounds 2 ?_
 rw [rounds_succ]
 go_wp2_with fail
 refine (content_some _ (H.out.1.under HB.out) (H.out.2.1.node.under HB.out) rfl).mono ?_
 rintro e w2 ⟨rfl, rfl⟩
 go_wp2_with fail
 refine (check105 f _ (H.out.2.2.1.under HB.out) rfl H.out.2.2.2.1 H.out.2.2.2.2.1 fun b hb => (H.out.2.2.2.2.2 b hb).under HB.out).mono ?_
 rintro e w3 ⟨rfl, hb⟩
 have HB3 := Lib.hid (HB.out.trans (hb.mono HB.out.size))
 rw [← HQ.out]
 clear hb
 cases q with
 | true =>
  go_wp2_with fail
  go_ret
  exact ⟨rfl, HB3.out⟩
 | false =>
  go_wp2_with fail
  rw [rounds_succ]
  go_wp2_with fail
  go_ret
  exact ⟨rfl, HB3.out⟩
set_option maxHeartbeats 400000 in
theorem isAssoc64 {r b : Nat} {C : Value} {bs : List Nat} (f : Nat → Bool) (w : World) (hr : RNB w r b) (hl : ListAt w b C bs) (hlen : bs.length ≤ 1000) (hel : ∀ b ∈ bs, ElQ w b (f b)) :
  Calls Tryz.prog 64 #[.pointer (some ⟨r, 0, none⟩)] w fun e w' => e = .returned (.bool (allB f bs)) ∧ Below w.heap.size w w' := by
 have H := Lib.hid (getKey84 f w hr hl hlen hel)
 obtain ⟨q, hq⟩ : ∃ q, q = allB f bs := ⟨_, rfl⟩
 rw [← hq] at H ⊢
 clear hr hl hlen hel hq
 cases q
 all_goals
  go_enter Tryz.func64, Tryz.ntmps64
  go_wp2_with fail
  refine H.out.mono ?_
  rintro e w' ⟨rfl, hb⟩
  go_wp2_with fail
  go_ret
  exact ⟨rfl, hb⟩
def LQ (w : World) (r : Nat) (an : Bool) : Prop := ∃ b C bs f, RNB w r b ∧ ListAt w b C bs ∧ bs ≠ [] ∧ bs.length ≤ 1000 ∧ (∀ b ∈ bs, ElQ w b (f b)) ∧ allB f bs = an
theorem LQ.under {w w' : World} {r : Nat} {an : Bool} (h : LQ w r an) (hb : Below w.heap.size w w') : LQ w' r an := by
 obtain ⟨b, C, bs, f, h1, h2, h3, h4, h5, h6⟩ := h
 exact ⟨b, C, bs, f, h1.under hb, h2.under hb, h3, h4, fun b hb' => (h5 b hb').under hb, h6⟩
theorem LQ.assoc {w : World} {r : Nat} {an : Bool} (h : LQ w r an) : Calls Tryz.prog 64 #[.pointer (some ⟨r, 0, none⟩)] w fun e w' => e = .returned (.bool an) ∧ Below w.heap.size w w' := by
 obtain ⟨b, C, bs, f, h1, h2, h3, h4, h5, rfl⟩ := h
 exact isAssoc64 f w h1 h2 h4 h5
theorem LQ.key {w : World} {r : Nat} {an : Bool} (h : LQ w r an) : Calls Tryz.prog 84 #[.pointer (some ⟨r, 0, none⟩)] w fun e w' => e = .returned (.string (if an then nmKey else noStr)) ∧ Below w.heap.size w w' := by
 obtain ⟨b, C, bs, f, h1, h2, h3, h4, h5, rfl⟩ := h
 exact getKey84 f w h1 h2 h4 h5
theorem LQ.miss {w : World} {r : Nat} {an : Bool} (h : LQ w r an) : Calls Tryz.prog 55 #[.pointer (some ⟨r, 0, none⟩)] w fun e w' => e = .returned (.bool false) ∧ w = w' := by
 obtain ⟨b, C, bs, f, h1, h2, _⟩ := h
 exact missing_no w h1 h2.node rfl (by decide +kernel)
theorem LQ.cont {w : World} {r : Nat} {an : Bool} (h : LQ w r an) : ∃ A n c, Calls Tryz.prog 79 #[.pointer (some ⟨r, 0, none⟩)] w (fun e w' => e = .returned (.slice A n c) ∧ w = w') ∧ (0 : Int) < (n : Int) := by
 obtain ⟨b, C, bs, f, h1, h2, h3, _⟩ := h
 obtain ⟨F, hr⟩ := h2.row
 obtain ⟨A, c, rfl, _⟩ := hr.slice
 refine ⟨A, bs.length, c, content_some w h1 h2.node rfl, ?_⟩
 have := List.length_pos_iff.2 h3
 omega
section
variable {sb c : Nat} {dp sp : Option Addr} {an : Bool}
def Src2 (w : World) (q : Option Addr) (an : Bool) : Prop := q = none ∨ ∃ r, q = some ⟨r, 0, none⟩ ∧ LQ w r an
set_option maxRecDepth 20000 in
set_option maxHeartbeats 4000000 in
theorem isAssoc48 (w : World) (hs : SrcAt w sb dp sp) (hc : 2 ≤ c) (hd : Src2 w dp an) (ho : Src2 w sp an) (hn : ¬ (dp = none ∧ sp = none)) :
  Calls Tryz.prog 48 #[.pointer none, .slice (some ⟨sb, 0, none⟩) 2 c, .bool true] w fun e w' => e = .returned (.bool an) ∧ Below w.heap.size w w' := by
 have c0 := hs.c0
 have c1 := hs.c1
 have HS := Lib.hid hs
 clear hs
 rcases hd with rfl | ⟨r1, rfl, h1⟩
 ·rcases ho with rfl | ⟨r2, rfl, h2⟩
  ·exact absurd ⟨rfl, rfl⟩ hn
  have H2 := Lib.hid h2
  clear h2 hn
  go_enter Tryz.func48, Tryz.ntmps48
  go_wp2_with fail
  refine wp_loop_rounds 3 ?_
  rw [rounds_succ]
  go_wp2_with fail
  refine (missing_nil _).mono ?_
  rintro e w1 ⟨rfl, rfl⟩
  go_wp2_with fail
  rw [rounds_succ]
  go_wp2_with fail
  refine H2.out.miss.mono ?_
  rintro e w1 ⟨rfl, rfl⟩
  go_wp2_with fail
  refine H2.out.assoc.mono ?_
  rintro e w1 ⟨rfl, hb⟩
  have HB := Lib.hid hb
  clear hb
  cases an with
  | true =>
   go_wp2_with fail
   go_ret
   exact ⟨rfl, HB.out⟩
  | false =>
   go_wp2_with fail
   rw [rounds_succ]
   go_wp2_with fail
   go_ret
   exact ⟨rfl, HB.out⟩
 ·have H1 := Lib.hid h1
  have HO := Lib.hid ho
  clear h1 ho hn
  go_enter Tryz.func48, Tryz.ntmps48
  go_wp2_with fail
  refine wp_loop_rounds 3 ?_
  rw [rounds_succ]
  go_wp2_with fail
  refine H1.out.miss.mono ?_
  rintro e w1 ⟨rfl, rfl⟩
  go_wp2_with fail
  refine H1.out.assoc.mono ?_
  rintro e w1 ⟨rfl, hb⟩
  have HB := Lib.hid hb
  have d1 := (HS.out.under hb).c1
  clear hb c0 c1
  cases an with
  | true =>
   go_wp2_with fail
   go_ret
   exact ⟨rfl, HB.out⟩
  | false =>
   go_wp2_with fail
   rw [rounds_succ]
   rcases HO.out with rfl | ⟨r2, rfl, h2⟩
   ·go_wp2_with fail
    refine (missing_nil _).mono ?_
    rintro e w2 ⟨rfl, rfl⟩
    go_wp2_with fail
    rw [rounds_succ]
    go_wp2_with fail
    go_ret
    exact ⟨rfl, HB.out⟩
   ·have H2 := Lib.hid (h2.under HB.out)
    clear h2 HO
    go_wp2_with fail
    refine H2.out.miss.mono ?_
    rintro e w2 ⟨rfl, rfl⟩
    go_wp2_with fail
    refine H2.out.assoc.mono ?_
    rintro e w2 ⟨rfl, hb⟩
    have HB2 := Lib.hid (HB.out.trans (hb.mono HB.out.size))
    clear hb
    go_wp2_with fail
    rw [rounds_succ]
    go_wp2_with fail
    go_ret
    exact ⟨rfl, HB2.out⟩
set_option maxRecDepth 20000 in
set_option maxHeartbeats 4000000 in
theorem elementKey66 (w : World) {V path mo ic vk sc : Value} (hs : SrcAt w sb dp sp) (hc : 2 ≤ c) (hd : Src2 w dp true) (ho : Src2 w sp true) (hn : ¬ (dp = none ∧ sp = none)) :
  Calls Tryz.prog 66 #[.agg #[V, sc, .slice (some ⟨sb, 0, none⟩) 2 c, path, ic, vk, mo]] w fun e w' => e = .returned (.tuple #[.string nmKey, .nilIface]) ∧ Below w.heap.size w w' := by
 have HS := Lib.hid (hs.under (below_alloc (Below.refl _ _) (.cells #[V, sc, .slice (some ⟨sb, 0, none⟩) 2 c, path, ic, vk, mo] 66)))
 have hb0 := below_alloc (Below.refl w.heap.size w) (.cells #[V, sc, .slice (some ⟨sb, 0, none⟩) 2 c, path, ic, vk, mo] 66)
 have HB0 := Lib.hid hb0
 have HX0 := Lib.hid (show (w.alloc (.cells #[V, sc, .slice (some ⟨sb, 0, none⟩) 2 c, path, ic, vk, mo] 66)).heap[w.heap.size]? = some (.cells #[V, sc, .slice (some ⟨sb, 0, none⟩) 2 c, path, ic, vk, mo] 66 (0, 0)) from blk_new rfl _)
 have c0 := HS.out.c0
 have c1 := HS.out.c1
 clear hs hb0
 rcases hd with rfl | ⟨r1, rfl, h1⟩
 ·rcases ho with rfl | ⟨r2, rfl, h2⟩
  ·exact absurd ⟨rfl, rfl⟩ hn
  have H2 := Lib.hid (h2.under HB0.out)
  obtain ⟨A, n, cc, hct, hpos⟩ := H2.out.cont
  have HC := Lib.hid hct
  clear h2 hn hct
  go_enter Tryz.func66, Tryz.ntmps66
  go_wp2_with fail
  refine wp_loop_rounds 3 ?_
  rw [rounds_succ]
  go_wp2_with fail
  rw [rounds_succ]
  go_wp2_with fail
  refine HC.out.mono ?_
  rintro e w1 ⟨rfl, rfl⟩
  go_wp2_with fail
  refine H2.out.key.mono ?_
  rintro e w1 ⟨rfl, hb⟩
  have HB := Lib.hid (HB0.out.trans (hb.mono HB0.out.size))
  have x2 : w1.cell? ⟨w.heap.size, 2, none⟩ = some (.slice (some ⟨sb, 0, none⟩) 2 c) := (blk_cell ((hb.block _ (lt_of_block HX0.out)).trans HX0.out) 2).trans rfl
  clear hb c0 c1
  go_wp2_with fail
  rw [rounds_succ]
  go_wp2_with fail
  go_ret2
  exact ⟨rfl, HB.out⟩
 ·have H1 := Lib.hid (h1.under HB0.out)
  have HO := Lib.hid ho
  obtain ⟨A, n, cc, hct, hpos⟩ := H1.out.cont
  have HC := Lib.hid hct
  clear h1 ho hn hct
  go_enter Tryz.func66, Tryz.ntmps66
  go_wp2_with fail
  refine wp_loop_rounds 3 ?_
  rw [rounds_succ]
  go_wp2_with fail
  refine HC.out.mono ?_
  rintro e w1 ⟨rfl, rfl⟩
  go_wp2_with fail
  refine H1.out.key.mono ?_
  rintro e w1 ⟨rfl, hb⟩
  have HB := Lib.hid (HB0.out.trans (hb.mono HB0.out.size))
  have HX1 := Lib.hid ((hb.block _ (lt_of_block HX0.out)).trans HX0.out)
  have x2 : w1.cell? ⟨w.heap.size, 2, none⟩ = some (.slice (some ⟨sb, 0, none⟩) 2 c) := (blk_cell HX1.out 2).trans rfl
  have d1 := (HS.out.under hb).c1
  clear hb c0 c1 hpos HC
  go_wp2_with fail
  rw [rounds_succ]
  rcases HO.out with rfl | ⟨r2, rfl, h2⟩
  ·go_wp2_with fail
   rw [rounds_succ]
   go_wp2_with fail
   go_ret2
   exact ⟨rfl, HB.out⟩
  ·have H2 := Lib.hid (h2.under HB.out)
   obtain ⟨A, n, cc, hct, hpos⟩ := H2.out.cont
   have HC := Lib.hid hct
   clear h2 HO hct
   go_wp2_with fail
   refine HC.out.mono ?_
   rintro e w2 ⟨rfl, rfl⟩
   go_wp2_with fail
   refine H2.out.key.mono ?_
   rintro e w2 ⟨rfl, hb⟩
   have HB2 := Lib.hid (HB.out.trans (hb.mono HB.out.size))
   have x2 : w2.cell? ⟨w.heap.size, 2, none⟩ = some (.slice (some ⟨sb, 0, none⟩) 2 c) := (blk_cell ((hb.block _ (lt_of_block HX1.out)).trans HX1.out) 2).trans rfl
   clear hb
   go_wp2_with fail
   rw [rounds_succ]
   go_wp2_with fail
   go_ret2
   exact ⟨rfl, HB2.out⟩
end
end Go.Proofs.YtghmajlfmoggfaaGreat
namespace Go.Proofs.YtghmajlfmoggfaaGreat
open Go.RowKit Go.Proofs.YtghmajlfmoggfaaGreatW.PrintWords Go.Proofs.YtghmajlfmoggfaaGreatW.PrintLast PFnMerge
def NmB (w : World) (b : Nat) (s : ByteArray) : Prop := ∃ C kids kid tag, MapAt w b C kids ∧ kids.find? (hasKey nmKey) = some kid ∧ NodeB w kid.cb 8 tag s nilS ∧ (tag.toList == [33, 33, 110, 117, 108, 108]) = false
theorem NmB.under {w w' : World} {b : Nat} {s : ByteArray} (h : NmB w b s) (hb : Below w.heap.size w w') : NmB w' b s := by
 obtain ⟨C, kids, kid, tag, h1, h2, h3, h4⟩ := h
 exact ⟨C, kids, kid, tag, h1.under hb, h2, h3.under hb, h4⟩
theorem NmB.el {w : World} {b : Nat} {s : ByteArray} (h : NmB w b s) : ElQ w b true := by
 obtain ⟨C, kids, kid, tag, h1, h2, h3, h4⟩ := h
 exact .inl ⟨C, kids, h1, by rw [h2]; rfl⟩
theorem NmB.field {w : World} {r b : Nat} {s : ByteArray} (h : NmB w b s) (hr : RNB w r b) : Calls Tryz.prog 59 #[.pointer (some ⟨r, 0, none⟩), .string nmKey] w fun e w' => ∃ mb kr vr cb tag, e = .returned (.pointer (some ⟨mb, 0, none⟩)) ∧ MNB w' mb kr vr ∧ RNB w' vr cb ∧ NodeB w' cb 8 tag s nilS ∧ (tag.toList == [33, 33, 110, 117, 108, 108]) = false ∧ Below w.heap.size w w' := by
 obtain ⟨C, kids, kid, tag, h1, h2, h3, h4⟩ := h
 refine (field_some (name := nmKey) w hr h1).mono ?_
 rintro e w' ⟨hb, _, hs⟩
 obtain ⟨mb, kr, vr, he, g1, g2, g3⟩ := hs kid h2
 exact ⟨mb, kr, vr, kid.cb, tag, he, g1, g3, h3.under hb, h4, hb⟩
section
variable {r b mb kr : Nat} {tag s : ByteArray} {C : Value}
set_option maxHeartbeats 1000000 in
theorem noEmpty130 (w : World) (hb : NodeB w b 8 tag s C) (ht : (tag.toList == [33, 33, 110, 117, 108, 108]) = false) :
  Calls Tryz.prog 130 #[.pointer (some ⟨b, 0, none⟩)] w fun e w' => e = .returned (.bool false) ∧ w = w' := by
 have h0 := hb.c0
 have HT := Lib.hid (ynTagged w hb)
 rw [ht] at HT
 have k1 : ∀ f, f = 111 ∨ f = 138 ∨ f = 139 → Calls Tryz.prog f #[.pointer (some ⟨b, 0, none⟩)] w fun e w' => e = .returned (.bool false) ∧ w = w' := by
  clear HT hb ht
  rintro f (rfl | rfl | rfl)
  ·go_enter Tryz.func111, Tryz.ntmps111
   go_wp2_with fail
   go_ret
   exact ⟨rfl, rfl⟩
  ·go_enter Tryz.func138, Tryz.ntmps138
   go_wp2_with fail
   go_ret
   exact ⟨rfl, rfl⟩
  ·go_enter Tryz.func139, Tryz.ntmps139
   go_wp2_with fail
   go_ret
   exact ⟨rfl, rfl⟩
 have HK := Lib.hid k1
 clear k1 hb ht
 go_enter Tryz.func130, Tryz.ntmps130
 go_wp2_with (first | (go_at_call 137; (with_reducible refine Calls.mono HT.out ?_); rintro e w' ⟨rfl, rfl⟩) | (go_at_call 111; (with_reducible refine Calls.mono (HK.out 111 (by decide)) ?_); rintro e w' ⟨rfl, rfl⟩) | (go_at_call 138; (with_reducible refine Calls.mono (HK.out 138 (by decide)) ?_); rintro e w' ⟨rfl, rfl⟩) | (go_at_call 139; (with_reducible refine Calls.mono (HK.out 139 (by decide)) ?_); rintro e w' ⟨rfl, rfl⟩))
 go_ret
 exact ⟨rfl, rfl⟩
set_option maxHeartbeats 1000000 in
theorem noEmpty106 (w : World) (hm : MNB w mb kr r) (hr : RNB w r b) (hb : NodeB w b 8 tag s C) (ht : (tag.toList == [33, 33, 110, 117, 108, 108]) = false) :
  Calls Tryz.prog 106 #[.pointer (some ⟨mb, 0, none⟩)] w fun e w' => e = .returned (.bool false) ∧ w = w' := by
 have h1 : w.cell? ⟨mb, 1, none⟩ = some (.pointer (some ⟨r, 0, none⟩)) := (blk_cell hm 1).trans rfl
 have H1 := Lib.hid (isNil_some w hr hb rfl)
 have H2 := Lib.hid (ynode_some w hr hb rfl)
 have H3 := Lib.hid (noEmpty130 w hb ht)
 clear hm hr hb ht
 have h117 : Calls Tryz.prog 117 #[.pointer (some ⟨r, 0, none⟩)] w fun e w' => e = .returned (.bool false) ∧ w = w' := by
  clear h1
  go_enter Tryz.func117, Tryz.ntmps117
  go_wp2_with (first | (go_at_call 72; (with_reducible refine Calls.mono H1.out ?_); rintro e w' ⟨rfl, rfl⟩) | (go_at_call 42; (with_reducible refine Calls.mono H2.out ?_); rintro e w' ⟨rfl, rfl⟩) | (go_at_call 130; (with_reducible refine Calls.mono H3.out ?_); rintro e w' ⟨rfl, rfl⟩))
  go_ret
  exact ⟨rfl, rfl⟩
 have H4 := Lib.hid h117
 clear h117 H1 H2 H3
 go_enter Tryz.func106, Tryz.ntmps106
 go_wp2_with (go_at_call 117; (with_reducible refine Calls.mono H4.out ?_); rintro e w' ⟨rfl, rfl⟩)
 go_ret
 exact ⟨rfl, rfl⟩
end
def S1 (w : World) (v : Value) (s : ByteArray) : Prop := ∃ g c cs, v = .slice (some ⟨g, 0, none⟩) 1 c ∧ 1 ≤ c ∧ w.heap[g]? = some (.cells cs 9 (0, 0)) ∧ cs[0]? = some (.string s)
theorem S1.under {w w' : World} {v : Value} {s : ByteArray} (h : S1 w v s) (hb : Below w.heap.size w w') : S1 w' v s := by
 obtain ⟨g, c, cs, h1, h2, h3, h4⟩ := h
 exact ⟨g, c, cs, h1, h2, (hb.block _ (lt_of_block h3)).trans h3, h4⟩
set_option maxRecDepth 20000 in
set_option maxHeartbeats 2000000 in
theorem equal107 {v u : Value} {s t : ByteArray} (w : World) (hv : S1 w v s) (hu : S1 w u t) : Calls Tryz.prog 107 #[v, u] w fun e w' => e = .returned (.bool (s.toList == t.toList)) ∧ Below w.heap.size w w' := by
 obtain ⟨g1, c1, cs1, rfl, l1, k1, k2⟩ := hv
 obtain ⟨g2, c2, cs2, rfl, l2, k3, k4⟩ := hu
 have h1 : w.cell? ⟨g1, 0, none⟩ = some (.string s) := (blk_cell k1 0).trans k2
 have h2 : w.cell? ⟨g2, 0, none⟩ = some (.string t) := (blk_cell k3 0).trans k4
 have n1 : 0 < c1 := by omega
 have n2 : 0 < c2 := by omega
 obtain ⟨q, hq⟩ : ∃ q, q = (s.toList == t.toList) := ⟨_, rfl⟩
 rw [← hq]
 have hq1 := hq.symm
 clear k1 k2 k3 k4 hq l1 l2
 go_enter Tryz.func107, Tryz.ntmps107
 go_wp2_with fail
 refine wp_loop_rounds 2 ?_
 rw [rounds_succ]
 go_wp2_with fail
 refine start_ (n := 9) (S := fun w' => w'.cell? ⟨g1, 0, none⟩ = some (.string s) ∧ w'.cell? ⟨g2, 0, none⟩ = some (.string t)) (ds := []) #[false, false, false, false, false, false, false, false, false] (by kernel_rfl) rfl rfl ⟨h1, h2⟩ (fun hHeld => ?_)
 refine pu 0 (some 16) (bl 9 1) ?_
 refine pu 1 (some 17) (bl 9 3) ?_
 refine pu 2 (some 18) (bl 9 7) ?_
 refine pu 4 (some 20) (bl 9 23) ?_
 refine pu 5 (some 21) (bl 9 55) ?_
 refine pu 6 (some 22) (bl 9 119) ?_
 refine tk 3 (some 19) (bl 9 127) hHeld ?_
 refine tk 7 (some 23) (bl 9 255) hHeld ?_
 refine pu 8 (some 24) (bl 9 511) ?_
 refine done_ (by kernel_rfl) ?_
 cases q with
 | true =>
  go_wp2_with fail
  rw [rounds_succ]
  go_wp2_with fail
  go_ret
  exact ⟨rfl, by repeat (first | exact Below.refl _ _ | apply below_alloc | apply pw_below_drewN | apply below_drew)⟩
 | false =>
  go_wp2_with fail
  go_ret
  exact ⟨rfl, by repeat (first | exact Below.refl _ _ | apply below_alloc | apply pw_below_drewN | apply below_drew)⟩
end Go.Proofs.YtghmajlfmoggfaaGreat
namespace Go.Proofs.YtghmajlfmoggfaaGreat
open Go.RowKit Go.Proofs.YtghmajlfmoggfaaGreatW.PrintWords Go.Proofs.YtghmajlfmoggfaaGreatW.PrintLast PFnMerge
def VS (w : World) (base : Nat) (v : Value) (ss : List ByteArray) : Prop := ∃ xs, w.ownsRow base 22 1 v ss.length xs ∧ ∀ (i : Nat) s, ss[i]? = some s → ∃ u, xs[i]? = some u ∧ S1 w u s
theorem VS.nil (w : World) (base : Nat) : VS w base (.slice none 0 0) [] := ⟨[], own_nil _ _ _ _, fun i s h => by simp at h⟩
theorem VS.slice {w : World} {base : Nat} {v : Value} {ss : List ByteArray} (h : VS w base v ss) : ∃ A c, v = .slice A ss.length c ∧ ss.length ≤ c := by
 obtain ⟨xs, h, _⟩ := h
 obtain ⟨A, c, rfl⟩ := own_slice h
 exact ⟨A, c, rfl, own_cap h⟩
theorem VS.cell {w : World} {base n c : Nat} {A : Option Addr} {ss : List ByteArray} (h : VS w base (.slice A n c) ss) {i : Nat} {s : ByteArray} (hi : ss[i]? = some s) : ∃ g u, A = some ⟨g, 0, none⟩ ∧ w.cell? ⟨g, i, none⟩ = some u ∧ S1 w u s := by
 obtain ⟨xs, h, hs⟩ := h
 obtain ⟨u, h1, h2⟩ := hs i s hi
 have hlt : i < ss.length := (List.getElem?_eq_some_iff.1 hi).1
 obtain ⟨hl, h | ⟨g, cap, cur, he, _, hg, k1, k2, hz, ht⟩⟩ := h
 ·omega
 ·injection he with hA hn hc
  subst hA
  refine ⟨g, u, rfl, ?_, h2⟩
  rw [blk_cell hg i]
  rw [← ht, List.getElem?_take_of_lt (by omega)] at h1
  rw [← Array.getElem?_toList]
  exact h1
theorem VS.move {w w' : World} {base : Nat} {v : Value} {ss : List ByteArray} {T : Nat → Prop} (h : VS w base v ss) (hk : Keep T w w') (ht : ∀ k, T k → v.ownBlock ≠ some k ∧ ∀ cs, w.heap[k]? ≠ some (.cells cs 9 (0, 0))) : VS w' base v ss := by
 obtain ⟨xs, h, hs⟩ := h
 refine ⟨xs, own_move h fun k hk' => hk.block k (own_lt h k hk') fun hT => (ht k hT).1 hk', fun i s hi => ?_⟩
 obtain ⟨u, h1, g, c, cs, h2, h3, h4, h5⟩ := hs i s hi
 exact ⟨u, h1, g, c, cs, h2, h3, hk.at_ h4 fun hT => (ht g hT).2 _ h4, h5⟩
theorem VS.under {w w' : World} {base : Nat} {v : Value} {ss : List ByteArray} (h : VS w base v ss) (hb : Below w.heap.size w w') : VS w' base v ss := h.move (Keep.of_below hb fun _ => False) fun _ h => h.elim
theorem info22 : (Tryz.prog.info? 22).map (fun i => (i.zero, i.size, i.bytes)) = some (some (.slice none 0 0), 1, 24) := by kernel_rfl
theorem VS.snoc {w w1 : World} {base : Nat} {v v1 u : Value} {ss : List ByteArray} {s : ByteArray} {xs : List Value} (h : VS w base v ss) (hxs : ∀ (i : Nat) s, ss[i]? = some s → ∃ u, xs[i]? = some u ∧ S1 w u s) (hl : xs.length = ss.length) (ho : w.ownsRow base 22 1 v ss.length xs) (hu : S1 w u s) (h1 : w1.ownsRow base 22 1 v1 (ss.length + 1) (xs ++ [u])) (hg : w.grownBy w1 v.ownBlock) : VS w1 base v1 (ss ++ [s]) := by
 have hkeep : Keep (fun k => v.ownBlock = some k) w w1 := (Keep.refl _ w).grown hg fun k _ h => h
 have hS : ∀ u s, S1 w u s → S1 w1 u s := fun u s ⟨g, c, cs, h2, h3, h4, h5⟩ => ⟨g, c, cs, h2, h3, hkeep.at_ h4 (fun e => by
  obtain ⟨cells, hc⟩ := own_typed ho g e
  rw [h4] at hc
  injection hc with hc
  injection hc with _ hc
  cases hc), h5⟩
 refine ⟨xs ++ [u], by rw [List.length_append]; exact h1, fun i t hi => ?_⟩
 by_cases hlt : i < ss.length
 ·rw [List.getElem?_append_left hlt] at hi
  obtain ⟨u', h2, h3⟩ := hxs i t hi
  exact ⟨u', by rw [List.getElem?_append_left (by omega)]; exact h2, hS _ _ h3⟩
 ·rw [List.getElem?_append_right (by omega)] at hi
  have hz : i - ss.length = 0 := by have := (List.getElem?_eq_some_iff.1 hi).1; simp only [List.length_singleton] at this; omega
  rw [hz] at hi
  injection hi with hi
  subst hi
  exact ⟨u, by rw [List.getElem?_append_right (by omega), hl, hz]; rfl, hS _ _ hu⟩
def hasB (ss : List ByteArray) (s : ByteArray) : Bool := ss.any fun t => t.toList == s.toList
theorem hasB_yes {ss : List ByteArray} {s : ByteArray} (h : s ∈ ss) : hasB ss s = true := List.any_eq_true.2 ⟨s, h, beq_self_eq_true _⟩
theorem hasB_no {ss : List ByteArray} {s : ByteArray} (h : s ∉ ss) : hasB ss s = false := List.any_eq_false.2 fun t ht e => h (toList_inj (beq_iff_eq.1 e) ▸ ht)
set_option maxRecDepth 20000 in
set_option maxHeartbeats 4000000 in
theorem has86 {base : Nat} {v u : Value} {ss : List ByteArray} {s : ByteArray} (w : World) (hv : VS w base v ss) (hu : S1 w u s) (hl : ss.length ≤ 5000) : Calls Tryz.prog 86 #[v, u] w fun e w' => e = .returned (.bool (hasB ss s)) ∧ Below w.heap.size w w' := by
 obtain ⟨A, c, rfl, hc⟩ := hv.slice
 obtain ⟨n, hn⟩ : ∃ n, n = ss.length := ⟨_, rfl⟩
 rw [← hn] at hv hc ⊢
 have hn2 : (n : Int) ≤ 5000 := by omega
 have H := Lib.hid (And.intro hv (And.intro hu hn))
 obtain ⟨b, hb⟩ : ∃ b, b = hasB ss s := ⟨_, rfl⟩
 rw [← hb]
 have HB := Lib.hid hb
 clear hv hu hn hb hl
 by_cases hn0 : n = 0
 ·have hbf : b = false := by
   rw [HB.out]
   have : ss = [] := List.eq_nil_of_length_eq_zero (by have := H.out.2.2; omega)
   exact hasB_no (by rw [this]; simp)
  subst hbf
  subst hn0
  go_enter Tryz.func86, Tryz.ntmps86
  go_wp2_with fail
  go_ret
  exact ⟨rfl, Below.refl _ _⟩
 have hn1 : ((n : Int) == 0) = false := beq_false_of_ne (by omega)
 have hn3 : (n == 0) = false := beq_false_of_ne hn0
 go_enter Tryz.func86, Tryz.ntmps86
 go_wp2_with fail
 go_loopg [11] n (fun k i wr => ∃ j : Nat, j + k = n ∧ i = .int .i64 (j : Int) ∧ Hid (Below w.heap.size w wr) ∧ Hid (s ∉ ss.take j))
 case atStart => exact ⟨0, by omega, rfl, Lib.hid (by repeat (first | exact Below.refl _ _ | apply below_alloc | apply pw_below_drewN | apply below_drew)), Lib.hid (by simp)⟩
 case round =>
  obtain ⟨j, hj, rfl, HBL, HNO⟩ := hrel
  by_cases hlt : 1 ≤ gk
  ·have hj2 : (j : Int) < (n : Int) := by omega
   have hj3 : j < n := by omega
   have hj4 : j < c := by omega
   obtain ⟨t, ht⟩ : ∃ t, ss[j]? = some t := ⟨_, List.getElem?_eq_getElem (by have := H.out.2.2; omega)⟩
   obtain ⟨g, x, rfl, hcell, hx⟩ := (H.out.1.under HBL.out).cell ht
   have HX := Lib.hid (And.intro hx ht)
   clear hx ht
   go_wp2_with fail
   refine (equal107 _ HX.out.1 (H.out.2.1.under HBL.out)).mono ?_
   rintro e w1 ⟨rfl, hb⟩
   obtain ⟨q, hq⟩ : ∃ q, q = (t.toList == s.toList) := ⟨_, rfl⟩
   rw [← hq]
   have HQ := Lib.hid hq
   have HB1 := Lib.hid (HBL.out.trans (hb.mono HBL.out.size))
   clear hq hb hcell
   cases q with
   | true =>
    have hbt : b = true := by
     rw [HB.out]
     have : t = s := toList_inj (beq_iff_eq.1 HQ.out.symm)
     exact hasB_yes (this ▸ List.mem_of_getElem? HX.out.2)
    subst hbt
    go_wp2_with fail
    go_ret
    exact ⟨rfl, HB1.out⟩
   | false =>
    go_wp2_with fail
    go_roundg (gk - 1)
    case measure => omega
    case rel =>
     refine ⟨j + 1, by omega, by go_num, HB1, Lib.hid ?_⟩
     rw [List.take_add_one, HX.out.2, Option.toList_some, List.mem_append, List.mem_singleton]
     rintro (h | h)
     ·exact HNO.out h
     ·have := HQ.out
      rw [h] at this
      simp at this
  ·have hj2 : ¬ ((j : Int) < (n : Int)) := by omega
   have hj3 : ¬ (j < n) := by omega
   have hbf : b = false := by
    rw [HB.out]
    refine hasB_no ?_
    have := HNO.out
    rw [List.take_of_length_le (by have := H.out.2.2; omega)] at this
    exact this
   subst hbf
   go_wp2_with fail
   go_ret
   exact ⟨rfl, HBL.out⟩
def AppV (w : World) (base : Nat) (v : Value) (ss : List ByteArray) (s : ByteArray) (v1 : Value) (w' : World) : Prop :=
 VS w' base v1 (ss ++ [s]) ∧ Keep (fun k => v.ownBlock = some k) w w' ∧ (v1.ownBlock = v.ownBlock ∨ ∃ b, v1.ownBlock = some b ∧ w.heap.size ≤ b)
set_option maxRecDepth 20000 in
set_option maxHeartbeats 4000000 in
theorem insert87 {base : Nat} {v u : Value} {ss : List ByteArray} {s : ByteArray} (w : World) (hv : VS w base v ss) (hbase : base ≤ w.heap.size) (hu : S1 w u s) (hl : ss.length ≤ 5000) (hno : s ∉ ss) : Calls Tryz.prog 87 #[v, u] w fun e w' => ∃ v1, e = .returned v1 ∧ AppV w base v ss s v1 w' := by
 have H := Lib.hid (And.intro hv (And.intro hbase (And.intro hu (And.intro hl hno))))
 have hcall := has86 w hv hu hl
 rw [hasB_no hno] at hcall
 have HC := Lib.hid hcall
 have hu0 := hu
 obtain ⟨g0, c0, cs0, rfl, _⟩ := hu0
 clear hv hbase hu hl hno hcall
 go_enter Tryz.func87, Tryz.ntmps87
 go_wp2_with fail
 refine HC.out.mono ?_
 rintro e w1 ⟨rfl, hb⟩
 have HB := Lib.hid hb
 obtain ⟨xs, ho, hs⟩ := H.out.1.under hb
 have HV := Lib.hid (And.intro ho hs)
 have HU := Lib.hid (H.out.2.2.1.under hb)
 clear hb ho hs
 go_wp2_with (at_builtin; refine list_app (base := base) (by exact Nat.le_trans H.out.2.1 HB.out.size) 140 22 (.slice none 0 0) 24 [.slice (some ⟨g0, 0, none⟩) 1 c0] 1 rfl rfl rfl Tryz.underlying140 info22 rfl (by omega) v ss.length xs (by rfl) (by rfl) (by simp [Value.oneCell']) HV.out.1 (by have := H.out.2.2.2.1; omega) ?_; intro v1 w2 hown1 hg1 hat1; have HO1 := Lib.hid hown1; have HG1 := Lib.hid (And.intro hg1 hat1); clear hown1 hg1 hat1)
 refine bodyPost_ret (v := v1) (by simp [results, Tryz.results87, go_sem]) rfl ⟨v1, rfl, ?_, ?_, ?_⟩
 ·exact VS.snoc ⟨xs, HV.out⟩ HV.out.2 (by have := HV.out.1.1; omega) HV.out.1 HU.out HO1.out HG1.out.1
 ·exact (Keep.of_below HB.out _).trans ((Keep.refl _ _).grown HG1.out.1 fun k _ h => h) fun k _ h => h
 ·rcases HG1.out.2 with h | ⟨b, h1, h2⟩
  ·exact .inl h
  ·exact .inr ⟨b, h1, Nat.le_trans HB.out.size h2⟩
end Go.Proofs.YtghmajlfmoggfaaGreat
