import Derived.Test.YtghmajlfmoggfaaGreatMB1
import Derived.Test.YtghmajlfmoggfaaGreatMX0
set_option linter.unusedSimpArgs false
set_option linter.unusedVariables false
namespace Go.Proofs.YtghmajlfmoggfaaGreat
open Go.RowKit Go.Proofs.YtghmajlfmoggfaaGreatW.PrintWords Go.Proofs.YtghmajlfmoggfaaGreatW.PrintLast PFnMerge
def SrcAt (w : World) (sb : Nat) (dp sp : Option Addr) : Prop := ∃ cur : Array Value, w.heap[sb]? = some (.cells cur 47 (0, 0)) ∧ cur[0]? = some (.pointer dp) ∧ cur[1]? = some (.pointer sp)
theorem SrcAt.c0 {w : World} {sb : Nat} {dp sp : Option Addr} (h : SrcAt w sb dp sp) : w.cell? ⟨sb, 0, none⟩ = some (.pointer dp) := by obtain ⟨cur, h1, h2, _⟩ := h; exact (blk_cell h1 0).trans h2
theorem SrcAt.c1 {w : World} {sb : Nat} {dp sp : Option Addr} (h : SrcAt w sb dp sp) : w.cell? ⟨sb, 1, none⟩ = some (.pointer sp) := by obtain ⟨cur, h1, _, h2⟩ := h; exact (blk_cell h1 1).trans h2
theorem SrcAt.fz {w : World} {sb : Nat} {dp sp : Option Addr} (h : SrcAt w sb dp sp) (i : Nat) : w.frozen? ⟨sb, i, none⟩ = false := by obtain ⟨cur, h1, _, h2⟩ := h; exact blk_frozen h1 i
theorem SrcAt.lt {w : World} {sb : Nat} {dp sp : Option Addr} (h : SrcAt w sb dp sp) : sb < w.heap.size := by obtain ⟨cur, h1, _, h2⟩ := h; exact blk_lt h1
theorem SrcAt.under {w w' : World} {sb : Nat} {dp sp : Option Addr} (h : SrcAt w sb dp sp) (hb : Below w.heap.size w w') : SrcAt w' sb dp sp := by obtain ⟨cur, h1, h2⟩ := h; exact ⟨cur, (hb.block _ (blk_lt h1)).trans h1, h2⟩
def NodeQ (w : World) (q : Option Addr) : Prop := q = none ∨ ∃ r b k tag val A n c, q = some ⟨r, 0, none⟩ ∧ RNB w r b ∧ NodeB w b k tag val (.slice A n c) ∧ (k == 1) = false ∧ ((k != 8) = false ∨ (k != 8) = true ∧ ((n : Int) == 0) = false)
theorem NodeQ.under {w w' : World} {q : Option Addr} (h : NodeQ w q) (hb : Below w.heap.size w w') : NodeQ w' q := by
 rcases h with h | ⟨r, b, k, tag, val, A, n, c, h1, h2, h3, h4⟩
 ·exact .inl h
 ·exact .inr ⟨r, b, k, tag, val, A, n, c, h1, h2.under hb, h3.under hb, h4⟩
section
variable {sb c : Nat} {dp sp : Option Addr}
set_option maxHeartbeats 400000 in
theorem origin162 (w : World) (hs : SrcAt w sb dp sp) :
  Calls Tryz.prog 162 #[.slice (some ⟨sb, 0, none⟩) 2 c] w fun e w' => e = .returned (.pointer sp) ∧ w = w' := by
 have h1 := hs.c1
 clear hs
 go_enter Tryz.func162, Tryz.ntmps162
 go_wp2
 go_ret
 exact ⟨rfl, rfl⟩
set_option maxHeartbeats 400000 in
theorem dest163 (w : World) (hs : SrcAt w sb dp sp) :
  Calls Tryz.prog 163 #[.slice (some ⟨sb, 0, none⟩) 2 c] w fun e w' => e = .returned (.pointer dp) ∧ w = w' := by
 have h1 := hs.c0
 clear hs
 go_enter Tryz.func163, Tryz.ntmps163
 go_wp2
 go_ret
 exact ⟨rfl, rfl⟩
set_option maxRecDepth 20000 in
set_option maxHeartbeats 1000000 in
theorem comments157 (w : World) (hs : SrcAt w sb dp sp) (hd : NodeQ w dp) (ho : NodeQ w sp) :
  Calls Tryz.prog 157 #[.agg #[], .slice (some ⟨sb, 0, none⟩) 2 c] w fun e w' => e = .returned .nilIface ∧ Below w.heap.size w w' := by
 have HS := Lib.hid (hs.under (below_alloc (Below.refl _ _) (.cells #[] 60)))
 clear hs
 rcases hd with rfl | ⟨r1, b1, k1, tag1, val1, A1, n1, c1, rfl, hr1, hb1, hk1, hl1⟩
 ·clear ho
  go_enter Tryz.func157, Tryz.ntmps157
  go_wp2_with (first | (go_at_call 162; (with_reducible refine Calls.mono (origin162 _ HS.out) ?_); rintro e w' ⟨rfl, rfl⟩) | (go_at_call 163; (with_reducible refine Calls.mono (dest163 _ HS.out) ?_); rintro e w' ⟨rfl, rfl⟩))
  go_ret
  exact ⟨rfl, below_alloc (Below.refl _ _) _⟩
 ·clear hl1
  have HD := Lib.hid (ynode_some _ (hr1.under (below_alloc (Below.refl _ _) (.cells #[] 60))) (hb1.under (below_alloc (Below.refl _ _) (.cells #[] 60))) hk1)
  clear hr1 hb1 hk1
  rcases ho with rfl | ⟨r2, b2, k2, tag2, val2, A2, n2, c2, rfl, hr2, hb2, hk2, hl2⟩
  ·go_enter Tryz.func157, Tryz.ntmps157
   go_wp2_with (first | (go_at_call 162; (with_reducible refine Calls.mono (origin162 _ HS.out) ?_); rintro e w' ⟨rfl, rfl⟩) | (go_at_call 163; (with_reducible refine Calls.mono (dest163 _ HS.out) ?_); rintro e w' ⟨rfl, rfl⟩) | (go_at_call 42; (with_reducible refine Calls.mono HD.out ?_); rintro e w' ⟨rfl, rfl⟩))
   go_ret
   exact ⟨rfl, below_alloc (Below.refl _ _) _⟩
  ·clear hl2
   have hb2' := hb2.under (below_alloc (Below.refl _ _) (.cells #[] 60))
   have HO := Lib.hid (ynode_some _ (hr2.under (below_alloc (Below.refl _ _) (.cells #[] 60))) hb2' hk2)
   have h7 := hb2'.c7
   have h8 := hb2'.c8
   have h9 := hb2'.c9
   clear hr2 hb2 hk2 hb2'
   go_enter Tryz.func157, Tryz.ntmps157
   go_wp2_with (first | (go_at_call 162; (with_reducible refine Calls.mono (origin162 _ HS.out) ?_); rintro e w' ⟨rfl, rfl⟩) | (go_at_call 163; (with_reducible refine Calls.mono (dest163 _ HS.out) ?_); rintro e w' ⟨rfl, rfl⟩) | (go_at_call 42; (first | (with_reducible refine Calls.mono HD.out ?_) | (with_reducible refine Calls.mono HO.out ?_)); rintro e w' ⟨rfl, rfl⟩))
   go_ret
   exact ⟨rfl, below_alloc (Below.refl _ _) _⟩
end
end Go.Proofs.YtghmajlfmoggfaaGreat
namespace Go.Proofs.YtghmajlfmoggfaaGreat
open Go.RowKit Go.Proofs.YtghmajlfmoggfaaGreatW.PrintWords Go.Proofs.YtghmajlfmoggfaaGreatW.PrintLast PFnMerge
section
variable {sb c : Nat} {dp sp : Option Addr}
set_option maxRecDepth 20000 in
set_option maxHeartbeats 1000000 in
theorem style161 (w : World) (hs : SrcAt w sb dp sp) (hd : NodeQ w dp) (ho : NodeQ w sp) :
  Calls Tryz.prog 161 #[.agg #[], .slice (some ⟨sb, 0, none⟩) 2 c] w fun e w' => e = .returned .nilIface ∧ Below w.heap.size w w' := by
 have HS := Lib.hid (hs.under (below_alloc (Below.refl _ _) (.cells #[] 60)))
 clear hs
 rcases hd with rfl | ⟨r1, b1, k1, tag1, val1, A1, n1, c1, rfl, hr1, hb1, hk1, hl1⟩
 ·clear ho
  go_enter Tryz.func161, Tryz.ntmps161
  go_wp2_with (first | (go_at_call 162; (with_reducible refine Calls.mono (origin162 _ HS.out) ?_); rintro e w' ⟨rfl, rfl⟩) | (go_at_call 163; (with_reducible refine Calls.mono (dest163 _ HS.out) ?_); rintro e w' ⟨rfl, rfl⟩))
  go_ret
  exact ⟨rfl, below_alloc (Below.refl _ _) _⟩
 ·have hb1' := hb1.under (below_alloc (Below.refl _ _) (.cells #[] 60))
  have HD := Lib.hid (ynode_some _ (hr1.under (below_alloc (Below.refl _ _) (.cells #[] 60))) hb1' hk1)
  have h0 := hb1'.c0
  have h6 := hb1'.c6
  clear hr1 hb1 hk1 hb1'
  rcases ho with rfl | ⟨r2, b2, k2, tag2, val2, A2, n2, c2, rfl, hr2, hb2, hk2, hl2⟩
  ·clear hl1
   go_enter Tryz.func161, Tryz.ntmps161
   go_wp2_with (first | (go_at_call 162; (with_reducible refine Calls.mono (origin162 _ HS.out) ?_); rintro e w' ⟨rfl, rfl⟩) | (go_at_call 163; (with_reducible refine Calls.mono (dest163 _ HS.out) ?_); rintro e w' ⟨rfl, rfl⟩) | (go_at_call 42; (with_reducible refine Calls.mono HD.out ?_); rintro e w' ⟨rfl, rfl⟩))
   go_ret
   exact ⟨rfl, below_alloc (Below.refl _ _) _⟩
  ·clear hl2
   have HO := Lib.hid (ynode_some _ (hr2.under (below_alloc (Below.refl _ _) (.cells #[] 60))) (hb2.under (below_alloc (Below.refl _ _) (.cells #[] 60))) hk2)
   clear hr2 hb2 hk2
   rcases hl1 with hl1 | ⟨hl1, hl2⟩
   all_goals
    go_enter Tryz.func161, Tryz.ntmps161
    go_wp2_with (first | (go_at_call 162; (with_reducible refine Calls.mono (origin162 _ HS.out) ?_); rintro e w' ⟨rfl, rfl⟩) | (go_at_call 163; (with_reducible refine Calls.mono (dest163 _ HS.out) ?_); rintro e w' ⟨rfl, rfl⟩) | (go_at_call 42; (first | (with_reducible refine Calls.mono HD.out ?_) | (with_reducible refine Calls.mono HO.out ?_)); rintro e w' ⟨rfl, rfl⟩))
    go_ret
    exact ⟨rfl, below_alloc (Below.refl _ _) _⟩
set_option maxRecDepth 20000 in
set_option maxHeartbeats 1000000 in
theorem visitScalar160 (w : World) (hs : SrcAt w sb dp sp) (hd : NodeQ w dp) (ho : NodeQ w sp) :
  Calls Tryz.prog 160 #[.agg #[], .slice (some ⟨sb, 0, none⟩) 2 c, .pointer none] w fun e w' => e = .returned (.tuple #[.pointer (sp.or dp), .nilIface]) ∧ Below w.heap.size w w' := by
 have HS := Lib.hid hs
 have HD := Lib.hid hd
 have HO := Lib.hid ho
 clear hs hd ho
 go_enter Tryz.func160, Tryz.ntmps160
 go_wp2_with fail
 have hb0 : Below w.heap.size w (w.alloc (.cells #[] 60)) := below_alloc (Below.refl _ _) _
 refine Calls.mono (comments157 _ (HS.out.under hb0) (HD.out.under hb0) (HO.out.under hb0)) ?_
 rintro e w1 ⟨rfl, hb1⟩
 have HB1 := Lib.hid (hb0.trans (hb1.mono hb0.size))
 clear hb1 hb0
 go_wp2_with fail
 refine Calls.mono (style161 _ (HS.out.under HB1.out) (HD.out.under HB1.out) (HO.out.under HB1.out)) ?_
 rintro e w2 ⟨rfl, hb2⟩
 have HB2 := Lib.hid (HB1.out.trans (hb2.mono HB1.out.size))
 clear hb2 HB1
 have HS2 := Lib.hid (HS.out.under HB2.out)
 cases sp
 all_goals
  go_wp2_with (first | (go_at_call 162; (with_reducible refine Calls.mono (origin162 _ HS2.out) ?_); rintro e w' ⟨rfl, rfl⟩) | (go_at_call 163; (with_reducible refine Calls.mono (dest163 _ HS2.out) ?_); rintro e w' ⟨rfl, rfl⟩))
  go_ret2
  exact ⟨rfl, HB2.out⟩
set_option maxRecDepth 20000 in
set_option maxHeartbeats 1000000 in
theorem visitList158 (w : World) (hs : SrcAt w sb dp sp) (hd : NodeQ w dp) (ho : NodeQ w sp) :
  Calls Tryz.prog 158 #[.agg #[], .slice (some ⟨sb, 0, none⟩) 2 c, .pointer none, .int .i32 2] w fun e w' => e = .returned (.tuple #[.pointer (sp.or dp), .nilIface]) ∧ Below w.heap.size w w' := by
 have HS := Lib.hid hs
 have HD := Lib.hid hd
 have HO := Lib.hid ho
 clear hs hd ho
 go_enter Tryz.func158, Tryz.ntmps158
 go_wp2_with fail
 have hb0 : Below w.heap.size w (w.alloc (.cells #[] 60)) := below_alloc (Below.refl _ _) _
 refine Calls.mono (comments157 _ (HS.out.under hb0) (HD.out.under hb0) (HO.out.under hb0)) ?_
 rintro e w1 ⟨rfl, hb1⟩
 have HB1 := Lib.hid (hb0.trans (hb1.mono hb0.size))
 clear hb1 hb0
 go_wp2_with fail
 refine Calls.mono (style161 _ (HS.out.under HB1.out) (HD.out.under HB1.out) (HO.out.under HB1.out)) ?_
 rintro e w2 ⟨rfl, hb2⟩
 have HB2 := Lib.hid (HB1.out.trans (hb2.mono HB1.out.size))
 clear hb2 HB1
 have HS2 := Lib.hid (HS.out.under HB2.out)
 cases sp
 all_goals
  go_wp2_with (first | (go_at_call 162; (with_reducible refine Calls.mono (origin162 _ HS2.out) ?_); rintro e w' ⟨rfl, rfl⟩) | (go_at_call 163; (with_reducible refine Calls.mono (dest163 _ HS2.out) ?_); rintro e w' ⟨rfl, rfl⟩))
  go_ret2
  exact ⟨rfl, HB2.out⟩
end
def MapQ (w : World) (q : Option Addr) : Prop := ∃ r b C kids, q = some ⟨r, 0, none⟩ ∧ RNB w r b ∧ MapAt w b C kids ∧ kids ≠ [] ∧ kids.find? (hasKey patchKey) = none
theorem MapQ.nodeQ {w : World} {q : Option Addr} (h : MapQ w q) : NodeQ w q := by
 obtain ⟨r, b, C, kids, rfl, hr, hm, hne, hno⟩ := h
 obtain ⟨F, hrow⟩ := hm.row
 obtain ⟨A, c, rfl, _, _⟩ := hrow.slice
 refine .inr ⟨r, b, 4, _, _, A, _, c, rfl, hr, hm.node, rfl, .inr ⟨rfl, ?_⟩⟩
 rw [two_length]
 have : 0 < kids.length := List.length_pos_iff.2 hne
 rw [beq_eq_false_iff_ne]
 omega
theorem MapQ.under {w w' : World} {q : Option Addr} (h : MapQ w q) (hb : Below w.heap.size w w') : MapQ w' q := by
 obtain ⟨r, b, C, kids, rfl, hr, hm, hne, hno⟩ := h
 exact ⟨r, b, C, kids, rfl, hr.under hb, hm.under hb, hne, hno⟩
section
variable {sb c : Nat} {dp sp : Option Addr}
set_option maxRecDepth 20000 in
set_option maxHeartbeats 1000000 in
theorem visitMap_d (w : World) (hs : SrcAt w sb dp sp) (hd : MapQ w dp) (ho : sp = none ∨ MapQ w sp) :
  Calls Tryz.prog 159 #[.agg #[], .slice (some ⟨sb, 0, none⟩) 2 c, .pointer none] w fun e w' => e = .returned (.tuple #[.pointer dp, .nilIface]) ∧ Below w.heap.size w w' := by
 have HS := Lib.hid hs
 have HM := Lib.hid hd
 have HD := Lib.hid hd.nodeQ
 have HO : Hid (NodeQ w sp) := Lib.hid (ho.elim .inl MapQ.nodeQ)
 have HQ := Lib.hid ho
 clear hs hd ho
 go_enter Tryz.func159, Tryz.ntmps159
 go_wp2_with fail
 have hb0 : Below w.heap.size w (w.alloc (.cells #[] 60)) := below_alloc (Below.refl _ _) _
 refine Calls.mono (comments157 _ (HS.out.under hb0) (HD.out.under hb0) (HO.out.under hb0)) ?_
 rintro e w1 ⟨rfl, hb1⟩
 have HB1 := Lib.hid (hb0.trans (hb1.mono hb0.size))
 clear hb1 hb0
 go_wp2_with fail
 refine Calls.mono (style161 _ (HS.out.under HB1.out) (HD.out.under HB1.out) (HO.out.under HB1.out)) ?_
 rintro e w2 ⟨rfl, hb2⟩
 have HB2 := Lib.hid (HB1.out.trans (hb2.mono HB1.out.size))
 clear hb2 HB1
 have HS2 := Lib.hid (HS.out.under HB2.out)
 obtain ⟨r1, b1, C1, kids1, rfl, hr1, hm1, _, _⟩ := HM.out.under HB2.out
 have HN1 := Lib.hid (missing_no _ hr1 hm1.node rfl (by decide +kernel))
 clear hr1 hm1
 rcases HQ.out with rfl | hq
 ·go_wp2_with (first | (go_at_call 162; (with_reducible refine Calls.mono (origin162 _ HS2.out) ?_); rintro e w' ⟨rfl, rfl⟩) | (go_at_call 163; (with_reducible refine Calls.mono (dest163 _ HS2.out) ?_); rintro e w' ⟨rfl, rfl⟩) | (go_at_call 55; (with_reducible refine Calls.mono HN1.out ?_); rintro e w' ⟨rfl, rfl⟩) | (go_at_call 164; (with_reducible refine Calls.mono (tagged_nil _) ?_); rintro e w' ⟨rfl, rfl⟩) | (go_at_call 166; (with_reducible refine Calls.mono (det166_nil _) ?_); rintro e w' ⟨rfl, rfl⟩))
  go_ret2
  exact ⟨rfl, HB2.out⟩
 ·obtain ⟨r2, b2, C2, kids2, rfl, hr2, hm2, _, hno2⟩ := hq.under HB2.out
  have ht2 := tagged_any _ hr2 hm2.node rfl
  rw [show (noStr.toList == [33, 33, 110, 117, 108, 108]) = false from by decide +kernel] at ht2
  have HT2 := Lib.hid ht2
  have HE2 := Lib.hid (det166_map _ hr2 hm2 hno2)
  clear hr2 hm2 hno2 ht2
  go_wp2_with (first | (go_at_call 162; (with_reducible refine Calls.mono (origin162 _ HS2.out) ?_); rintro e w' ⟨rfl, rfl⟩) | (go_at_call 163; (with_reducible refine Calls.mono (dest163 _ HS2.out) ?_); rintro e w' ⟨rfl, rfl⟩) | (go_at_call 55; (with_reducible refine Calls.mono HN1.out ?_); rintro e w' ⟨rfl, rfl⟩) | (go_at_call 164; (with_reducible refine Calls.mono HT2.out ?_); rintro e w' ⟨rfl, rfl⟩))
  refine Calls.mono HE2.out ?_
  rintro e w3 ⟨rfl, hb3⟩
  have HB3 := Lib.hid (HB2.out.trans (hb3.mono HB2.out.size))
  have HS3 := Lib.hid (HS.out.under HB3.out)
  clear hb3 HS2
  go_wp2_with (go_at_call 163; (with_reducible refine Calls.mono (dest163 _ HS3.out) ?_); rintro e w' ⟨rfl, rfl⟩)
  go_ret2
  exact ⟨rfl, HB3.out⟩
set_option maxRecDepth 20000 in
set_option maxHeartbeats 1000000 in
theorem visitMap_n (w : World) (hs : SrcAt w sb none sp) (ho : MapQ w sp) :
  Calls Tryz.prog 159 #[.agg #[], .slice (some ⟨sb, 0, none⟩) 2 c, .pointer none] w fun e w' => e = .returned (.tuple #[.pointer sp, .nilIface]) ∧ Below w.heap.size w w' := by
 have HS := Lib.hid hs
 have HD : Hid (NodeQ w none) := Lib.hid (.inl rfl)
 have HO : Hid (NodeQ w sp) := Lib.hid ho.nodeQ
 have HQ := Lib.hid ho
 clear hs ho
 go_enter Tryz.func159, Tryz.ntmps159
 go_wp2_with fail
 have hb0 : Below w.heap.size w (w.alloc (.cells #[] 60)) := below_alloc (Below.refl _ _) _
 refine Calls.mono (comments157 _ (HS.out.under hb0) (HD.out.under hb0) (HO.out.under hb0)) ?_
 rintro e w1 ⟨rfl, hb1⟩
 have HB1 := Lib.hid (hb0.trans (hb1.mono hb0.size))
 clear hb1 hb0
 go_wp2_with fail
 refine Calls.mono (style161 _ (HS.out.under HB1.out) (HD.out.under HB1.out) (HO.out.under HB1.out)) ?_
 rintro e w2 ⟨rfl, hb2⟩
 have HB2 := Lib.hid (HB1.out.trans (hb2.mono HB1.out.size))
 clear hb2 HB1
 have HS2 := Lib.hid (HS.out.under HB2.out)
 obtain ⟨r2, b2, C2, kids2, rfl, hr2, hm2, _, hno2⟩ := HQ.out.under HB2.out
 have HE2 := Lib.hid (det166_map _ hr2 hm2 hno2)
 clear hr2 hm2 hno2
 go_wp2_with (first | (go_at_call 162; (with_reducible refine Calls.mono (origin162 _ HS2.out) ?_); rintro e w' ⟨rfl, rfl⟩) | (go_at_call 163; (with_reducible refine Calls.mono (dest163 _ HS2.out) ?_); rintro e w' ⟨rfl, rfl⟩) | (go_at_call 55; (with_reducible refine Calls.mono (missing_nil _) ?_); rintro e w' ⟨rfl, rfl⟩))
 refine Calls.mono HE2.out ?_
 rintro e w3 ⟨rfl, hb3⟩
 have HB3 := Lib.hid (HB2.out.trans (hb3.mono HB2.out.size))
 have HS3 := Lib.hid (HS.out.under HB3.out)
 obtain ⟨r3, b3, C3, kids3, he3, hr3, hm3, _, hno3⟩ := HQ.out.under HB3.out
 injection he3 with he3
 injection he3 with he3
 subst he3
 have HI3 := Lib.hid (isNil_some _ hr3 hm3.node rfl)
 clear hb3 HS2 hr3 hm3 hno3
 go_wp2_with (first | (go_at_call 162; (with_reducible refine Calls.mono (origin162 _ HS3.out) ?_); rintro e w' ⟨rfl, rfl⟩) | (go_at_call 72; (with_reducible refine Calls.mono HI3.out ?_); rintro e w' ⟨rfl, rfl⟩))
 go_ret2
 exact ⟨rfl, HB3.out⟩
end
end Go.Proofs.YtghmajlfmoggfaaGreat
namespace Go.Proofs.YtghmajlfmoggfaaGreat
open Go.RowKit Go.Proofs.YtghmajlfmoggfaaGreatW.PrintWords Go.Proofs.YtghmajlfmoggfaaGreatW.PrintLast
section
variable {P : Program} {ops : Array Oper} {Q : Exit → Act → World → Prop} {md : Region.Mode} {S : World → Prop} {ds : List Nat}
def YieldsC (P : Program) (ops : Array Oper) (S : World → Prop) (o : Oper) (v : Value) (a : Act) : Prop :=
 (Region.wanted o (yielded ops a.tmps) = true ∧ ∀ w, S w → (execOp a.eval o).run P w = .ok (.value v) w ∨
  ∃ f args, (execOp a.eval o).run P w = .ok (.enter f args) w ∧ Calls P f args w fun e w' => e = .returned v ∧ w = w') ∨
 (Region.wanted o (yielded ops a.tmps) = false ∧ v = undef)
theorem YieldsC.wpOp {i : Nat} {o : Oper} {v : Value} {a : Act} (hi : ops[i]? = some o) (hy : YieldsC P ops S o v a)
  {K : Act → World → Prop} {w : World} (hS : S w) (h : K (a.put o.dst v) w) : wpOp P ops Q i K a w := by
 unfold Go.wpOp
 simp only [hi]
 rcases hy with ⟨hw, hv⟩ | ⟨hw, rfl⟩
 ·simp only [hw, if_true]
  refine .inl ?_
  rcases hv w hS with hv | ⟨f, args, hv, hc⟩
  ·simp only [Oper.wp, hv, Oper.upon]; exact h
  ·simp only [Oper.wp, hv, Oper.upon]
   refine Calls.mono hc ?_
   rintro e w' ⟨rfl, rfl⟩
   exact h
 ·simp only [hw, Bool.false_eq_true, if_false]; exact h
theorem YieldsC.of_same {o : Oper} {v : Value} {a a' : Act} (hy : YieldsC P ops S o v a) (he : execOp a'.eval o = execOp a.eval o)
  (hw : Region.wanted o (yielded ops a'.tmps) = Region.wanted o (yielded ops a.tmps)) : YieldsC P ops S o v a' := by
 unfold YieldsC at *
 rw [he, hw]
 exact hy
theorem wpOp_putC {j : Nat} {oi oj : Oper} {v : Value} (hj : ops[j]? = some oj) (hap : oi.apart ops oj = true)
  (hsi : ∀ cs b, oi.op ≠ .select cs b) (hsj : ∀ cs b, oj.op ≠ .select cs b)
  (hQ : ∀ c a w, Q (.panic c) (a.put oi.dst v) w → Q (.panic c) a w) {K : Act → World → Prop} {a : Act} {w : World}
  (hy : YieldsC P ops S oi v a) (h : wpOp P ops Q j K (a.put oi.dst v) w) :
  wpOp P ops Q j (fun a' w' => YieldsC P ops S oi v a' ∧ K (a'.put oi.dst v) w') a w := by
 obtain ⟨h1, h2, h3⟩ := Oper.apart_spec hap
 have keep : ∀ (a : Act), YieldsC P ops S oi v a → ∀ u, YieldsC P ops S oi v (a.put oj.dst u) := fun a hy u =>
  hy.of_same (execOp_put oi hsi a oj.dst u h3) (wanted_put oi a oj.dst u h3)
 have keepD : ∀ d, YieldsC P ops S oi v { a with defers := d :: a.defers } := fun d => hy.of_same rfl rfl
 unfold wpOp at *
 simp only [hj] at *
 rw [wanted_put oj a oi.dst v h1] at h
 split
 ·rename_i hw
  simp only [hw, if_true] at h
  rcases h with h | ⟨hasks, hlets⟩
  case inr => exact .inr ⟨by unfold Oper.asks at *; rw [execOp_put oj hsj a oi.dst v h1] at hasks; exact hasks, hlets⟩
  refine .inl ?_
  unfold Oper.wp at *
  rw [execOp_put oj hsj a oi.dst v h1] at h
  generalize (execOp a.eval oj).run P w = r at *
  cases r with
  | ok n w' =>
   cases n <;> simp only [Oper.upon] at h ⊢
   case value u => exact ⟨keep a hy u, by rw [← Act.put_comm a v u h2]; exact h⟩
   case skip => exact ⟨keep a hy _, by rw [← Act.put_comm a v undef h2]; exact h⟩
   case defer d =>
    refine ⟨keep _ (keepD d) _, ?_⟩
    rw [← Act.put_comm _ v undef h2, ← Act.put_defers]
    exact h
   case enter f args =>
    refine Calls.mono h fun e w'' he => ?_
    cases e with
    | returned u => exact ⟨keep a hy u, by rw [← Act.put_comm a v u h2]; exact he⟩
    | panicked c => exact hQ _ _ _ he
    | outgrown => exact he
   case row row args => exact Rows.mono h fun u w'' he => ⟨keep a hy u, by rw [← Act.put_comm a v u h2]; exact he⟩
  | halt x w' =>
   cases x <;> simp only [Oper.upon] at h ⊢
   case panic u => exact hQ _ _ _ h
 ·rename_i hw
  simp only [hw] at h
  exact ⟨keep a hy _, by rw [← Act.put_comm a v undef h2]; exact h⟩
theorem wpAnyLast_firstC {i : Nat} {oi : Oper} {v : Value} (hi : ops[i]? = some oi) (hsel : ∀ (j : Nat) (o : Oper) cs b, ops[j]? = some o → o.op ≠ .select cs b)
  (hQ : ∀ c a w, Q (.panic c) (a.put oi.dst v) w → Q (.panic c) a w) (n : Nat) :
  ∀ (fuel : Nat) (listed : Array Bool) (a : Act) (w : World),
   (∀ j oj, ops[j]? = some oj → j ≠ i → listed.getD j true = false → (∀ e ∈ oj.after, Region.binds md e = true → e.on ≠ i) → oi.apart ops oj = true) →
   ListedClosed md ops listed → (∀ d ∈ ds, listed.getD d true = false → Region.reachB md ops i n d = true) →
   i ∈ Region.ready md ops listed → YieldsC P ops S oi v a → S w →
   wpAnyLast P md ops Q S ds fuel (listed.setIfInBounds i true) (a.put oi.dst v) w → wpAnyLast P md ops Q S ds (fuel + 1) listed a w := by
 intro fuel
 induction fuel with
 | zero =>
  intro listed a w _ _ _ hr hy hS H
  refine ⟨fun h => (by rw [h] at hr; cases hr), fun j hj => ?_⟩
  by_cases hji : j = i
  ·subst hji; exact hy.wpOp hi hS ⟨fun _ h => h, H⟩
  ·have := ready_mono hj hji
   rw [H.1] at this
   cases this
 | succ fuel ih =>
  intro listed a w hfree hc hd hr hy hS H
  refine ⟨fun h => (by rw [h] at hr; cases hr), fun j hj => ?_⟩
  by_cases hji : j = i
  ·subst hji; exact hy.wpOp hi hS ⟨fun _ h => h, H⟩
  ·have h1 := H.2 j (ready_mono hj hji)
   obtain ⟨hjun, oj, hoj, hall⟩ := mem_ready.1 hj
   have hiun := (mem_ready.1 hr).1
   have hnot : ∀ e ∈ oj.after, Region.binds md e = true → e.on ≠ i := fun e he hb heq => by
    have h1 := hall e he hb
    rw [heq] at h1
    rcases Nat.lt_or_ge i listed.size with h' | h'
    ·simp [h'] at hiun h1; rw [hiun] at h1; cases h1
    ·simp [Array.getElem?_eq_none h'] at h1
   have hjd : j ∉ ds := fun hm => Region.reach_not_ready hc (hd j hm hjun) hiun hj
   have h2 := wpOp_putC hoj (hfree j oj hoj hji hjun hnot) (fun cs b => hsel i oi cs b hi) (fun cs b => hsel j oj cs b hoj) hQ hy h1
   have hfree' : ∀ k ok, ops[k]? = some ok → k ≠ i → (listed.setIfInBounds j true).getD k true = false →
     (∀ e ∈ ok.after, Region.binds md e = true → e.on ≠ i) → oi.apart ops ok = true := fun k ok hk hki hun hno => by
    refine hfree k ok hk hki ?_ hno
    by_cases hjk : j = k
    ·subst hjk; exact hjun
    ·rw [getD_set_ne true hjk] at hun; exact hun
   have hd' : ∀ d ∈ ds, (listed.setIfInBounds j true).getD d true = false → Region.reachB md ops i n d = true := fun d hm hun => by
    refine hd d hm ?_
    by_cases hjk : j = d
    ·subst hjk; exact hjun
    ·rw [getD_set_ne true hjk] at hun; exact hun
   refine wpOp_mono (fun a' w' h3 => ⟨h3.2.1, ih (listed.setIfInBounds j true) a' w' hfree' (hc.set hj) hd' (ready_mono hr (Ne.symm hji)) h3.1 (h3.2.1 hjd hS) ?_⟩) h2
   rw [Array.setIfInBounds_comm _ _ hji]
   exact h3.2.2
theorem takeC_ {i : Nat} {N : Option Tmp} {oi : Oper} {v : Value} {fuel : Nat} {l : Array Bool} {a : Act} {w : World} (l' : Array Bool) (hi : ops[i]? = some oi) (hN : oi.dst = N) (hc : takeB md ops ds l l' i = true)
  (hQ : ∀ c a w, Q (.panic c) (a.put oi.dst v) w → Q (.panic c) a w) {f : FuncId} {fn : Func} {al : Array Operand} {ts : Array TypeId} (hf : P.funcs[f]? = some fn) (hname : (fn.name == "runtime.NumGoroutine") = false) (hb : fn.body.isSome = true) (args : Array Value)
  (hw : Region.wanted oi (yielded ops a.tmps) = true) (hop : oi.op = .call { callee := .value (.func f), args := al, argTypes := ts }) (hargs : al.map a.eval = args)
  (hy : ∀ w, S w → Calls P f args w fun e w' => e = .returned v ∧ w = w') (hS : S w) {a' : Act} (ha : a.put N v = a')
  (h : wpAnyLast P md ops Q S ds fuel l' a' w) : wpAnyLast P md ops Q S ds (fuel + 1) l a w := by
 subst ha
 subst hN
 simp only [takeB, Bool.and_eq_true, beq_iff_eq] at hc
 obtain ⟨⟨⟨⟨⟨h1, h2⟩, h3⟩, h4⟩, h5⟩, h6⟩ := hc
 subst h6
 refine wpAnyLast_firstC hi (Region.noSelect_spec h1) hQ ops.size fuel l a w (Region.free_spec hi h2) (Region.closedB_spec h4)
  (fun d hm hun => by have := List.all_eq_true.1 h5 d hm; rw [hun] at this; simpa using this) (by simpa using h3) (.inl ⟨hw, fun w1 hS1 => .inr ⟨f, args, ?_, hy w1 hS1⟩⟩) hS h
 have he := enters_ hf hname hb args w1
 unfold execOp
 simp [hop, resolve, Deferred.ofValue, invoke, Act.eval, hargs, he]
end
end Go.Proofs.YtghmajlfmoggfaaGreat
namespace Go.Proofs.YtghmajlfmoggfaaGreat
open Go.RowKit Go.Proofs.YtghmajlfmoggfaaGreatW.PrintWords Go.Proofs.YtghmajlfmoggfaaGreatW.PrintLast PFnMerge
theorem keep_set {w w1 : World} {cb i : Nat} {u : Value} (h : Keep (fun k => k = cb) w w1) : Keep (fun k => k = cb) w (w1.setCell ⟨cb, i, none⟩ u) := h.setCell _ _ (fun _ => rfl)
theorem keep_drew {w w1 : World} {cb : Nat} (h : Keep (fun k => k = cb) w w1) : Keep (fun k => k = cb) w w1.drew := h.drew
theorem copy12 {w : World} {cb : Nat} {k0 k : Int} {tag0 val0 tag val : ByteArray} {C0 C : Value} (hb : NodeB w cb k0 tag0 val0 C0) :
  NodeB ((((((((((((w.setCell ⟨cb, 0, none⟩ (.int .u32 k)).setCell ⟨cb, 1, none⟩ (.int .u32 0)).setCell ⟨cb, 2, none⟩ (.string tag)).setCell ⟨cb, 3, none⟩ (.string val)).setCell ⟨cb, 4, none⟩ (.string noStr)).setCell ⟨cb, 5, none⟩ (.pointer none)).setCell ⟨cb, 6, none⟩ C).setCell ⟨cb, 7, none⟩ (.string noStr)).setCell ⟨cb, 8, none⟩ (.string noStr)).setCell ⟨cb, 9, none⟩ (.string noStr)).setCell ⟨cb, 10, none⟩ (.int .i64 0)).setCell ⟨cb, 11, none⟩ (.int .i64 0)).drew cb k tag val C := by
 have key : ∀ cur : Array Value, w.heap[cb]? = some (.cells cur 85 (0, 0)) → cur = nd k0 tag0 val0 C0 → ((((((((((((w.setCell ⟨cb, 0, none⟩ (.int .u32 k)).setCell ⟨cb, 1, none⟩ (.int .u32 0)).setCell ⟨cb, 2, none⟩ (.string tag)).setCell ⟨cb, 3, none⟩ (.string val)).setCell ⟨cb, 4, none⟩ (.string noStr)).setCell ⟨cb, 5, none⟩ (.pointer none)).setCell ⟨cb, 6, none⟩ C).setCell ⟨cb, 7, none⟩ (.string noStr)).setCell ⟨cb, 8, none⟩ (.string noStr)).setCell ⟨cb, 9, none⟩ (.string noStr)).setCell ⟨cb, 10, none⟩ (.int .i64 0)).setCell ⟨cb, 11, none⟩ (.int .i64 0)).heap[cb]? = some (.cells (nd k tag val C) 85 (0, 0)) := by
  intro cur h he
  refine (blk_set (blk_set (blk_set (blk_set (blk_set (blk_set (blk_set (blk_set (blk_set (blk_set (blk_set (blk_set h 0 _) 1 _) 2 _) 3 _) 4 _) 5 _) 6 _) 7 _) 8 _) 9 _) 10 _) 11 _).trans ?_
  rw [he]
  simp only [nd, List.setIfInBounds_toArray, List.set_cons_zero, List.set_cons_succ]
 exact blk_drew (key _ hb rfl)
set_option maxRecDepth 20000 in
set_option maxHeartbeats 4000000 in
theorem setYNode188 {r cb vb : Nat} {k0 k : Int} {tag0 val0 tag val : ByteArray} {A0 A : Option Addr} {n0 c0 n c : Nat} (w : World) (hr : RNB w r cb) (hb : NodeB w cb k0 tag0 val0 (.slice A0 n0 c0)) (hv : NodeB w vb k tag val (.slice A n c)) :
  Calls Tryz.prog 188 #[.pointer (some ⟨r, 0, none⟩), .pointer (some ⟨vb, 0, none⟩)] w fun e w' => e = .returned (.tuple #[]) ∧ NodeB w' cb k tag val (.slice A n c) ∧ Keep (fun k => k = cb) w w' := by
 have hr1 := hr.cell1
 have HV := Lib.hid hv
 have HB := Lib.hid hb
 have v0 := hv.c0
 have v1 := hv.c1
 have v2 := hv.c2
 have v3 := hv.c3
 have v4 : w.cell? ⟨vb, 4, none⟩ = some (.string noStr) := (blk_cell hv 4).trans rfl
 have v5 : w.cell? ⟨vb, 5, none⟩ = some (.pointer none) := (blk_cell hv 5).trans rfl
 have v6 := hv.c6
 have v7 := hv.c7
 have v8 := hv.c8
 have v9 := hv.c9
 have v10 : w.cell? ⟨vb, 10, none⟩ = some (.int .i64 0) := (blk_cell hv 10).trans rfl
 have v11 : w.cell? ⟨vb, 11, none⟩ = some (.int .i64 0) := (blk_cell hv 11).trans rfl
 have b0 := hb.c0
 have b1 := hb.c1
 have b2 := hb.c2
 have b3 := hb.c3
 have b4 : w.cell? ⟨cb, 4, none⟩ = some (.string noStr) := (blk_cell hb 4).trans rfl
 have b5 : w.cell? ⟨cb, 5, none⟩ = some (.pointer none) := (blk_cell hb 5).trans rfl
 have b6 := hb.c6
 have b7 := hb.c7
 have b8 := hb.c8
 have b9 := hb.c9
 have b10 : w.cell? ⟨cb, 10, none⟩ = some (.int .i64 0) := (blk_cell hb 10).trans rfl
 have b11 : w.cell? ⟨cb, 11, none⟩ = some (.int .i64 0) := (blk_cell hb 11).trans rfl
 have f0 := hb.fz 0
 have f1 := hb.fz 1
 have f2 := hb.fz 2
 have f3 := hb.fz 3
 have f4 := hb.fz 4
 have f5 := hb.fz 5
 have f6 := hb.fz 6
 have f7 := hb.fz 7
 have f8 := hb.fz 8
 have f9 := hb.fz 9
 have f10 := hb.fz 10
 have f11 := hb.fz 11
 clear hr hb hv
 go_enter Tryz.func188, Tryz.ntmps188
 go_wp2_with fail
 go_region
 all_goals go_end0
 all_goals
  refine ⟨rfl, copy12 HB.out, ?_⟩
  exact keep_drew (keep_set (keep_set (keep_set (keep_set (keep_set (keep_set (keep_set (keep_set (keep_set (keep_set (keep_set (keep_set (Keep.refl _ _)))))))))))))
theorem restyle {w : World} {b : Nat} {k : Int} {tag val : ByteArray} {C : Value} (h : NodeB w b k tag val C) (j : Nat) : (w.setCell ⟨b, 1, none⟩ (.int .u32 0)).heap[j]? = w.heap[j]? := by
 by_cases e : j = b
 ·subst e
  refine (blk_set h 1 _).trans ?_
  rw [show w.heap[j]? = _ from h]
  simp only [nd, List.setIfInBounds_toArray, List.set_cons_zero, List.set_cons_succ]
 ·exact Below.heap_setCell _ _ _ _ e
theorem NodeB.restyled {w : World} {b b' : Nat} {k k' : Int} {tag val tag' val' : ByteArray} {C C' : Value} (h : NodeB w b k tag val C) (h' : NodeB w b' k' tag' val' C') : NodeB (w.setCell ⟨b, 1, none⟩ (.int .u32 0)) b' k' tag' val' C' := (restyle h b').trans h'
theorem RNB.restyled {w : World} {b r' b' : Nat} {k : Int} {tag val : ByteArray} {C : Value} (h : NodeB w b k tag val C) (h' : RNB w r' b') : RNB (w.setCell ⟨b, 1, none⟩ (.int .u32 0)) r' b' := (restyle h r').trans h'
set_option maxRecDepth 20000 in
set_option maxHeartbeats 2000000 in
theorem set_found {r b vr vb : Nat} {C : Value} {kids : List Kid} {kid : Kid} {kd name : ByteArray} {k0 k : Int} {tag0 val0 tag val : ByteArray} {A0 A : Option Addr} {n0 c0 n c : Nat} {c1 c2 c3 : ByteArray} (w : World)
  (hr : RNB w r b) (hm : MapAt w b C kids) (hne : name.toList.isEmpty = false) (hk : kids.find? (hasKey name) = some kid) (hcb : NodeB w kid.cb k0 tag0 val0 (.slice A0 n0 c0)) (hk0 : (k0 == 1) = false)
  (hvr : RNB w vr vb) (hvb : NodeB w vb k tag val (.slice A n c)) (hk1 : (k == 1) = false) (hnn : (tag.toList == [33, 33, 110, 117, 108, 108]) = false) :
  Calls Tryz.prog 187 #[.agg #[.string kd, .string name, .string c1, .string c2, .string c3, .pointer (some ⟨vr, 0, none⟩), .string noStr, .bool false, .int .u32 0], .pointer (some ⟨r, 0, none⟩)] w fun e w' =>
   ∃ q, e = .returned (.tuple #[.pointer q, .nilIface]) ∧ NodeB w' kid.cb k tag val (.slice A n c) ∧ Keep (fun j => j = kid.cb) w w' := by
 have HR := Lib.hid hr
 have HM := Lib.hid hm
 have HK := Lib.hid hk
 have HC := Lib.hid hcb
 have HV := Lib.hid hvr
 have HN := Lib.hid hvb
 have hne' : (!name.toList.isEmpty) = true := by rw [hne]; rfl
 have hb0 : Below w.heap.size w (w.alloc (.cells #[.string kd, .string name, .string c1, .string c2, .string c3, .pointer (some ⟨vr, 0, none⟩), .string noStr, .bool false, .int .u32 0] 104)) := below_alloc (Below.refl _ _) _
 have ht0 := tagged_any _ (hvr.under hb0) (hvb.under hb0) hk1
 rw [hnn] at ht0
 have HT0 := Lib.hid ht0
 have HB0 := Lib.hid hb0
 clear hr hm hk hcb hvr hvb hb0 ht0
 go_enter Tryz.func187, Tryz.ntmps187
 go_wp2_with (go_at_call 164; (with_reducible refine Calls.mono HT0.out ?_); rintro e w' ⟨rfl, rfl⟩)
 have hb2 := below_alloc HB0.out (.cells #[.iface 168 (.agg #[.string noStr, .string name, .pointer none, .string noStr, .string noStr, .pointer none])] 135)
 have hp := pipe1 (fun q w' => Below (w.heap.size + 1) (w.alloc (.cells #[.string kd, .string name, .string c1, .string c2, .string c3, .pointer (some ⟨vr, 0, none⟩), .string noStr, .bool false, .int .u32 0] 104)) w' ∧ Found kids name q w') _ (HR.out.under hb2) (HM.out.node.under hb2) rfl
  (fb := w.heap.size + 1) ((blk_cell (blk_new (by simp) _) 0).trans rfl) (meth195 _ _ _ _ _ _) enter195 ((match_key _ (HR.out.under hb2) (HM.out.under hb2) hne).mono fun e w' ⟨q, he, hb, hf⟩ => ⟨q, he, ((Below.refl _ _).alloc (by simp) _).trans (hb.mono (by simp)), hf⟩)
 refine hp.mono ?_
 rintro e w3 ⟨q, rfl, hb3, hf3⟩
 obtain ⟨fr, rfl, hfr⟩ := hf3.2 kid HK.out
 have h104 : w3.heap[w.heap.size]? = some (.cells #[.string kd, .string name, .string c1, .string c2, .string c3, .pointer (some ⟨vr, 0, none⟩), .string noStr, .bool false, .int .u32 0] 104) := (hb3.block _ (by omega)).trans (blk_new rfl _)
 have h5 : w3.cell? ⟨w.heap.size, 5, none⟩ = some (.pointer (some ⟨vr, 0, none⟩)) := (blk_cell h104 5).trans rfl
 have h7 : w3.cell? ⟨w.heap.size, 7, none⟩ = some (.bool false) := (blk_cell h104 7).trans rfl
 have HB3 := Lib.hid (HB0.out.trans (hb3.mono (by omega)))
 have HF := Lib.hid hfr
 have hn3 := HN.out.under HB3.out
 have s1 := hn3.c1
 have z1 := hn3.fz 1
 have HY3 := Lib.hid (ynode_some _ (HV.out.under HB3.out) hn3 hk1)
 have hc3 := HC.out.under HB3.out
 have d1 := hc3.c1
 have HZ3 := Lib.hid (ynode_some _ hfr hc3 hk0)
 obtain ⟨w4, hw4⟩ : ∃ w4, w4 = w3.setCell ⟨vb, 1, none⟩ (.int .u32 0) := ⟨_, rfl⟩
 have h54 : (w3.setCell ⟨vb, 1, none⟩ (.int .u32 0)).cell? ⟨w.heap.size, 5, none⟩ = some (.pointer (some ⟨vr, 0, none⟩)) := (World.cell?_of_block (restyle hn3 _)).trans h5
 have HY4 := Lib.hid (ynode_some _ (RNB.restyled hn3 (HV.out.under HB3.out)) (hn3.restyled hn3) hk1)
 have HS4 := Lib.hid (setYNode188 _ (RNB.restyled hn3 hfr) (hn3.restyled hc3) (hn3.restyled hn3))
 have HK4 := Lib.hid (show Keep (fun j => j = kid.cb) w (w3.setCell ⟨vb, 1, none⟩ (.int .u32 0)) from ⟨HB3.out.os, HB3.out.tape, HB3.out.output, by rw [size_set]; exact HB3.out.size, fun j hj _ => (restyle hn3 j).trans (HB3.out.block j hj)⟩)
 clear hb3 hf3 hp hb2 hfr h104 hn3 hc3 hw4
 go_wp2_with (first | (go_at_call 42; (first | (with_reducible refine Calls.mono HY3.out ?_) | (with_reducible refine Calls.mono HZ3.out ?_) | (with_reducible refine Calls.mono HY4.out ?_)); rintro e w' ⟨rfl, rfl⟩))
 refine Calls.mono HS4.out ?_
 rintro e w5 ⟨rfl, hn5, hk5⟩
 have H5 := Lib.hid (And.intro hn5 (HK4.out.trans hk5 (fun _ _ h => h)))
 clear hn5 hk5
 go_wp2_with fail
 go_ret2
 exact ⟨some ⟨fr, 0, none⟩, rfl, H5.out⟩
set_option maxHeartbeats 400000 in
theorem ynode_c {r b : Nat} {k : Int} (w : World) (h1 : w.cell? ⟨r, 1, none⟩ = some (.pointer (some ⟨b, 0, none⟩))) (h2 : w.cell? ⟨b, 0, none⟩ = some (.int .u32 k)) (hk1 : (k == 1) = false) :
  Calls Tryz.prog 42 #[.pointer (some ⟨r, 0, none⟩)] w fun e w' => e = .returned (.pointer (some ⟨b, 0, none⟩)) ∧ w = w' := by
 go_enter Tryz.func42, Tryz.ntmps42
 go_wp2
 go_ret
 exact ⟨rfl, rfl⟩
theorem cell_old {w : World} {p : Addr} {v : Value} (o : Obj) (h : w.cell? p = some v) : (w.alloc o).cell? p = some v := (World.cell?_alloc_lt _ _ _ (World.block_lt_of_cell? w _ h)).trans h
set_option maxRecDepth 20000 in
set_option maxHeartbeats 4000000 in
theorem set_new {r b vr vb : Nat} {A : Option Addr} {n c : Nat} {kids : List Kid} {kd name : ByteArray} {k : Int} {tag val : ByteArray} {C2 : Value} {xs : List Value} (w : World)
  (hr : RNB w r b) (hm : MapAt w b (.slice A n c) kids) (hne : name.toList.isEmpty = false) (hk : kids.find? (hasKey name) = none)
  (hvr : RNB w vr vb) (hvb : NodeB w vb k tag val C2) (hk1 : (k == 1) = false) (hnn : (tag.toList == [33, 33, 110, 117, 108, 108]) = false) (hrow : w.ownsRow 0 69 1 (.slice A n c) n xs) (hbytes : (n + 2) * 8 ≤ 140737488355328) :
  Calls Tryz.prog 187 #[.agg #[.string kd, .string name, .string noStr, .string noStr, .string noStr, .pointer (some ⟨vr, 0, none⟩), .string noStr, .bool false, .int .u32 0], .pointer (some ⟨r, 0, none⟩)] w fun e w' =>
   ∃ q kb C', e = .returned (.tuple #[.pointer q, .nilIface]) ∧ w.heap.size ≤ kb ∧ NodeB w' kb 8 noStr name nilS ∧ NodeB w' b 4 noStr noStr C' ∧ w'.ownsRow 0 69 1 C' (n + 2) (xs ++ [ptrV kb, ptrV vb]) ∧
    (C'.ownBlock = (Value.slice A n c).ownBlock ∨ ∃ g, C'.ownBlock = some g ∧ w.heap.size ≤ g ∧ g ≠ kb) ∧ Keep (fun j => j = b ∨ (Value.slice A n c).ownBlock = some j) w w' := by
 have HR := Lib.hid hr
 have HM := Lib.hid hm
 have HK := Lib.hid hk
 have HV := Lib.hid hvr
 have HN := Lib.hid hvb
 have HW := Lib.hid hrow
 have hne' : (!name.toList.isEmpty) = true := by rw [hne]; rfl
 have hb0 : Below w.heap.size w (w.alloc (.cells #[.string kd, .string name, .string noStr, .string noStr, .string noStr, .pointer (some ⟨vr, 0, none⟩), .string noStr, .bool false, .int .u32 0] 104)) := below_alloc (Below.refl _ _) _
 have ht0 := tagged_any _ (hvr.under hb0) (hvb.under hb0) hk1
 rw [hnn] at ht0
 have HT0 := Lib.hid ht0
 have HB0 := Lib.hid hb0
 clear hr hm hk hvr hvb hb0 ht0 hrow
 go_enter Tryz.func187, Tryz.ntmps187
 go_wp2_with (go_at_call 164; (with_reducible refine Calls.mono HT0.out ?_); rintro e w' ⟨rfl, rfl⟩)
 have hb2 := below_alloc HB0.out (.cells #[.iface 168 (.agg #[.string noStr, .string name, .pointer none, .string noStr, .string noStr, .pointer none])] 135)
 have hp := pipe1 (fun q w' => Below (w.heap.size + 1) (w.alloc (.cells #[.string kd, .string name, .string noStr, .string noStr, .string noStr, .pointer (some ⟨vr, 0, none⟩), .string noStr, .bool false, .int .u32 0] 104)) w' ∧ Found kids name q w') _ (HR.out.under hb2) (HM.out.node.under hb2) rfl
  (fb := w.heap.size + 1) ((blk_cell (blk_new (by simp) _) 0).trans rfl) (meth195 _ _ _ _ _ _) enter195 ((match_key _ (HR.out.under hb2) (HM.out.under hb2) hne).mono fun e w' ⟨q, he, hb, hf⟩ => ⟨q, he, ((Below.refl _ _).alloc (by simp) _).trans (hb.mono (by simp)), hf⟩)
 refine hp.mono ?_
 rintro e w3 ⟨q, rfl, hb3, hf3⟩
 obtain rfl := hf3.1 HK.out
 have h104 : w3.heap[w.heap.size]? = some (.cells #[.string kd, .string name, .string noStr, .string noStr, .string noStr, .pointer (some ⟨vr, 0, none⟩), .string noStr, .bool false, .int .u32 0] 104) := (hb3.block _ (by omega)).trans (blk_new rfl _)
 have h1 : w3.cell? ⟨w.heap.size, 1, none⟩ = some (.string name) := (blk_cell h104 1).trans rfl
 have h2 : w3.cell? ⟨w.heap.size, 2, none⟩ = some (.string noStr) := (blk_cell h104 2).trans rfl
 have h3 : w3.cell? ⟨w.heap.size, 3, none⟩ = some (.string noStr) := (blk_cell h104 3).trans rfl
 have h4 : w3.cell? ⟨w.heap.size, 4, none⟩ = some (.string noStr) := (blk_cell h104 4).trans rfl
 have h5 : w3.cell? ⟨w.heap.size, 5, none⟩ = some (.pointer (some ⟨vr, 0, none⟩)) := (blk_cell h104 5).trans rfl
 have h8 : w3.cell? ⟨w.heap.size, 8, none⟩ = some (.int .u32 0) := (blk_cell h104 8).trans rfl
 have HBe := Lib.hid (HB0.out.trans (hb3.mono (by omega)))
 have HB3 := Lib.hid (HM.out.node.under HBe.out)
 have ha1 := (HR.out.under HBe.out).cell1
 have hb0 := HB3.out.c0
 have hb6 := HB3.out.c6
 have hv1 := (HV.out.under HBe.out).cell1
 have hv0 := (HN.out.under HBe.out).c0
 have HROW := Lib.hid (own_drew (pw_own_below HW.out HBe.out))
 have H1 := Lib.hid h104
 clear hb3 hf3 hp hb2 h104
 go_wp2_with fail
 refine start_ (n := 30) (S := fun w' => w'.cell? ⟨r, 1, none⟩ = some (.pointer (some ⟨b, 0, none⟩)) ∧ w'.cell? ⟨b, 0, none⟩ = some (.int .u32 4) ∧ w'.cell? ⟨b, 6, none⟩ = some (.slice A n c) ∧ w'.cell? ⟨w.heap.size, 1, none⟩ = some (.string name) ∧ w'.cell? ⟨w.heap.size, 8, none⟩ = some (.int .u32 0) ∧ w'.cell? ⟨w.heap.size, 3, none⟩ = some (.string noStr) ∧ w'.cell? ⟨w.heap.size, 2, none⟩ = some (.string noStr) ∧ w'.cell? ⟨w.heap.size, 4, none⟩ = some (.string noStr) ∧ w'.cell? ⟨w.heap.size, 5, none⟩ = some (.pointer (some ⟨vr, 0, none⟩)) ∧ w'.cell? ⟨vr, 1, none⟩ = some (.pointer (some ⟨vb, 0, none⟩)) ∧ w'.cell? ⟨vb, 0, none⟩ = some (.int .u32 k)) (ds := [26, 29]) #[false, false, false, false, false, false, false, false, false, false, false, false, false, false, false, false, false, false, false, false, false, false, false, false, false, false, false, false, false, false] (by kernel_rfl) rfl rfl ⟨ha1, hb0, hb6, h1, h8, h3, h2, h4, h5, hv1, hv0⟩ (fun hHeld => ?_)
 refine pu 0 (some 129) (bl 30 1) ?_
 refine pu 2 (some 131) (bl 30 5) ?_
 refine pu 7 (some 136) (bl 30 133) ?_
 refine pu 9 (some 138) (bl 30 645) ?_
 refine pu 11 (some 140) (bl 30 2693) ?_
 refine pu 12 (some 141) (bl 30 6789) ?_
 refine pu 14 (some 143) (bl 30 23173) ?_
 refine pu 15 (some 144) (bl 30 55941) ?_
 refine pu 17 (some 146) (bl 30 187013) ?_
 refine pu 18 (some 147) (bl 30 449157) ?_
 refine pu 22 (some 151) (bl 30 4643461) ?_
 refine takeC_ (i := 1) (N := some 130) (v := ?_) (a' := ?_) (bl 30 4643463) rfl rfl (by kernel_rfl) (fun _ _ _ h => h) Tryz.func42 (by kernel_rfl) rfl #[.pointer (some ⟨r, 0, none⟩)] (by rfl) rfl (by simp only [List.map_toArray, List.map_cons, List.map_nil]; rfl) ?_ hHeld ?_ ?_
 rotate_left
 ·rintro w' ⟨s0, s1, s2, s3, s4, s5, s6, s7, s8, s9, s10⟩
  exact ynode_c _ s0 s1 rfl
 rotate_left
 ·simp only [np]
  rfl
 refine takeC_ (i := 3) (N := some 132) (v := ?_) (a' := ?_) (bl 30 4643471) rfl rfl (by kernel_rfl) (fun _ _ _ h => h) Tryz.func42 (by kernel_rfl) rfl #[.pointer (some ⟨r, 0, none⟩)] (by rfl) rfl (by simp only [List.map_toArray, List.map_cons, List.map_nil]; rfl) ?_ hHeld ?_ ?_
 rotate_left
 ·rintro w' ⟨s0, s1, s2, s3, s4, s5, s6, s7, s8, s9, s10⟩
  exact ynode_c _ s0 s1 rfl
 rotate_left
 ·simp only [np]
  rfl
 refine pu 4 (some 133) (bl 30 4643487) ?_
 refine pu 5 (some 134) (bl 30 4643519) ?_
 refine tk 6 (some 135) (bl 30 4643583) hHeld ?_
 refine tk 8 (some 137) (bl 30 4643839) hHeld ?_
 refine tk 10 (some 139) (bl 30 4644863) hHeld ?_
 refine tk 13 (some 142) (bl 30 4653055) hHeld ?_
 refine tk 16 (some 145) (bl 30 4718591) hHeld ?_
 refine tk 19 (some 148) (bl 30 5242879) hHeld ?_
 refine pu 20 (some 149) (bl 30 6291455) ?_
 refine tk 23 (some 152) (bl 30 14680063) hHeld ?_
 refine takeC_ (i := 24) (N := some 153) (v := ?_) (a' := ?_) (bl 30 31457279) rfl rfl (by kernel_rfl) (fun _ _ _ h => h) Tryz.func42 (by kernel_rfl) rfl #[.pointer (some ⟨vr, 0, none⟩)] (by rfl) rfl (by simp only [List.map_toArray, List.map_cons, List.map_nil]; rfl) ?_ hHeld ?_ ?_
 rotate_left
 ·rintro w' ⟨s0, s1, s2, s3, s4, s5, s6, s7, s8, s9, s10⟩
  exact ynode_c _ s9 s10 hk1
 rotate_left
 ·simp only [np]
  rfl
 refine on_ 21 (some 150) (bl 30 33554431) fun K hK => ?_
 refine value_ (w1 := ?_) (v := ?_) (by rfl) rfl ?_ ?_
 rotate_left 2
 ·go_simp
  constructor
  ·rfl
  ·rfl
 refine hK.out _ _ ⟨cell_old _ hHeld.1, cell_old _ hHeld.2.1, cell_old _ hHeld.2.2.1, cell_old _ hHeld.2.2.2.1, cell_old _ hHeld.2.2.2.2.1, cell_old _ hHeld.2.2.2.2.2.1, cell_old _ hHeld.2.2.2.2.2.2.1, cell_old _ hHeld.2.2.2.2.2.2.2.1, cell_old _ hHeld.2.2.2.2.2.2.2.2.1, cell_old _ hHeld.2.2.2.2.2.2.2.2.2.1, cell_old _ hHeld.2.2.2.2.2.2.2.2.2.2⟩ (fun hHeld => ?_)
 clear hK K
 refine nr (some 150) ?_
 refine on_ 25 (some 154) (bl 30 67108863) fun K hK => ?_
 refine value_ (w1 := ?_) (v := ?_) (by rfl) rfl ?_ ?_
 rotate_left 2
 ·go_simp
  constructor
  ·rfl
  ·rfl
 refine hK.out _ _ ⟨cell_old _ hHeld.1, cell_old _ hHeld.2.1, cell_old _ hHeld.2.2.1, cell_old _ hHeld.2.2.2.1, cell_old _ hHeld.2.2.2.2.1, cell_old _ hHeld.2.2.2.2.2.1, cell_old _ hHeld.2.2.2.2.2.2.1, cell_old _ hHeld.2.2.2.2.2.2.2.1, cell_old _ hHeld.2.2.2.2.2.2.2.2.1, cell_old _ hHeld.2.2.2.2.2.2.2.2.2.1, cell_old _ hHeld.2.2.2.2.2.2.2.2.2.2⟩ (fun hHeld => ?_)
 clear hK K
 refine nr (some 154) ?_
 refine ls_ 26 (some 155) (bl 30 134217727) fun K hK => ?_
 refine step_app (base := 0) (Nat.zero_le _) 83 69 (.pointer none) 8 [.pointer (some ⟨w3.heap.size, 0, none⟩), .pointer (some ⟨vb, 0, none⟩)] 2 rfl (by rfl) (by rfl) Tryz.underlying83 info69 rfl (by omega) (.slice A n c) n xs (by rfl) (by simp [Act.eval]) (by simp [Value.oneCell']) (HROW.out.alloc _) hbytes ?_
 intro v1 w4 hown1 hg1 hat1
 obtain ⟨A1, c1, rfl⟩ := own_slice hown1
 have hb4 : NodeB w4 b 4 noStr noStr (.slice A n c) := (hg1.block b (by simp; exact Nat.lt_succ_of_lt HB3.out.lt) (own_ne HROW.out (blk_drew HB3.out) (by decide))).trans (blk_old _ (blk_drew HB3.out))
 have c46 := hb4.c6
 have z46 := hb4.fz 6
 have HB4 := Lib.hid hb4
 have HO1 := Lib.hid hown1
 have HG1 := Lib.hid hg1
 have HA1 := Lib.hid hat1
 clear hown1 hg1 hat1 hb4
 refine hK.out _ _ ?_
 clear hK K
 refine nr (some 155) ?_
 refine pu 27 (some 156) (bl 30 268435455) ?_
 refine pu 28 (some 157) (bl 30 536870911) ?_
 refine ls_ 29 none (bl 30 1073741823) fun K hK => ?_
 refine skip_ (w1 := ?_) (by rfl) rfl ?_ ?_
 rotate_left
 ·go_simp
  rfl
 refine hK.out _ _ ?_
 clear hK K
 refine done_ (by kernel_rfl) ?_
 have hbw : b < w.heap.size := HM.out.node.lt
 have H104 : w4.heap[w.heap.size]? = some (.cells #[.string kd, .string name, .string noStr, .string noStr, .string noStr, .pointer (some ⟨vr, 0, none⟩), .string noStr, .bool false, .int .u32 0] 104) := (HG1.out.block _ (by simp; exact Nat.lt_succ_of_lt (blk_lt H1.out)) (own_ne HROW.out (blk_drew H1.out) (by decide))).trans (blk_old _ (blk_drew H1.out))
 have hc5 : (w4.setCell ⟨b, 6, none⟩ (.slice A1 (n + 2) c1)).cell? ⟨w.heap.size, 5, none⟩ = some (.pointer (some ⟨vr, 0, none⟩)) := (blk_cell (blk_else _ (by show w.heap.size ≠ b; omega) H104) 5).trans rfl
 have HH := Lib.hid H104
 have HL := Lib.hid hbw
 clear H104 hbw h1 h2 h3 h4 h5 h8 ha1 hb0 hb6 hv1 hv0
 go_wp2_with fail
 go_ret2
 have hkb : w4.heap[w3.heap.size]? = some (.cells (nd 8 noStr name nilS) 85 (0, 0)) := by
  have hnew : (w3.drew.alloc (.cells (nd 8 noStr name nilS) 85)).heap[w3.heap.size]? = some (.cells (nd 8 noStr name nilS) 85 (0, 0)) := blk_new rfl _
  exact (HG1.out.block _ (blk_lt hnew) (own_ne (HROW.out.alloc _) hnew (by decide))).trans hnew
 have hsz : w.heap.size ≤ w3.heap.size := HBe.out.size
 refine ⟨some ⟨vr, 0, none⟩, w3.heap.size, .slice A1 (n + 2) c1, rfl, hsz, ?_, ?_, ?_, ?_, ?_⟩
 ·exact blk_else _ (by show w3.heap.size ≠ b; have := HL.out; omega) hkb
 ·refine (blk_set HB4.out 6 _).trans ?_
  simp only [nd, List.setIfInBounds_toArray, List.set_cons_zero, List.set_cons_succ]
 ·exact own_setCell HO1.out (show some b ≠ _ from own_ne HO1.out HB4.out (by decide)) _
 ·rcases HA1.out with h | ⟨g, h, hg⟩
  ·exact .inl h
  ·refine .inr ⟨g, h, by simp at hg; omega, ?_⟩
   intro e
   subst e
   simp at hg
   omega
 ·refine Keep.setCell ?_ _ _ (fun _ => .inl rfl)
  exact ((((Keep.of_below HBe.out _).drew).alloc _).grown HG1.out (fun j _ hj => .inr hj))
end Go.Proofs.YtghmajlfmoggfaaGreat
