import Derived.Deep.DeepAppendRoom
import Derived.Test.YtghmajlfmoggfaaGreatMB1
import Derived.Test.YtghmajlfmoggfaaGreatMX0
set_option linter.unusedSimpArgs false
set_option linter.unusedVariables false
namespace Go.Proofs.YtghmajlfmoggfaaGreat
open Go.RowKit Go.Proofs.YtghmajlfmoggfaaGreatW.PrintWords Go.Proofs.YtghmajlfmoggfaaGreatW.PrintLast PFnMerge
def SrcAt (w : World) (sb : Nat) (dp sp : Option Addr) : Prop := ∃ cur : Array Value, w.heap[sb]? = some (.cells cur 47 (0, 0)) ∧ cur[0]? = some (.pointer dp) ∧ cur[1]? = some (.pointer sp)
theorem SrcAt.c0 {w : World} {sb : Nat} {dp sp : Option Addr} (h : SrcAt w sb dp sp) : w.cell? ⟨sb, 0, none⟩ = some (.pointer dp) := by obtain ⟨cur, h1, h2, _⟩ := h; exact (blk_cell h1 0).trans h2
theorem SrcAt.c1 {w : World} {sb : Nat} {dp sp : Option Addr} (h : SrcAt w sb dp sp) : w.cell? ⟨sb, 1, none⟩ = some (.pointer sp) := by obtain ⟨cur, h1, _, h2⟩ := h; exact (blk_cell h1 1).trans h2
theorem SrcAt.fz {w : World} {sb : Nat} {dp sp : Option Addr} (h : SrcAt w sb dp sp) (i : Nat) : w.frozen? ⟨sb, i, none⟩ = false := by obtain ⟨cur, h1, _, h2⟩ := h; exact blk_frozen h1 i
theorem SrcAt.lt {w : World} {sb : Nat} {dp sp : Option Addr} (h : SrcAt w sb dp sp) : sb < w.heap.size := by obtain ⟨cur, h1, _, h2⟩ := h; exact blk_lt h1
theorem SrcAt.under {w w' : World} {sb : Nat} {dp sp : Option Addr} (h : SrcAt w sb dp sp) (hb : Below w.heap.size w w') : SrcAt w' sb dp sp := by obtain ⟨cur, h1, h2⟩ := h; exact ⟨cur, (hb.block _ (blk_lt h1)).trans h1, h2⟩
def NodeQ (w : World) (q : Option Addr) : Prop := q = none ∨ ∃ r b k tag val A n c, q = some ⟨r, 0, none⟩ ∧ RNB w r b ∧ NodeB w b k tag val (.slice A n c) ∧ (k == 1) = false ∧ ((k != 8) = false ∨ (k != 8) = true ∧ ((n : Int) == 0) = false)
theorem NodeQ.under {w w' : World} {q : Option Addr} (h : NodeQ w q) (hb : Below w.heap.size w w') : NodeQ w' q := by
  rcases h with h | ⟨r, b, k, tag, val, A, n, c, h1, h2, h3, h4⟩
  · exact .inl h
  · exact .inr ⟨r, b, k, tag, val, A, n, c, h1, h2.under hb, h3.under hb, h4⟩
section
variable {sb c : Nat} {dp sp : Option Addr}
set_option maxHeartbeats 400000 in
theorem origin162 (w : World) (hs : SrcAt w sb dp sp) :
    Calls Tryz.prog 162 #[.slice (some ⟨sb, 0, none⟩) 2 c] w fun e w' => e = .returned (.pointer sp) ∧ w = w' := by
  have h1 := hs.c1
  clear hs
  go_enter Tryz.func162, Tryz.ntmps162
  go_wp2
  go_ret
  exact ⟨rfl, rfl⟩
set_option maxHeartbeats 400000 in
theorem dest163 (w : World) (hs : SrcAt w sb dp sp) :
    Calls Tryz.prog 163 #[.slice (some ⟨sb, 0, none⟩) 2 c] w fun e w' => e = .returned (.pointer dp) ∧ w = w' := by
  have h1 := hs.c0
  clear hs
  go_enter Tryz.func163, Tryz.ntmps163
  go_wp2
  go_ret
  exact ⟨rfl, rfl⟩
set_option maxHeartbeats 400000 in
theorem clear165 (w : World) :
    Calls Tryz.prog 165 #[] w fun e w' => e = .returned (.pointer none) ∧ w = w' := by
  go_enter Tryz.func165, Tryz.ntmps165
  go_wp2
  go_ret
  exact ⟨rfl, rfl⟩
set_option maxRecDepth 20000 in
set_option maxHeartbeats 1000000 in
theorem comments157 (w : World) (hs : SrcAt w sb dp sp) (hd : NodeQ w dp) (ho : NodeQ w sp) :
    Calls Tryz.prog 157 #[.agg #[], .slice (some ⟨sb, 0, none⟩) 2 c] w fun e w' => e = .returned .nilIface ∧ Below w.heap.size w w' := by
  have HS := Lib.hid (hs.under (below_alloc (Below.refl _ _) (.cells #[] 60)))
  clear hs
  rcases hd with rfl | ⟨r1, b1, k1, tag1, val1, A1, n1, c1, rfl, hr1, hb1, hk1, hl1⟩
  · clear ho
    go_enter Tryz.func157, Tryz.ntmps157
    go_wp2_with (first | (go_at_call 162; (with_reducible refine Calls.mono (origin162 _ HS.out) ?_); rintro e w' ⟨rfl, rfl⟩) | (go_at_call 163; (with_reducible refine Calls.mono (dest163 _ HS.out) ?_); rintro e w' ⟨rfl, rfl⟩))
    go_ret
    exact ⟨rfl, below_alloc (Below.refl _ _) _⟩
  · clear hl1
    have HD := Lib.hid (ynode_some _ (hr1.under (below_alloc (Below.refl _ _) (.cells #[] 60))) (hb1.under (below_alloc (Below.refl _ _) (.cells #[] 60))) hk1)
    clear hr1 hb1 hk1
    rcases ho with rfl | ⟨r2, b2, k2, tag2, val2, A2, n2, c2, rfl, hr2, hb2, hk2, hl2⟩
    · go_enter Tryz.func157, Tryz.ntmps157
      go_wp2_with (first | (go_at_call 162; (with_reducible refine Calls.mono (origin162 _ HS.out) ?_); rintro e w' ⟨rfl, rfl⟩) | (go_at_call 163; (with_reducible refine Calls.mono (dest163 _ HS.out) ?_); rintro e w' ⟨rfl, rfl⟩) | (go_at_call 42; (with_reducible refine Calls.mono HD.out ?_); rintro e w' ⟨rfl, rfl⟩))
      go_ret
      exact ⟨rfl, below_alloc (Below.refl _ _) _⟩
    · clear hl2
      have hb2' := hb2.under (below_alloc (Below.refl _ _) (.cells #[] 60))
      have HO := Lib.hid (ynode_some _ (hr2.under (below_alloc (Below.refl _ _) (.cells #[] 60))) hb2' hk2)
      have h7 := hb2'.c7
      have h8 := hb2'.c8
      have h9 := hb2'.c9
      clear hr2 hb2 hk2 hb2'
      go_enter Tryz.func157, Tryz.ntmps157
      go_wp2_with (first | (go_at_call 162; (with_reducible refine Calls.mono (origin162 _ HS.out) ?_); rintro e w' ⟨rfl, rfl⟩) | (go_at_call 163; (with_reducible refine Calls.mono (dest163 _ HS.out) ?_); rintro e w' ⟨rfl, rfl⟩) | (go_at_call 42; (first | (with_reducible refine Calls.mono HD.out ?_) | (with_reducible refine Calls.mono HO.out ?_)); rintro e w' ⟨rfl, rfl⟩))
      go_ret
      exact ⟨rfl, below_alloc (Below.refl _ _) _⟩
end
end Go.Proofs.YtghmajlfmoggfaaGreat
namespace Go.Proofs.YtghmajlfmoggfaaGreat
open Go.RowKit Go.Proofs.YtghmajlfmoggfaaGreatW.PrintWords Go.Proofs.YtghmajlfmoggfaaGreatW.PrintLast PFnMerge
section
variable {sb c : Nat} {dp sp : Option Addr}
set_option maxRecDepth 20000 in
set_option maxHeartbeats 1000000 in
theorem style161 (w : World) (hs : SrcAt w sb dp sp) (hd : NodeQ w dp) (ho : NodeQ w sp) :
    Calls Tryz.prog 161 #[.agg #[], .slice (some ⟨sb, 0, none⟩) 2 c] w fun e w' => e = .returned .nilIface ∧ Below w.heap.size w w' := by
  have HS := Lib.hid (hs.under (below_alloc (Below.refl _ _) (.cells #[] 60)))
  clear hs
  rcases hd with rfl | ⟨r1, b1, k1, tag1, val1, A1, n1, c1, rfl, hr1, hb1, hk1, hl1⟩
  · clear ho
    go_enter Tryz.func161, Tryz.ntmps161
    go_wp2_with (first | (go_at_call 162; (with_reducible refine Calls.mono (origin162 _ HS.out) ?_); rintro e w' ⟨rfl, rfl⟩) | (go_at_call 163; (with_reducible refine Calls.mono (dest163 _ HS.out) ?_); rintro e w' ⟨rfl, rfl⟩))
    go_ret
    exact ⟨rfl, below_alloc (Below.refl _ _) _⟩
  · have hb1' := hb1.under (below_alloc (Below.refl _ _) (.cells #[] 60))
    have HD := Lib.hid (ynode_some _ (hr1.under (below_alloc (Below.refl _ _) (.cells #[] 60))) hb1' hk1)
    have h0 := hb1'.c0
    have h6 := hb1'.c6
    clear hr1 hb1 hk1 hb1'
    rcases ho with rfl | ⟨r2, b2, k2, tag2, val2, A2, n2, c2, rfl, hr2, hb2, hk2, hl2⟩
    · clear hl1
      go_enter Tryz.func161, Tryz.ntmps161
      go_wp2_with (first | (go_at_call 162; (with_reducible refine Calls.mono (origin162 _ HS.out) ?_); rintro e w' ⟨rfl, rfl⟩) | (go_at_call 163; (with_reducible refine Calls.mono (dest163 _ HS.out) ?_); rintro e w' ⟨rfl, rfl⟩) | (go_at_call 42; (with_reducible refine Calls.mono HD.out ?_); rintro e w' ⟨rfl, rfl⟩))
      go_ret
      exact ⟨rfl, below_alloc (Below.refl _ _) _⟩
    · clear hl2
      have HO := Lib.hid (ynode_some _ (hr2.under (below_alloc (Below.refl _ _) (.cells #[] 60))) (hb2.under (below_alloc (Below.refl _ _) (.cells #[] 60))) hk2)
      clear hr2 hb2 hk2
      rcases hl1 with hl1 | ⟨hl1, hl2⟩
      all_goals
        go_enter Tryz.func161, Tryz.ntmps161
        go_wp2_with (first | (go_at_call 162; (with_reducible refine Calls.mono (origin162 _ HS.out) ?_); rintro e w' ⟨rfl, rfl⟩) | (go_at_call 163; (with_reducible refine Calls.mono (dest163 _ HS.out) ?_); rintro e w' ⟨rfl, rfl⟩) | (go_at_call 42; (first | (with_reducible refine Calls.mono HD.out ?_) | (with_reducible refine Calls.mono HO.out ?_)); rintro e w' ⟨rfl, rfl⟩))
        go_ret
        exact ⟨rfl, below_alloc (Below.refl _ _) _⟩
set_option maxRecDepth 20000 in
set_option maxHeartbeats 1000000 in
theorem visitScalar160 (w : World) (hs : SrcAt w sb dp sp) (hd : NodeQ w dp) (ho : NodeQ w sp) :
    Calls Tryz.prog 160 #[.agg #[], .slice (some ⟨sb, 0, none⟩) 2 c, .pointer none] w fun e w' => e = .returned (.tuple #[.pointer (sp.or dp), .nilIface]) ∧ Below w.heap.size w w' := by
  have HS := Lib.hid hs
  have HD := Lib.hid hd
  have HO := Lib.hid ho
  clear hs hd ho
  go_enter Tryz.func160, Tryz.ntmps160
  go_wp2_with fail
  have hb0 : Below w.heap.size w (w.alloc (.cells #[] 60)) := below_alloc (Below.refl _ _) _
  refine Calls.mono (comments157 _ (HS.out.under hb0) (HD.out.under hb0) (HO.out.under hb0)) ?_
  rintro e w1 ⟨rfl, hb1⟩
  have HB1 := Lib.hid (hb0.trans (hb1.mono hb0.size))
  clear hb1 hb0
  go_wp2_with fail
  refine Calls.mono (style161 _ (HS.out.under HB1.out) (HD.out.under HB1.out) (HO.out.under HB1.out)) ?_
  rintro e w2 ⟨rfl, hb2⟩
  have HB2 := Lib.hid (HB1.out.trans (hb2.mono HB1.out.size))
  clear hb2 HB1
  have HS2 := Lib.hid (HS.out.under HB2.out)
  cases sp
  all_goals
    go_wp2_with (first | (go_at_call 162; (with_reducible refine Calls.mono (origin162 _ HS2.out) ?_); rintro e w' ⟨rfl, rfl⟩) | (go_at_call 163; (with_reducible refine Calls.mono (dest163 _ HS2.out) ?_); rintro e w' ⟨rfl, rfl⟩))
    go_ret2
    exact ⟨rfl, HB2.out⟩
set_option maxRecDepth 20000 in
set_option maxHeartbeats 1000000 in
theorem visitList158 (w : World) (hs : SrcAt w sb dp sp) (hd : NodeQ w dp) (ho : NodeQ w sp) :
    Calls Tryz.prog 158 #[.agg #[], .slice (some ⟨sb, 0, none⟩) 2 c, .pointer none, .int .i32 2] w fun e w' => e = .returned (.tuple #[.pointer (sp.or dp), .nilIface]) ∧ Below w.heap.size w w' := by
  have HS := Lib.hid hs
  have HD := Lib.hid hd
  have HO := Lib.hid ho
  clear hs hd ho
  go_enter Tryz.func158, Tryz.ntmps158
  go_wp2_with fail
  have hb0 : Below w.heap.size w (w.alloc (.cells #[] 60)) := below_alloc (Below.refl _ _) _
  refine Calls.mono (comments157 _ (HS.out.under hb0) (HD.out.under hb0) (HO.out.under hb0)) ?_
  rintro e w1 ⟨rfl, hb1⟩
  have HB1 := Lib.hid (hb0.trans (hb1.mono hb0.size))
  clear hb1 hb0
  go_wp2_with fail
  refine Calls.mono (style161 _ (HS.out.under HB1.out) (HD.out.under HB1.out) (HO.out.under HB1.out)) ?_
  rintro e w2 ⟨rfl, hb2⟩
  have HB2 := Lib.hid (HB1.out.trans (hb2.mono HB1.out.size))
  clear hb2 HB1
  have HS2 := Lib.hid (HS.out.under HB2.out)
  cases sp
  all_goals
    go_wp2_with (first | (go_at_call 162; (with_reducible refine Calls.mono (origin162 _ HS2.out) ?_); rintro e w' ⟨rfl, rfl⟩) | (go_at_call 163; (with_reducible refine Calls.mono (dest163 _ HS2.out) ?_); rintro e w' ⟨rfl, rfl⟩))
    go_ret2
    exact ⟨rfl, HB2.out⟩
end
def MapQ (w : World) (q : Option Addr) : Prop := ∃ r b C kids, q = some ⟨r, 0, none⟩ ∧ RNB w r b ∧ MapAt w b C kids ∧ kids ≠ [] ∧ kids.find? (hasKey patchKey) = none
theorem MapQ.nodeQ {w : World} {q : Option Addr} (h : MapQ w q) : NodeQ w q := by
  obtain ⟨r, b, C, kids, rfl, hr, hm, hne, hno⟩ := h
  obtain ⟨F, hrow⟩ := hm.row
  obtain ⟨A, c, rfl, _, _⟩ := hrow.slice
  refine .inr ⟨r, b, 4, _, _, A, _, c, rfl, hr, hm.node, rfl, .inr ⟨rfl, ?_⟩⟩
  rw [two_length]
  have : 0 < kids.length := List.length_pos_iff.2 hne
  rw [beq_eq_false_iff_ne]
  omega
theorem MapQ.under {w w' : World} {q : Option Addr} (h : MapQ w q) (hb : Below w.heap.size w w') : MapQ w' q := by
  obtain ⟨r, b, C, kids, rfl, hr, hm, hne, hno⟩ := h
  exact ⟨r, b, C, kids, rfl, hr.under hb, hm.under hb, hne, hno⟩
section
variable {sb c : Nat} {dp sp : Option Addr}
set_option maxRecDepth 20000 in
set_option maxHeartbeats 1000000 in
theorem visitMap_d (w : World) (hs : SrcAt w sb dp sp) (hd : MapQ w dp) (ho : sp = none ∨ MapQ w sp) :
    Calls Tryz.prog 159 #[.agg #[], .slice (some ⟨sb, 0, none⟩) 2 c, .pointer none] w fun e w' => e = .returned (.tuple #[.pointer dp, .nilIface]) ∧ Below w.heap.size w w' := by
  have HS := Lib.hid hs
  have HM := Lib.hid hd
  have HD := Lib.hid hd.nodeQ
  have HO : Hid (NodeQ w sp) := Lib.hid (ho.elim .inl MapQ.nodeQ)
  have HQ := Lib.hid ho
  clear hs hd ho
  go_enter Tryz.func159, Tryz.ntmps159
  go_wp2_with fail
  have hb0 : Below w.heap.size w (w.alloc (.cells #[] 60)) := below_alloc (Below.refl _ _) _
  refine Calls.mono (comments157 _ (HS.out.under hb0) (HD.out.under hb0) (HO.out.under hb0)) ?_
  rintro e w1 ⟨rfl, hb1⟩
  have HB1 := Lib.hid (hb0.trans (hb1.mono hb0.size))
  clear hb1 hb0
  go_wp2_with fail
  refine Calls.mono (style161 _ (HS.out.under HB1.out) (HD.out.under HB1.out) (HO.out.under HB1.out)) ?_
  rintro e w2 ⟨rfl, hb2⟩
  have HB2 := Lib.hid (HB1.out.trans (hb2.mono HB1.out.size))
  clear hb2 HB1
  have HS2 := Lib.hid (HS.out.under HB2.out)
  obtain ⟨r1, b1, C1, kids1, rfl, hr1, hm1, _, _⟩ := HM.out.under HB2.out
  have HN1 := Lib.hid (missing_no _ hr1 hm1.node rfl (by decide +kernel))
  clear hr1 hm1
  rcases HQ.out with rfl | hq
  · go_wp2_with (first | (go_at_call 162; (with_reducible refine Calls.mono (origin162 _ HS2.out) ?_); rintro e w' ⟨rfl, rfl⟩) | (go_at_call 163; (with_reducible refine Calls.mono (dest163 _ HS2.out) ?_); rintro e w' ⟨rfl, rfl⟩) | (go_at_call 55; (with_reducible refine Calls.mono HN1.out ?_); rintro e w' ⟨rfl, rfl⟩) | (go_at_call 164; (with_reducible refine Calls.mono (tagged_nil _) ?_); rintro e w' ⟨rfl, rfl⟩) | (go_at_call 166; (with_reducible refine Calls.mono (det166_nil _) ?_); rintro e w' ⟨rfl, rfl⟩))
    go_ret2
    exact ⟨rfl, HB2.out⟩
  · obtain ⟨r2, b2, C2, kids2, rfl, hr2, hm2, _, hno2⟩ := hq.under HB2.out
    have ht2 := tagged_any _ hr2 hm2.node rfl
    rw [show (noStr.toList == [33, 33, 110, 117, 108, 108]) = false from by decide +kernel] at ht2
    have HT2 := Lib.hid ht2
    have HE2 := Lib.hid (det166_map _ hr2 hm2 hno2)
    clear hr2 hm2 hno2 ht2
    go_wp2_with (first | (go_at_call 162; (with_reducible refine Calls.mono (origin162 _ HS2.out) ?_); rintro e w' ⟨rfl, rfl⟩) | (go_at_call 163; (with_reducible refine Calls.mono (dest163 _ HS2.out) ?_); rintro e w' ⟨rfl, rfl⟩) | (go_at_call 55; (with_reducible refine Calls.mono HN1.out ?_); rintro e w' ⟨rfl, rfl⟩) | (go_at_call 164; (with_reducible refine Calls.mono HT2.out ?_); rintro e w' ⟨rfl, rfl⟩))
    refine Calls.mono HE2.out ?_
    rintro e w3 ⟨rfl, hb3⟩
    have HB3 := Lib.hid (HB2.out.trans (hb3.mono HB2.out.size))
    have HS3 := Lib.hid (HS.out.under HB3.out)
    clear hb3 HS2
    go_wp2_with (go_at_call 163; (with_reducible refine Calls.mono (dest163 _ HS3.out) ?_); rintro e w' ⟨rfl, rfl⟩)
    go_ret2
    exact ⟨rfl, HB3.out⟩
set_option maxRecDepth 20000 in
set_option maxHeartbeats 1000000 in
theorem visitMap_n (w : World) (hs : SrcAt w sb none sp) (ho : MapQ w sp) :
    Calls Tryz.prog 159 #[.agg #[], .slice (some ⟨sb, 0, none⟩) 2 c, .pointer none] w fun e w' => e = .returned (.tuple #[.pointer sp, .nilIface]) ∧ Below w.heap.size w w' := by
  have HS := Lib.hid hs
  have HD : Hid (NodeQ w none) := Lib.hid (.inl rfl)
  have HO : Hid (NodeQ w sp) := Lib.hid ho.nodeQ
  have HQ := Lib.hid ho
  clear hs ho
  go_enter Tryz.func159, Tryz.ntmps159
  go_wp2_with fail
  have hb0 : Below w.heap.size w (w.alloc (.cells #[] 60)) := below_alloc (Below.refl _ _) _
  refine Calls.mono (comments157 _ (HS.out.under hb0) (HD.out.under hb0) (HO.out.under hb0)) ?_
  rintro e w1 ⟨rfl, hb1⟩
  have HB1 := Lib.hid (hb0.trans (hb1.mono hb0.size))
  clear hb1 hb0
  go_wp2_with fail
  refine Calls.mono (style161 _ (HS.out.under HB1.out) (HD.out.under HB1.out) (HO.out.under HB1.out)) ?_
  rintro e w2 ⟨rfl, hb2⟩
  have HB2 := Lib.hid (HB1.out.trans (hb2.mono HB1.out.size))
  clear hb2 HB1
  have HS2 := Lib.hid (HS.out.under HB2.out)
  obtain ⟨r2, b2, C2, kids2, rfl, hr2, hm2, _, hno2⟩ := HQ.out.under HB2.out
  have HE2 := Lib.hid (det166_map _ hr2 hm2 hno2)
  clear hr2 hm2 hno2
  go_wp2_with (first | (go_at_call 162; (with_reducible refine Calls.mono (origin162 _ HS2.out) ?_); rintro e w' ⟨rfl, rfl⟩) | (go_at_call 163; (with_reducible refine Calls.mono (dest163 _ HS2.out) ?_); rintro e w' ⟨rfl, rfl⟩) | (go_at_call 55; (with_reducible refine Calls.mono (missing_nil _) ?_); rintro e w' ⟨rfl, rfl⟩))
  refine Calls.mono HE2.out ?_
  rintro e w3 ⟨rfl, hb3⟩
  have HB3 := Lib.hid (HB2.out.trans (hb3.mono HB2.out.size))
  have HS3 := Lib.hid (HS.out.under HB3.out)
  obtain ⟨r3, b3, C3, kids3, he3, hr3, hm3, _, hno3⟩ := HQ.out.under HB3.out
  injection he3 with he3
  injection he3 with he3
  subst he3
  have HI3 := Lib.hid (isNil_some _ hr3 hm3.node rfl)
  clear hb3 HS2 hr3 hm3 hno3
  go_wp2_with (first | (go_at_call 162; (with_reducible refine Calls.mono (origin162 _ HS3.out) ?_); rintro e w' ⟨rfl, rfl⟩) | (go_at_call 72; (with_reducible refine Calls.mono HI3.out ?_); rintro e w' ⟨rfl, rfl⟩))
  go_ret2
  exact ⟨rfl, HB3.out⟩
end
end Go.Proofs.YtghmajlfmoggfaaGreat
namespace Go.Proofs.YtghmajlfmoggfaaGreat
open Go.RowKit Go.Proofs.YtghmajlfmoggfaaGreatW.PrintWords Go.Proofs.YtghmajlfmoggfaaGreatW.PrintLast
section
variable {P : Program} {ops : Array Oper} {Q : Exit → Act → World → Prop} {md : Region.Mode} {S : World → Prop} {ds : List Nat}
def YieldsC (P : Program) (ops : Array Oper) (S : World → Prop) (o : Oper) (v : Value) (a : Act) : Prop :=
  (Region.wanted o (yielded ops a.tmps) = true ∧ ∀ w, S w → (execOp a.eval o).run P w = .ok (.value v) w ∨
    ∃ f args, (execOp a.eval o).run P w = .ok (.enter f args) w ∧ Calls P f args w fun e w' => e = .returned v ∧ w = w') ∨
  (Region.wanted o (yielded ops a.tmps) = false ∧ v = undef)
theorem YieldsC.wpOp {i : Nat} {o : Oper} {v : Value} {a : Act} (hi : ops[i]? = some o) (hy : YieldsC P ops S o v a)
    {K : Act → World → Prop} {w : World} (hS : S w) (h : K (a.put o.dst v) w) : wpOp P ops Q i K a w := by
  unfold Go.wpOp
  simp only [hi]
  rcases hy with ⟨hw, hv⟩ | ⟨hw, rfl⟩
  · simp only [hw, if_true]
    refine .inl ?_
    rcases hv w hS with hv | ⟨f, args, hv, hc⟩
    · simp only [Oper.wp, hv, Oper.upon]; exact h
    · simp only [Oper.wp, hv, Oper.upon]
      refine Calls.mono hc ?_
      rintro e w' ⟨rfl, rfl⟩
      exact h
  · simp only [hw, Bool.false_eq_true, if_false]; exact h
theorem YieldsC.of_same {o : Oper} {v : Value} {a a' : Act} (hy : YieldsC P ops S o v a) (he : execOp a'.eval o = execOp a.eval o)
    (hw : Region.wanted o (yielded ops a'.tmps) = Region.wanted o (yielded ops a.tmps)) : YieldsC P ops S o v a' := by
  unfold YieldsC at *
  rw [he, hw]
  exact hy
theorem wpOp_putC {j : Nat} {oi oj : Oper} {v : Value} (hj : ops[j]? = some oj) (hap : oi.apart ops oj = true)
    (hsi : ∀ cs b, oi.op ≠ .select cs b) (hsj : ∀ cs b, oj.op ≠ .select cs b)
    (hQ : ∀ c a w, Q (.panic c) (a.put oi.dst v) w → Q (.panic c) a w) {K : Act → World → Prop} {a : Act} {w : World}
    (hy : YieldsC P ops S oi v a) (h : wpOp P ops Q j K (a.put oi.dst v) w) :
    wpOp P ops Q j (fun a' w' => YieldsC P ops S oi v a' ∧ K (a'.put oi.dst v) w') a w := by
  obtain ⟨h1, h2, h3⟩ := Oper.apart_spec hap
  have keep : ∀ (a : Act), YieldsC P ops S oi v a → ∀ u, YieldsC P ops S oi v (a.put oj.dst u) := fun a hy u =>
    hy.of_same (execOp_put oi hsi a oj.dst u h3) (wanted_put oi a oj.dst u h3)
  have keepD : ∀ d, YieldsC P ops S oi v { a with defers := d :: a.defers } := fun d => hy.of_same rfl rfl
  unfold wpOp at *
  simp only [hj] at *
  rw [wanted_put oj a oi.dst v h1] at h
  split
  · rename_i hw
    simp only [hw, if_true] at h
    rcases h with h | ⟨hasks, hlets⟩
    case inr => exact .inr ⟨by unfold Oper.asks at *; rw [execOp_put oj hsj a oi.dst v h1] at hasks; exact hasks, hlets⟩
    refine .inl ?_
    unfold Oper.wp at *
    rw [execOp_put oj hsj a oi.dst v h1] at h
    generalize (execOp a.eval oj).run P w = r at *
    cases r with
    | ok n w' =>
      cases n <;> simp only [Oper.upon] at h ⊢
      case value u => exact ⟨keep a hy u, by rw [← Act.put_comm a v u h2]; exact h⟩
      case skip => exact ⟨keep a hy _, by rw [← Act.put_comm a v undef h2]; exact h⟩
      case defer d =>
        refine ⟨keep _ (keepD d) _, ?_⟩
        rw [← Act.put_comm _ v undef h2, ← Act.put_defers]
        exact h
      case enter f args =>
        refine Calls.mono h fun e w'' he => ?_
        cases e with
        | returned u => exact ⟨keep a hy u, by rw [← Act.put_comm a v u h2]; exact he⟩
        | panicked c => exact hQ _ _ _ he
        | outgrown => exact he
      case row row args => exact Rows.mono h fun u w'' he => ⟨keep a hy u, by rw [← Act.put_comm a v u h2]; exact he⟩
    | halt x w' =>
      cases x <;> simp only [Oper.upon] at h ⊢
      case panic u => exact hQ _ _ _ h
  · rename_i hw
    simp only [hw] at h
    exact ⟨keep a hy _, by rw [← Act.put_comm a v undef h2]; exact h⟩
theorem wpAnyLast_firstC {i : Nat} {oi : Oper} {v : Value} (hi : ops[i]? = some oi) (hsel : ∀ (j : Nat) (o : Oper) cs b, ops[j]? = some o → o.op ≠ .select cs b)
    (hQ : ∀ c a w, Q (.panic c) (a.put oi.dst v) w → Q (.panic c) a w) (n : Nat) :
    ∀ (fuel : Nat) (listed : Array Bool) (a : Act) (w : World),
      (∀ j oj, ops[j]? = some oj → j ≠ i → listed.getD j true = false → (∀ e ∈ oj.after, Region.binds md e = true → e.on ≠ i) → oi.apart ops oj = true) →
      ListedClosed md ops listed → (∀ d ∈ ds, listed.getD d true = false → Region.reachB md ops i n d = true) →
      i ∈ Region.ready md ops listed → YieldsC P ops S oi v a → S w →
      wpAnyLast P md ops Q S ds fuel (listed.setIfInBounds i true) (a.put oi.dst v) w → wpAnyLast P md ops Q S ds (fuel + 1) listed a w := by
  intro fuel
  induction fuel with
  | zero =>
    intro listed a w _ _ _ hr hy hS H
    refine ⟨fun h => (by rw [h] at hr; cases hr), fun j hj => ?_⟩
    by_cases hji : j = i
    · subst hji; exact hy.wpOp hi hS ⟨fun _ h => h, H⟩
    · have := ready_mono hj hji
      rw [H.1] at this
      cases this
  | succ fuel ih =>
    intro listed a w hfree hc hd hr hy hS H
    refine ⟨fun h => (by rw [h] at hr; cases hr), fun j hj => ?_⟩
    by_cases hji : j = i
    · subst hji; exact hy.wpOp hi hS ⟨fun _ h => h, H⟩
    · have h1 := H.2 j (ready_mono hj hji)
      obtain ⟨hjun, oj, hoj, hall⟩ := mem_ready.1 hj
      have hiun := (mem_ready.1 hr).1
      have hnot : ∀ e ∈ oj.after, Region.binds md e = true → e.on ≠ i := fun e he hb heq => by
        have h1 := hall e he hb
        rw [heq] at h1
        rcases Nat.lt_or_ge i listed.size with h' | h'
        · simp [h'] at hiun h1; rw [hiun] at h1; cases h1
        · simp [Array.getElem?_eq_none h'] at h1
      have hjd : j ∉ ds := fun hm => Region.reach_not_ready hc (hd j hm hjun) hiun hj
      have h2 := wpOp_putC hoj (hfree j oj hoj hji hjun hnot) (fun cs b => hsel i oi cs b hi) (fun cs b => hsel j oj cs b hoj) hQ hy h1
      have hfree' : ∀ k ok, ops[k]? = some ok → k ≠ i → (listed.setIfInBounds j true).getD k true = false →
          (∀ e ∈ ok.after, Region.binds md e = true → e.on ≠ i) → oi.apart ops ok = true := fun k ok hk hki hun hno => by
        refine hfree k ok hk hki ?_ hno
        by_cases hjk : j = k
        · subst hjk; exact hjun
        · rw [getD_set_ne true hjk] at hun; exact hun
      have hd' : ∀ d ∈ ds, (listed.setIfInBounds j true).getD d true = false → Region.reachB md ops i n d = true := fun d hm hun => by
        refine hd d hm ?_
        by_cases hjk : j = d
        · subst hjk; exact hjun
        · rw [getD_set_ne true hjk] at hun; exact hun
      refine wpOp_mono (fun a' w' h3 => ⟨h3.2.1, ih (listed.setIfInBounds j true) a' w' hfree' (hc.set hj) hd' (ready_mono hr (Ne.symm hji)) h3.1 (h3.2.1 hjd hS) ?_⟩) h2
      rw [Array.setIfInBounds_comm _ _ hji]
      exact h3.2.2
theorem takeC_ {i : Nat} {N : Option Tmp} {oi : Oper} {v : Value} {fuel : Nat} {l : Array Bool} {a : Act} {w : World} (l' : Array Bool) (hi : ops[i]? = some oi) (hN : oi.dst = N) (hc : takeB md ops ds l l' i = true)
    (hQ : ∀ c a w, Q (.panic c) (a.put oi.dst v) w → Q (.panic c) a w) {f : FuncId} {fn : Func} {al : Array Operand} {ts : Array TypeId} (hf : P.funcs[f]? = some fn) (hname : (fn.name == "runtime.NumGoroutine") = false) (hb : fn.body.isSome = true) (args : Array Value)
    (hw : Region.wanted oi (yielded ops a.tmps) = true) (hop : oi.op = .call { callee := .value (.func f), args := al, argTypes := ts }) (hargs : al.map a.eval = args)
    (hy : ∀ w, S w → Calls P f args w fun e w' => e = .returned v ∧ w = w') (hS : S w) {a' : Act} (ha : a.put N v = a')
    (h : wpAnyLast P md ops Q S ds fuel l' a' w) : wpAnyLast P md ops Q S ds (fuel + 1) l a w := by
  subst ha
  subst hN
  simp only [takeB, Bool.and_eq_true, beq_iff_eq] at hc
  obtain ⟨⟨⟨⟨⟨h1, h2⟩, h3⟩, h4⟩, h5⟩, h6⟩ := hc
  subst h6
  refine wpAnyLast_firstC hi (Region.noSelect_spec h1) hQ ops.size fuel l a w (Region.free_spec hi h2) (Region.closedB_spec h4)
    (fun d hm hun => by have := List.all_eq_true.1 h5 d hm; rw [hun] at this; simpa using this) (by simpa using h3) (.inl ⟨hw, fun w1 hS1 => .inr ⟨f, args, ?_, hy w1 hS1⟩⟩) hS h
  have he := enters_ hf hname hb args w1
  unfold execOp
  simp [hop, resolve, Deferred.ofValue, invoke, Act.eval, hargs, he]
end
end Go.Proofs.YtghmajlfmoggfaaGreat
namespace Go.Proofs.YtghmajlfmoggfaaGreat
open Go.RowKit Go.Proofs.YtghmajlfmoggfaaGreatW.PrintWords Go.Proofs.YtghmajlfmoggfaaGreatW.PrintLast PFnMerge
theorem keep_set {w w1 : World} {cb i : Nat} {u : Value} (h : Keep (fun k => k = cb) w w1) : Keep (fun k => k = cb) w (w1.setCell ⟨cb, i, none⟩ u) := h.setCell _ _ (fun _ => rfl)
theorem keep_drew {w w1 : World} {cb : Nat} (h : Keep (fun k => k = cb) w w1) : Keep (fun k => k = cb) w w1.drew := h.drew
theorem copy12 {w : World} {cb : Nat} {k0 k : Int} {tag0 val0 tag val : ByteArray} {C0 C : Value} (hb : NodeB w cb k0 tag0 val0 C0) :
    NodeB ((((((((((((w.setCell ⟨cb, 0, none⟩ (.int .u32 k)).setCell ⟨cb, 1, none⟩ (.int .u32 0)).setCell ⟨cb, 2, none⟩ (.string tag)).setCell ⟨cb, 3, none⟩ (.string val)).setCell ⟨cb, 4, none⟩ (.string noStr)).setCell ⟨cb, 5, none⟩ (.pointer none)).setCell ⟨cb, 6, none⟩ C).setCell ⟨cb, 7, none⟩ (.string noStr)).setCell ⟨cb, 8, none⟩ (.string noStr)).setCell ⟨cb, 9, none⟩ (.string noStr)).setCell ⟨cb, 10, none⟩ (.int .i64 0)).setCell ⟨cb, 11, none⟩ (.int .i64 0)).drew cb k tag val C := by
  have key : ∀ cur : Array Value, w.heap[cb]? = some (.cells cur 85 (0, 0)) → cur = nd k0 tag0 val0 C0 → ((((((((((((w.setCell ⟨cb, 0, none⟩ (.int .u32 k)).setCell ⟨cb, 1, none⟩ (.int .u32 0)).setCell ⟨cb, 2, none⟩ (.string tag)).setCell ⟨cb, 3, none⟩ (.string val)).setCell ⟨cb, 4, none⟩ (.string noStr)).setCell ⟨cb, 5, none⟩ (.pointer none)).setCell ⟨cb, 6, none⟩ C).setCell ⟨cb, 7, none⟩ (.string noStr)).setCell ⟨cb, 8, none⟩ (.string noStr)).setCell ⟨cb, 9, none⟩ (.string noStr)).setCell ⟨cb, 10, none⟩ (.int .i64 0)).setCell ⟨cb, 11, none⟩ (.int .i64 0)).heap[cb]? = some (.cells (nd k tag val C) 85 (0, 0)) := by
    intro cur h he
    refine (blk_set (blk_set (blk_set (blk_set (blk_set (blk_set (blk_set (blk_set (blk_set (blk_set (blk_set (blk_set h 0 _) 1 _) 2 _) 3 _) 4 _) 5 _) 6 _) 7 _) 8 _) 9 _) 10 _) 11 _).trans ?_
    rw [he]
    simp only [nd, List.setIfInBounds_toArray, List.set_cons_zero, List.set_cons_succ]
  exact blk_drew (key _ hb rfl)
set_option maxRecDepth 20000 in
set_option maxHeartbeats 4000000 in
theorem setYNode188 {r cb vb : Nat} {k0 k : Int} {tag0 val0 tag val : ByteArray} {A0 A : Option Addr} {n0 c0 n c : Nat} (w : World) (hr : RNB w r cb) (hb : NodeB w cb k0 tag0 val0 (.slice A0 n0 c0)) (hv : NodeB w vb k tag val (.slice A n c)) :
    Calls Tryz.prog 188 #[.pointer (some ⟨r, 0, none⟩), .pointer (some ⟨vb, 0, none⟩)] w fun e w' => e = .returned (.tuple #[]) ∧ NodeB w' cb k tag val (.slice A n c) ∧ Keep (fun k => k = cb) w w' := by
  have hr1 := hr.cell1
  have HV := Lib.hid hv
  have HB := Lib.hid hb
  have v0 := hv.c0
  have v1 := hv.c1
  have v2 := hv.c2
  have v3 := hv.c3
  have v4 : w.cell? ⟨vb, 4, none⟩ = some (.string noStr) := (blk_cell hv 4).trans rfl
  have v5 : w.cell? ⟨vb, 5, none⟩ = some (.pointer none) := (blk_cell hv 5).trans rfl
  have v6 := hv.c6
  have v7 := hv.c7
  have v8 := hv.c8
  have v9 := hv.c9
  have v10 : w.cell? ⟨vb, 10, none⟩ = some (.int .i64 0) := (blk_cell hv 10).trans rfl
  have v11 : w.cell? ⟨vb, 11, none⟩ = some (.int .i64 0) := (blk_cell hv 11).trans rfl
  have b0 := hb.c0
  have b1 := hb.c1
  have b2 := hb.c2
  have b3 := hb.c3
  have b4 : w.cell? ⟨cb, 4, none⟩ = some (.string noStr) := (blk_cell hb 4).trans rfl
  have b5 : w.cell? ⟨cb, 5, none⟩ = some (.pointer none) := (blk_cell hb 5).trans rfl
  have b6 := hb.c6
  have b7 := hb.c7
  have b8 := hb.c8
  have b9 := hb.c9
  have b10 : w.cell? ⟨cb, 10, none⟩ = some (.int .i64 0) := (blk_cell hb 10).trans rfl
  have b11 : w.cell? ⟨cb, 11, none⟩ = some (.int .i64 0) := (blk_cell hb 11).trans rfl
  have f0 := hb.fz 0
  have f1 := hb.fz 1
  have f2 := hb.fz 2
  have f3 := hb.fz 3
  have f4 := hb.fz 4
  have f5 := hb.fz 5
  have f6 := hb.fz 6
  have f7 := hb.fz 7
  have f8 := hb.fz 8
  have f9 := hb.fz 9
  have f10 := hb.fz 10
  have f11 := hb.fz 11
  clear hr hb hv
  go_enter Tryz.func188, Tryz.ntmps188
  go_wp2_with fail
  go_region
  all_goals go_end0
  all_goals
    refine ⟨rfl, copy12 HB.out, ?_⟩
    exact keep_drew (keep_set (keep_set (keep_set (keep_set (keep_set (keep_set (keep_set (keep_set (keep_set (keep_set (keep_set (keep_set (Keep.refl _ _)))))))))))))
end Go.Proofs.YtghmajlfmoggfaaGreat
namespace Go.Proofs.YtghmajlfmoggfaaGreat
open Go.RowKit Go.Proofs.YtghmajlfmoggfaaGreatW.PrintWords Go.Proofs.YtghmajlfmoggfaaGreatW.PrintLast PFnMerge
theorem restyle {w : World} {b : Nat} {k : Int} {tag val : ByteArray} {C : Value} (h : NodeB w b k tag val C) (j : Nat) : (w.setCell ⟨b, 1, none⟩ (.int .u32 0)).heap[j]? = w.heap[j]? := by
  by_cases e : j = b
  · subst e
    refine (blk_set h 1 _).trans ?_
    rw [show w.heap[j]? = _ from h]
    simp only [nd, List.setIfInBounds_toArray, List.set_cons_zero, List.set_cons_succ]
  · exact Below.heap_setCell _ _ _ _ e
theorem NodeB.restyled {w : World} {b b' : Nat} {k k' : Int} {tag val tag' val' : ByteArray} {C C' : Value} (h : NodeB w b k tag val C) (h' : NodeB w b' k' tag' val' C') : NodeB (w.setCell ⟨b, 1, none⟩ (.int .u32 0)) b' k' tag' val' C' := (restyle h b').trans h'
theorem RNB.restyled {w : World} {b r' b' : Nat} {k : Int} {tag val : ByteArray} {C : Value} (h : NodeB w b k tag val C) (h' : RNB w r' b') : RNB (w.setCell ⟨b, 1, none⟩ (.int .u32 0)) r' b' := (restyle h r').trans h'
set_option maxRecDepth 20000 in
set_option maxHeartbeats 2000000 in
theorem set_found {r b vr vb : Nat} {C : Value} {kids : List Kid} {kid : Kid} {kd name : ByteArray} {k0 k : Int} {tag0 val0 tag val : ByteArray} {A0 A : Option Addr} {n0 c0 n c : Nat} {c1 c2 c3 : ByteArray} (w : World)
    (hr : RNB w r b) (hm : MapAt w b C kids) (hne : name.toList.isEmpty = false) (hk : kids.find? (hasKey name) = some kid) (hcb : NodeB w kid.cb k0 tag0 val0 (.slice A0 n0 c0)) (hk0 : (k0 == 1) = false)
    (hvr : RNB w vr vb) (hvb : NodeB w vb k tag val (.slice A n c)) (hk1 : (k == 1) = false) (hnn : (tag.toList == [33, 33, 110, 117, 108, 108]) = false) :
    Calls Tryz.prog 187 #[.agg #[.string kd, .string name, .string c1, .string c2, .string c3, .pointer (some ⟨vr, 0, none⟩), .string noStr, .bool false, .int .u32 0], .pointer (some ⟨r, 0, none⟩)] w fun e w' =>
      ∃ q, e = .returned (.tuple #[.pointer q, .nilIface]) ∧ NodeB w' kid.cb k tag val (.slice A n c) ∧ Keep (fun j => j = kid.cb) w w' := by
  have HR := Lib.hid hr
  have HM := Lib.hid hm
  have HK := Lib.hid hk
  have HC := Lib.hid hcb
  have HV := Lib.hid hvr
  have HN := Lib.hid hvb
  have hne' : (!name.toList.isEmpty) = true := by rw [hne]; rfl
  have hb0 : Below w.heap.size w (w.alloc (.cells #[.string kd, .string name, .string c1, .string c2, .string c3, .pointer (some ⟨vr, 0, none⟩), .string noStr, .bool false, .int .u32 0] 104)) := below_alloc (Below.refl _ _) _
  have ht0 := tagged_any _ (hvr.under hb0) (hvb.under hb0) hk1
  rw [hnn] at ht0
  have HT0 := Lib.hid ht0
  have HB0 := Lib.hid hb0
  clear hr hm hk hcb hvr hvb hb0 ht0
  go_enter Tryz.func187, Tryz.ntmps187
  go_wp2_with (go_at_call 164; (with_reducible refine Calls.mono HT0.out ?_); rintro e w' ⟨rfl, rfl⟩)
  have hb2 := below_alloc HB0.out (.cells #[.iface 168 (.agg #[.string noStr, .string name, .pointer none, .string noStr, .string noStr, .pointer none])] 135)
  have hp := pipe1 (fun q w' => Below (w.heap.size + 1) (w.alloc (.cells #[.string kd, .string name, .string c1, .string c2, .string c3, .pointer (some ⟨vr, 0, none⟩), .string noStr, .bool false, .int .u32 0] 104)) w' ∧ Found kids name q w') _ (HR.out.under hb2) (HM.out.node.under hb2) rfl
    (fb := w.heap.size + 1) ((blk_cell (blk_new (by simp) _) 0).trans rfl) (meth195 _ _ _ _ _ _) enter195 ((match_key _ (HR.out.under hb2) (HM.out.under hb2) hne).mono fun e w' ⟨q, he, hb, hf⟩ => ⟨q, he, ((Below.refl _ _).alloc (by simp) _).trans (hb.mono (by simp)), hf⟩)
  refine hp.mono ?_
  rintro e w3 ⟨q, rfl, hb3, hf3⟩
  obtain ⟨fr, rfl, hfr⟩ := hf3.2 kid HK.out
  have h104 : w3.heap[w.heap.size]? = some (.cells #[.string kd, .string name, .string c1, .string c2, .string c3, .pointer (some ⟨vr, 0, none⟩), .string noStr, .bool false, .int .u32 0] 104) := (hb3.block _ (by omega)).trans (blk_new rfl _)
  have h5 : w3.cell? ⟨w.heap.size, 5, none⟩ = some (.pointer (some ⟨vr, 0, none⟩)) := (blk_cell h104 5).trans rfl
  have h7 : w3.cell? ⟨w.heap.size, 7, none⟩ = some (.bool false) := (blk_cell h104 7).trans rfl
  have HB3 := Lib.hid (HB0.out.trans (hb3.mono (by omega)))
  have HF := Lib.hid hfr
  have hn3 := HN.out.under HB3.out
  have s1 := hn3.c1
  have z1 := hn3.fz 1
  have HY3 := Lib.hid (ynode_some _ (HV.out.under HB3.out) hn3 hk1)
  have hc3 := HC.out.under HB3.out
  have d1 := hc3.c1
  have HZ3 := Lib.hid (ynode_some _ hfr hc3 hk0)
  obtain ⟨w4, hw4⟩ : ∃ w4, w4 = w3.setCell ⟨vb, 1, none⟩ (.int .u32 0) := ⟨_, rfl⟩
  have h54 : (w3.setCell ⟨vb, 1, none⟩ (.int .u32 0)).cell? ⟨w.heap.size, 5, none⟩ = some (.pointer (some ⟨vr, 0, none⟩)) := (World.cell?_of_block (restyle hn3 _)).trans h5
  have HY4 := Lib.hid (ynode_some _ (RNB.restyled hn3 (HV.out.under HB3.out)) (hn3.restyled hn3) hk1)
  have HS4 := Lib.hid (setYNode188 _ (RNB.restyled hn3 hfr) (hn3.restyled hc3) (hn3.restyled hn3))
  have HK4 := Lib.hid (show Keep (fun j => j = kid.cb) w (w3.setCell ⟨vb, 1, none⟩ (.int .u32 0)) from ⟨HB3.out.os, HB3.out.tape, HB3.out.output, by rw [size_set]; exact HB3.out.size, fun j hj _ => (restyle hn3 j).trans (HB3.out.block j hj)⟩)
  clear hb3 hf3 hp hb2 hfr h104 hn3 hc3 hw4
  go_wp2_with (first | (go_at_call 42; (first | (with_reducible refine Calls.mono HY3.out ?_) | (with_reducible refine Calls.mono HZ3.out ?_) | (with_reducible refine Calls.mono HY4.out ?_)); rintro e w' ⟨rfl, rfl⟩))
  refine Calls.mono HS4.out ?_
  rintro e w5 ⟨rfl, hn5, hk5⟩
  have H5 := Lib.hid (And.intro hn5 (HK4.out.trans hk5 (fun _ _ h => h)))
  clear hn5 hk5
  go_wp2_with fail
  go_ret2
  exact ⟨some ⟨fr, 0, none⟩, rfl, H5.out⟩
end Go.Proofs.YtghmajlfmoggfaaGreat
namespace Go.Proofs.YtghmajlfmoggfaaGreat
open Go.RowKit Go.Proofs.YtghmajlfmoggfaaGreatW.PrintWords Go.Proofs.YtghmajlfmoggfaaGreatW.PrintLast PFnMerge
set_option maxHeartbeats 400000 in
theorem ynode_c {r b : Nat} {k : Int} (w : World) (h1 : w.cell? ⟨r, 1, none⟩ = some (.pointer (some ⟨b, 0, none⟩))) (h2 : w.cell? ⟨b, 0, none⟩ = some (.int .u32 k)) (hk1 : (k == 1) = false) :
    Calls Tryz.prog 42 #[.pointer (some ⟨r, 0, none⟩)] w fun e w' => e = .returned (.pointer (some ⟨b, 0, none⟩)) ∧ w = w' := by
  go_enter Tryz.func42, Tryz.ntmps42
  go_wp2
  go_ret
  exact ⟨rfl, rfl⟩
theorem cell_old {w : World} {p : Addr} {v : Value} (o : Obj) (h : w.cell? p = some v) : (w.alloc o).cell? p = some v := (World.cell?_alloc_lt _ _ _ (World.block_lt_of_cell? w _ h)).trans h
set_option maxRecDepth 20000 in
set_option maxHeartbeats 4000000 in
theorem set_new {r b vr vb : Nat} {A : Option Addr} {n c : Nat} {kids : List Kid} {kd name : ByteArray} {k : Int} {tag val : ByteArray} {C2 : Value} {xs : List Value} (w : World)
    (hr : RNB w r b) (hm : MapAt w b (.slice A n c) kids) (hne : name.toList.isEmpty = false) (hk : kids.find? (hasKey name) = none)
    (hvr : RNB w vr vb) (hvb : NodeB w vb k tag val C2) (hk1 : (k == 1) = false) (hnn : (tag.toList == [33, 33, 110, 117, 108, 108]) = false) (hrow : w.ownsRow 0 69 1 (.slice A n c) n xs) (hbytes : (n + 2) * 8 ≤ 140737488355328) :
    Calls Tryz.prog 187 #[.agg #[.string kd, .string name, .string noStr, .string noStr, .string noStr, .pointer (some ⟨vr, 0, none⟩), .string noStr, .bool false, .int .u32 0], .pointer (some ⟨r, 0, none⟩)] w fun e w' =>
      ∃ q kb C', e = .returned (.tuple #[.pointer q, .nilIface]) ∧ w.heap.size ≤ kb ∧ NodeB w' kb 8 noStr name nilS ∧ NodeB w' b 4 noStr noStr C' ∧ w'.ownsRow 0 69 1 C' (n + 2) (xs ++ [ptrV kb, ptrV vb]) ∧
        (C'.ownBlock = (Value.slice A n c).ownBlock ∨ ∃ g, C'.ownBlock = some g ∧ w.heap.size ≤ g ∧ g ≠ kb) ∧ Keep (fun j => j = b ∨ (Value.slice A n c).ownBlock = some j) w w' := by
  have HR := Lib.hid hr
  have HM := Lib.hid hm
  have HK := Lib.hid hk
  have HV := Lib.hid hvr
  have HN := Lib.hid hvb
  have HW := Lib.hid hrow
  have hne' : (!name.toList.isEmpty) = true := by rw [hne]; rfl
  have hb0 : Below w.heap.size w (w.alloc (.cells #[.string kd, .string name, .string noStr, .string noStr, .string noStr, .pointer (some ⟨vr, 0, none⟩), .string noStr, .bool false, .int .u32 0] 104)) := below_alloc (Below.refl _ _) _
  have ht0 := tagged_any _ (hvr.under hb0) (hvb.under hb0) hk1
  rw [hnn] at ht0
  have HT0 := Lib.hid ht0
  have HB0 := Lib.hid hb0
  clear hr hm hk hvr hvb hb0 ht0 hrow
  go_enter Tryz.func187, Tryz.ntmps187
  go_wp2_with (go_at_call 164; (with_reducible refine Calls.mono HT0.out ?_); rintro e w' ⟨rfl, rfl⟩)
  have hb2 := below_alloc HB0.out (.cells #[.iface 168 (.agg #[.string noStr, .string name, .pointer none, .string noStr, .string noStr, .pointer none])] 135)
  have hp := pipe1 (fun q w' => Below (w.heap.size + 1) (w.alloc (.cells #[.string kd, .string name, .string noStr, .string noStr, .string noStr, .pointer (some ⟨vr, 0, none⟩), .string noStr, .bool false, .int .u32 0] 104)) w' ∧ Found kids name q w') _ (HR.out.under hb2) (HM.out.node.under hb2) rfl
    (fb := w.heap.size + 1) ((blk_cell (blk_new (by simp) _) 0).trans rfl) (meth195 _ _ _ _ _ _) enter195 ((match_key _ (HR.out.under hb2) (HM.out.under hb2) hne).mono fun e w' ⟨q, he, hb, hf⟩ => ⟨q, he, ((Below.refl _ _).alloc (by simp) _).trans (hb.mono (by simp)), hf⟩)
  refine hp.mono ?_
  rintro e w3 ⟨q, rfl, hb3, hf3⟩
  obtain rfl := hf3.1 HK.out
  have h104 : w3.heap[w.heap.size]? = some (.cells #[.string kd, .string name, .string noStr, .string noStr, .string noStr, .pointer (some ⟨vr, 0, none⟩), .string noStr, .bool false, .int .u32 0] 104) := (hb3.block _ (by omega)).trans (blk_new rfl _)
  have h1 : w3.cell? ⟨w.heap.size, 1, none⟩ = some (.string name) := (blk_cell h104 1).trans rfl
  have h2 : w3.cell? ⟨w.heap.size, 2, none⟩ = some (.string noStr) := (blk_cell h104 2).trans rfl
  have h3 : w3.cell? ⟨w.heap.size, 3, none⟩ = some (.string noStr) := (blk_cell h104 3).trans rfl
  have h4 : w3.cell? ⟨w.heap.size, 4, none⟩ = some (.string noStr) := (blk_cell h104 4).trans rfl
  have h5 : w3.cell? ⟨w.heap.size, 5, none⟩ = some (.pointer (some ⟨vr, 0, none⟩)) := (blk_cell h104 5).trans rfl
  have h8 : w3.cell? ⟨w.heap.size, 8, none⟩ = some (.int .u32 0) := (blk_cell h104 8).trans rfl
  have HBe := Lib.hid (HB0.out.trans (hb3.mono (by omega)))
  have HB3 := Lib.hid (HM.out.node.under HBe.out)
  have ha1 := (HR.out.under HBe.out).cell1
  have hb0 := HB3.out.c0
  have hb6 := HB3.out.c6
  have hv1 := (HV.out.under HBe.out).cell1
  have hv0 := (HN.out.under HBe.out).c0
  have HROW := Lib.hid (own_drew (pw_own_below HW.out HBe.out))
  have H1 := Lib.hid h104
  clear hb3 hf3 hp hb2 h104
  go_wp2_with fail
  refine start_ (n := 30) (S := fun w' => w'.cell? ⟨r, 1, none⟩ = some (.pointer (some ⟨b, 0, none⟩)) ∧ w'.cell? ⟨b, 0, none⟩ = some (.int .u32 4) ∧ w'.cell? ⟨b, 6, none⟩ = some (.slice A n c) ∧ w'.cell? ⟨w.heap.size, 1, none⟩ = some (.string name) ∧ w'.cell? ⟨w.heap.size, 8, none⟩ = some (.int .u32 0) ∧ w'.cell? ⟨w.heap.size, 3, none⟩ = some (.string noStr) ∧ w'.cell? ⟨w.heap.size, 2, none⟩ = some (.string noStr) ∧ w'.cell? ⟨w.heap.size, 4, none⟩ = some (.string noStr) ∧ w'.cell? ⟨w.heap.size, 5, none⟩ = some (.pointer (some ⟨vr, 0, none⟩)) ∧ w'.cell? ⟨vr, 1, none⟩ = some (.pointer (some ⟨vb, 0, none⟩)) ∧ w'.cell? ⟨vb, 0, none⟩ = some (.int .u32 k)) (ds := [26, 29]) #[false, false, false, false, false, false, false, false, false, false, false, false, false, false, false, false, false, false, false, false, false, false, false, false, false, false, false, false, false, false] (by kernel_rfl) rfl rfl ⟨ha1, hb0, hb6, h1, h8, h3, h2, h4, h5, hv1, hv0⟩ (fun hHeld => ?_)
  refine pure_ (i := 0) (N := some 129) (v := ?_) (a' := ?_) (bl 30 1) rfl rfl (by kernel_rfl) (fun _ _ _ h => h) (Or.inl ⟨by rfl, ?_⟩) ?_ ?_; rotate_left; (· (intro w'; go_simp; with_reducible rfl)); rotate_left; (· (simp only [np]; rfl))
  refine pure_ (i := 2) (N := some 131) (v := ?_) (a' := ?_) (bl 30 5) rfl rfl (by kernel_rfl) (fun _ _ _ h => h) (Or.inl ⟨by rfl, ?_⟩) ?_ ?_; rotate_left; (· (intro w'; go_simp; with_reducible rfl)); rotate_left; (· (simp only [np]; rfl))
  refine pure_ (i := 7) (N := some 136) (v := ?_) (a' := ?_) (bl 30 133) rfl rfl (by kernel_rfl) (fun _ _ _ h => h) (Or.inl ⟨by rfl, ?_⟩) ?_ ?_; rotate_left; (· (intro w'; go_simp; with_reducible rfl)); rotate_left; (· (simp only [np]; rfl))
  refine pure_ (i := 9) (N := some 138) (v := ?_) (a' := ?_) (bl 30 645) rfl rfl (by kernel_rfl) (fun _ _ _ h => h) (Or.inl ⟨by rfl, ?_⟩) ?_ ?_; rotate_left; (· (intro w'; go_simp; with_reducible rfl)); rotate_left; (· (simp only [np]; rfl))
  refine pure_ (i := 11) (N := some 140) (v := ?_) (a' := ?_) (bl 30 2693) rfl rfl (by kernel_rfl) (fun _ _ _ h => h) (Or.inl ⟨by rfl, ?_⟩) ?_ ?_; rotate_left; (· (intro w'; go_simp; with_reducible rfl)); rotate_left; (· (simp only [np]; rfl))
  refine pure_ (i := 12) (N := some 141) (v := ?_) (a' := ?_) (bl 30 6789) rfl rfl (by kernel_rfl) (fun _ _ _ h => h) (Or.inl ⟨by rfl, ?_⟩) ?_ ?_; rotate_left; (· (intro w'; go_simp; with_reducible rfl)); rotate_left; (· (simp only [np]; rfl))
  refine pure_ (i := 14) (N := some 143) (v := ?_) (a' := ?_) (bl 30 23173) rfl rfl (by kernel_rfl) (fun _ _ _ h => h) (Or.inl ⟨by rfl, ?_⟩) ?_ ?_; rotate_left; (· (intro w'; go_simp; with_reducible rfl)); rotate_left; (· (simp only [np]; rfl))
  refine pure_ (i := 15) (N := some 144) (v := ?_) (a' := ?_) (bl 30 55941) rfl rfl (by kernel_rfl) (fun _ _ _ h => h) (Or.inl ⟨by rfl, ?_⟩) ?_ ?_; rotate_left; (· (intro w'; go_simp; with_reducible rfl)); rotate_left; (· (simp only [np]; rfl))
  refine pure_ (i := 17) (N := some 146) (v := ?_) (a' := ?_) (bl 30 187013) rfl rfl (by kernel_rfl) (fun _ _ _ h => h) (Or.inl ⟨by rfl, ?_⟩) ?_ ?_; rotate_left; (· (intro w'; go_simp; with_reducible rfl)); rotate_left; (· (simp only [np]; rfl))
  refine pure_ (i := 18) (N := some 147) (v := ?_) (a' := ?_) (bl 30 449157) rfl rfl (by kernel_rfl) (fun _ _ _ h => h) (Or.inl ⟨by rfl, ?_⟩) ?_ ?_; rotate_left; (· (intro w'; go_simp; with_reducible rfl)); rotate_left; (· (simp only [np]; rfl))
  refine pure_ (i := 22) (N := some 151) (v := ?_) (a' := ?_) (bl 30 4643461) rfl rfl (by kernel_rfl) (fun _ _ _ h => h) (Or.inl ⟨by rfl, ?_⟩) ?_ ?_; rotate_left; (· (intro w'; go_simp; with_reducible rfl)); rotate_left; (· (simp only [np]; rfl))
  refine takeC_ (i := 1) (N := some 130) (v := ?_) (a' := ?_) (bl 30 4643463) rfl rfl (by kernel_rfl) (fun _ _ _ h => h) Tryz.func42 (by kernel_rfl) rfl #[.pointer (some ⟨r, 0, none⟩)] (by rfl) rfl (by simp only [List.map_toArray, List.map_cons, List.map_nil]; rfl) ?_ hHeld ?_ ?_
  rotate_left
  · rintro w' ⟨s0, s1, s2, s3, s4, s5, s6, s7, s8, s9, s10⟩
    exact ynode_c _ s0 s1 rfl
  rotate_left
  · simp only [np]
    rfl
  refine takeC_ (i := 3) (N := some 132) (v := ?_) (a' := ?_) (bl 30 4643471) rfl rfl (by kernel_rfl) (fun _ _ _ h => h) Tryz.func42 (by kernel_rfl) rfl #[.pointer (some ⟨r, 0, none⟩)] (by rfl) rfl (by simp only [List.map_toArray, List.map_cons, List.map_nil]; rfl) ?_ hHeld ?_ ?_
  rotate_left
  · rintro w' ⟨s0, s1, s2, s3, s4, s5, s6, s7, s8, s9, s10⟩
    exact ynode_c _ s0 s1 rfl
  rotate_left
  · simp only [np]
    rfl
  refine pure_ (i := 4) (N := some 133) (v := ?_) (a' := ?_) (bl 30 4643487) rfl rfl (by kernel_rfl) (fun _ _ _ h => h) (Or.inl ⟨by rfl, ?_⟩) ?_ ?_; rotate_left; (· (intro w'; go_simp; with_reducible rfl)); rotate_left; (· (simp only [np]; rfl))
  refine pure_ (i := 5) (N := some 134) (v := ?_) (a' := ?_) (bl 30 4643519) rfl rfl (by kernel_rfl) (fun _ _ _ h => h) (Or.inl ⟨by rfl, ?_⟩) ?_ ?_; rotate_left; (· (intro w'; go_simp; with_reducible rfl)); rotate_left; (· (simp only [np]; rfl))
  refine take_ (i := 6) (N := some 135) (v := ?_) (a' := ?_) (bl 30 4643583) rfl rfl (by kernel_rfl) (fun _ _ _ h => h) (Or.inl ⟨by rfl, ?_⟩) hHeld ?_ ?_; rotate_left; (· (rintro w' ⟨s0, s1, s2, s3, s4, s5, s6, s7, s8, s9, s10⟩; go_simp; with_reducible rfl)); rotate_left; (· (simp only [np]; rfl))
  refine take_ (i := 8) (N := some 137) (v := ?_) (a' := ?_) (bl 30 4643839) rfl rfl (by kernel_rfl) (fun _ _ _ h => h) (Or.inl ⟨by rfl, ?_⟩) hHeld ?_ ?_; rotate_left; (· (rintro w' ⟨s0, s1, s2, s3, s4, s5, s6, s7, s8, s9, s10⟩; go_simp; with_reducible rfl)); rotate_left; (· (simp only [np]; rfl))
  refine take_ (i := 10) (N := some 139) (v := ?_) (a' := ?_) (bl 30 4644863) rfl rfl (by kernel_rfl) (fun _ _ _ h => h) (Or.inl ⟨by rfl, ?_⟩) hHeld ?_ ?_; rotate_left; (· (rintro w' ⟨s0, s1, s2, s3, s4, s5, s6, s7, s8, s9, s10⟩; go_simp; with_reducible rfl)); rotate_left; (· (simp only [np]; rfl))
  refine take_ (i := 13) (N := some 142) (v := ?_) (a' := ?_) (bl 30 4653055) rfl rfl (by kernel_rfl) (fun _ _ _ h => h) (Or.inl ⟨by rfl, ?_⟩) hHeld ?_ ?_; rotate_left; (· (rintro w' ⟨s0, s1, s2, s3, s4, s5, s6, s7, s8, s9, s10⟩; go_simp; with_reducible rfl)); rotate_left; (· (simp only [np]; rfl))
  refine take_ (i := 16) (N := some 145) (v := ?_) (a' := ?_) (bl 30 4718591) rfl rfl (by kernel_rfl) (fun _ _ _ h => h) (Or.inl ⟨by rfl, ?_⟩) hHeld ?_ ?_; rotate_left; (· (rintro w' ⟨s0, s1, s2, s3, s4, s5, s6, s7, s8, s9, s10⟩; go_simp; with_reducible rfl)); rotate_left; (· (simp only [np]; rfl))
  refine take_ (i := 19) (N := some 148) (v := ?_) (a' := ?_) (bl 30 5242879) rfl rfl (by kernel_rfl) (fun _ _ _ h => h) (Or.inl ⟨by rfl, ?_⟩) hHeld ?_ ?_; rotate_left; (· (rintro w' ⟨s0, s1, s2, s3, s4, s5, s6, s7, s8, s9, s10⟩; go_simp; with_reducible rfl)); rotate_left; (· (simp only [np]; rfl))
  refine pure_ (i := 20) (N := some 149) (v := ?_) (a' := ?_) (bl 30 6291455) rfl rfl (by kernel_rfl) (fun _ _ _ h => h) (Or.inl ⟨by rfl, ?_⟩) ?_ ?_; rotate_left; (· (intro w'; go_simp; with_reducible rfl)); rotate_left; (· (simp only [np]; rfl))
  refine take_ (i := 23) (N := some 152) (v := ?_) (a' := ?_) (bl 30 14680063) rfl rfl (by kernel_rfl) (fun _ _ _ h => h) (Or.inl ⟨by rfl, ?_⟩) hHeld ?_ ?_; rotate_left; (· (rintro w' ⟨s0, s1, s2, s3, s4, s5, s6, s7, s8, s9, s10⟩; go_simp; with_reducible rfl)); rotate_left; (· (simp only [np]; rfl))
  refine takeC_ (i := 24) (N := some 153) (v := ?_) (a' := ?_) (bl 30 31457279) rfl rfl (by kernel_rfl) (fun _ _ _ h => h) Tryz.func42 (by kernel_rfl) rfl #[.pointer (some ⟨vr, 0, none⟩)] (by rfl) rfl (by simp only [List.map_toArray, List.map_cons, List.map_nil]; rfl) ?_ hHeld ?_ ?_
  rotate_left
  · rintro w' ⟨s0, s1, s2, s3, s4, s5, s6, s7, s8, s9, s10⟩
    exact ynode_c _ s9 s10 hk1
  rotate_left
  · simp only [np]
    rfl
  refine one_ (i := 21) (N := some 150) (bl 30 33554431) rfl rfl (by kernel_rfl) (by decide) (fun K hK => ?_)
  refine value_ (w1 := ?_) (v := ?_) (by rfl) rfl ?_ ?_
  rotate_left 2
  · go_simp
    constructor
    · rfl
    · rfl
  refine hK.out _ _ ⟨cell_old _ hHeld.1, cell_old _ hHeld.2.1, cell_old _ hHeld.2.2.1, cell_old _ hHeld.2.2.2.1, cell_old _ hHeld.2.2.2.2.1, cell_old _ hHeld.2.2.2.2.2.1, cell_old _ hHeld.2.2.2.2.2.2.1, cell_old _ hHeld.2.2.2.2.2.2.2.1, cell_old _ hHeld.2.2.2.2.2.2.2.2.1, cell_old _ hHeld.2.2.2.2.2.2.2.2.2.1, cell_old _ hHeld.2.2.2.2.2.2.2.2.2.2⟩ (fun hHeld => ?_)
  clear hK K
  refine norm_ (a' := ?_) ?_ ?_; rotate_left; (· (show Act.put _ (some 150) _ = _; simp only [np]; rfl))
  refine one_ (i := 25) (N := some 154) (bl 30 67108863) rfl rfl (by kernel_rfl) (by decide) (fun K hK => ?_)
  refine value_ (w1 := ?_) (v := ?_) (by rfl) rfl ?_ ?_
  rotate_left 2
  · go_simp
    constructor
    · rfl
    · rfl
  refine hK.out _ _ ⟨cell_old _ hHeld.1, cell_old _ hHeld.2.1, cell_old _ hHeld.2.2.1, cell_old _ hHeld.2.2.2.1, cell_old _ hHeld.2.2.2.2.1, cell_old _ hHeld.2.2.2.2.2.1, cell_old _ hHeld.2.2.2.2.2.2.1, cell_old _ hHeld.2.2.2.2.2.2.2.1, cell_old _ hHeld.2.2.2.2.2.2.2.2.1, cell_old _ hHeld.2.2.2.2.2.2.2.2.2.1, cell_old _ hHeld.2.2.2.2.2.2.2.2.2.2⟩ (fun hHeld => ?_)
  clear hK K
  refine norm_ (a' := ?_) ?_ ?_; rotate_left; (· (show Act.put _ (some 154) _ = _; simp only [np]; rfl))
  refine last_ (i := 26) (N := some 155) (bl 30 134217727) rfl rfl (by kernel_rfl) (by decide) (fun K hK => ?_)
  refine step_app (base := 0) (Nat.zero_le _) 83 69 (.pointer none) 8 [.pointer (some ⟨w3.heap.size, 0, none⟩), .pointer (some ⟨vb, 0, none⟩)] 2 rfl (by rfl) (by rfl) Tryz.underlying83 info69 rfl (by omega) (.slice A n c) n xs (by rfl) (by simp [Act.eval]) (by simp [Value.oneCell']) (HROW.out.alloc _) hbytes ?_
  intro v1 w4 hown1 hg1 hat1
  obtain ⟨A1, c1, rfl⟩ := own_slice hown1
  have hb4 : NodeB w4 b 4 noStr noStr (.slice A n c) := (hg1.block b (by simp; exact Nat.lt_succ_of_lt HB3.out.lt) (own_ne HROW.out (blk_drew HB3.out) (by decide))).trans (blk_old _ (blk_drew HB3.out))
  have c46 := hb4.c6
  have z46 := hb4.fz 6
  have HB4 := Lib.hid hb4
  have HO1 := Lib.hid hown1
  have HG1 := Lib.hid hg1
  have HA1 := Lib.hid hat1
  clear hown1 hg1 hat1 hb4
  refine hK.out _ _ ?_
  clear hK K
  refine norm_ (a' := ?_) ?_ ?_; rotate_left; (· (show Act.put _ (some 155) _ = _; simp only [np]; rfl))
  refine pure_ (i := 27) (N := some 156) (v := ?_) (a' := ?_) (bl 30 268435455) rfl rfl (by kernel_rfl) (fun _ _ _ h => h) (Or.inl ⟨by rfl, ?_⟩) ?_ ?_; rotate_left; (· (intro w'; go_simp; with_reducible rfl)); rotate_left; (· (simp only [np]; rfl))
  refine pure_ (i := 28) (N := some 157) (v := ?_) (a' := ?_) (bl 30 536870911) rfl rfl (by kernel_rfl) (fun _ _ _ h => h) (Or.inl ⟨by rfl, ?_⟩) ?_ ?_; rotate_left; (· (intro w'; go_simp; with_reducible rfl)); rotate_left; (· (simp only [np]; rfl))
  refine last_ (i := 29) (N := none) (bl 30 1073741823) rfl rfl (by kernel_rfl) (by decide) (fun K hK => ?_)
  refine skip_ (w1 := ?_) (by rfl) rfl ?_ ?_
  rotate_left
  · go_simp
    rfl
  refine hK.out _ _ ?_
  clear hK K
  refine done_ (by kernel_rfl) ?_
  have hbw : b < w.heap.size := HM.out.node.lt
  have H104 : w4.heap[w.heap.size]? = some (.cells #[.string kd, .string name, .string noStr, .string noStr, .string noStr, .pointer (some ⟨vr, 0, none⟩), .string noStr, .bool false, .int .u32 0] 104) := (HG1.out.block _ (by simp; exact Nat.lt_succ_of_lt (blk_lt H1.out)) (own_ne HROW.out (blk_drew H1.out) (by decide))).trans (blk_old _ (blk_drew H1.out))
  have hc5 : (w4.setCell ⟨b, 6, none⟩ (.slice A1 (n + 2) c1)).cell? ⟨w.heap.size, 5, none⟩ = some (.pointer (some ⟨vr, 0, none⟩)) := (blk_cell (blk_else _ (by show w.heap.size ≠ b; omega) H104) 5).trans rfl
  have HH := Lib.hid H104
  have HL := Lib.hid hbw
  clear H104 hbw h1 h2 h3 h4 h5 h8 ha1 hb0 hb6 hv1 hv0
  go_wp2_with fail
  go_ret2
  have hkb : w4.heap[w3.heap.size]? = some (.cells (nd 8 noStr name nilS) 85 (0, 0)) := by
    have hnew : (w3.drew.alloc (.cells (nd 8 noStr name nilS) 85)).heap[w3.heap.size]? = some (.cells (nd 8 noStr name nilS) 85 (0, 0)) := blk_new rfl _
    exact (HG1.out.block _ (blk_lt hnew) (own_ne (HROW.out.alloc _) hnew (by decide))).trans hnew
  have hsz : w.heap.size ≤ w3.heap.size := HBe.out.size
  refine ⟨some ⟨vr, 0, none⟩, w3.heap.size, .slice A1 (n + 2) c1, rfl, hsz, ?_, ?_, ?_, ?_, ?_⟩
  · exact blk_else _ (by show w3.heap.size ≠ b; have := HL.out; omega) hkb
  · refine (blk_set HB4.out 6 _).trans ?_
    simp only [nd, List.setIfInBounds_toArray, List.set_cons_zero, List.set_cons_succ]
  · exact own_setCell HO1.out (show some b ≠ _ from own_ne HO1.out HB4.out (by decide)) _
  · rcases HA1.out with h | ⟨g, h, hg⟩
    · exact .inl h
    · refine .inr ⟨g, h, by simp at hg; omega, ?_⟩
      intro e
      subst e
      simp at hg
      omega
  · refine Keep.setCell ?_ _ _ (fun _ => .inl rfl)
    exact ((((Keep.of_below HBe.out _).drew).alloc _).grown HG1.out (fun j _ hj => .inr hj))
end Go.Proofs.YtghmajlfmoggfaaGreat
namespace Go.Proofs.YtghmajlfmoggfaaGreat
open Go.RowKit Go.Proofs.YtghmajlfmoggfaaGreatW.PrintWords Go.Proofs.YtghmajlfmoggfaaGreatW.PrintLast PFnMerge
set_option maxHeartbeats 400000 in
theorem content_c {r b : Nat} {k : Int} {C : Value} (w : World) (h1 : w.cell? ⟨r, 1, none⟩ = some (.pointer (some ⟨b, 0, none⟩))) (h2 : w.cell? ⟨b, 0, none⟩ = some (.int .u32 k)) (h6 : w.cell? ⟨b, 6, none⟩ = some C) (hk1 : (k == 1) = false) :
    Calls Tryz.prog 79 #[.pointer (some ⟨r, 0, none⟩)] w fun e w' => e = .returned C ∧ w = w' := by
  go_enter Tryz.func79, Tryz.ntmps79
  go_wp2_with (go_at_call 42; refine (ynode_c _ h1 h2 hk1).mono ?_; rintro e w' ⟨rfl, rfl⟩)
  go_ret
  exact ⟨rfl, rfl⟩
theorem own_cell_at {w : World} {base n c g : Nat} {e : TypeId} {xs : List Value} (h : w.ownsRow base e 1 (.slice (some ⟨g, 0, none⟩) n c) n xs) {i : Nat} {u : Value} (hi : xs[i]? = some u) : w.cell? ⟨g, i, none⟩ = some u := by
  obtain ⟨hl, h | ⟨g', cap, cur, he, _, hg, h1, h2, hs, ht⟩⟩ := h
  · cases h.1
  · injection he with hA hn hc
    injection hA with hA
    injection hA with hA
    subst hA
    have hlt : i < xs.length := (List.getElem?_eq_some_iff.1 hi).1
    rw [blk_cell hg i]
    rw [← ht, List.getElem?_take_of_lt (by omega)] at hi
    rw [← Array.getElem?_toList]
    exact hi
set_option maxHeartbeats 400000 in
theorem clo206_ne {kb cb p3 p4 p5 : Nat} {q : Int} {tag key name kd : ByteArray} {C : Value} (w : World) (hkb : NodeB w kb 8 tag key C)
    (h3 : w.heap[p3]? = some (.cells #[.string kd, .string name, .bool false] 224 (0, 0))) (hne : (name.toList == key.toList) = false) :
    Calls Tryz.prog 206 #[.pointer (some ⟨kb, 0, none⟩), .pointer (some ⟨cb, 0, none⟩), .int .i64 q, .pointer (some ⟨p3, 0, none⟩), .pointer (some ⟨p4, 0, none⟩), .pointer (some ⟨p5, 0, none⟩)] w fun e w' => e = .returned (.bool true) ∧ Below w.heap.size w w' := by
  have h2 := hkb.c3
  have h31 : w.cell? ⟨p3, 1, none⟩ = some (.string name) := (blk_cell h3 1).trans rfl
  have hne' : (key.toList == name.toList) = false := by rw [beq_eq_false_iff_ne] at hne ⊢; exact fun e => hne e.symm
  clear hkb h3 hne
  go_enter Tryz.func206, Tryz.ntmps206
  go_wp2_with fail
  go_quiet (fail)
  go_wp2_with fail
  go_ret
  exact ⟨rfl, by repeat (first | exact Below.refl _ _ | apply below_alloc | apply pw_below_drewN | apply below_drew)⟩
section
variable {r b kb cb p3 p4 p5 q n c g : Nat} {tag key name kd : ByteArray} {C0 v : Value} {xs : List Value}
set_option maxRecDepth 20000 in
set_option maxHeartbeats 2000000 in
theorem clo206_eq (w : World) (hkb : NodeB w kb 8 tag key C0)
    (h3 : w.heap[p3]? = some (.cells #[.string kd, .string name, .bool false] 224 (0, 0))) (hne : (name.toList == key.toList) = true) (hp4 : w.heap[p4]? = some (.cells #[v] 47 (0, 0)))
    (hp5 : w.heap[p5]? = some (.cells #[.pointer (some ⟨r, 0, none⟩)] 47 (0, 0))) (h45 : p4 ≠ p5) (hr : RNB w r b) (hb : NodeB w b 4 noStr noStr (.slice (some ⟨g, 0, none⟩) n c)) (hrow : w.ownsRow 0 69 1 (.slice (some ⟨g, 0, none⟩) n c) n xs) (hq : q + 1 < n) (hp4g : p4 ≠ g) (hp4b : p4 ≠ b) (hp4r : p4 ≠ r) (hgb : g ≠ b) (hone : ∀ u ∈ xs, u.oneCell' = true) :
    Calls Tryz.prog 206 #[.pointer (some ⟨kb, 0, none⟩), .pointer (some ⟨cb, 0, none⟩), .int .i64 (q : Int), .pointer (some ⟨p3, 0, none⟩), .pointer (some ⟨p4, 0, none⟩), .pointer (some ⟨p5, 0, none⟩)] w fun e w' => e = .returned (.bool false) ∧
      NodeB w' b 4 noStr noStr (.slice (some ⟨g, 0, none⟩) (n - 2) c) ∧ w'.ownsRow 0 69 1 (.slice (some ⟨g, 0, none⟩) (n - 2) c) (n - 2) (xs.take q ++ xs.drop (q + 2)) ∧ (∃ a, w'.heap[p4]? = some (.cells #[.pointer a] 47 (0, 0))) ∧ Keep (fun k => k = b ∨ k = g ∨ k = p4) w w' := by
  have h2 := hkb.c3
  have h31 : w.cell? ⟨p3, 1, none⟩ = some (.string name) := (blk_cell h3 1).trans rfl
  have h32 : w.cell? ⟨p3, 2, none⟩ = some (.bool false) := (blk_cell h3 2).trans rfl
  have hne' : (key.toList == name.toList) = true := by rw [beq_iff_eq] at hne ⊢; exact hne.symm
  have hc4 : w.cell? ⟨p4, 0, none⟩ = some v := (blk_cell hp4 0).trans rfl
  have hz4 : w.frozen? ⟨p4, 0, none⟩ = false := blk_frozen hp4 0
  have hlt : p4 < w.heap.size := blk_lt hp4
  have hl1 : p4 < w.heap.size + 1 := by omega
  have hcq : ∀ n o, ((w.drewN n).alloc o).cell? ⟨p4, 0, none⟩ = some v := fun n o => (World.cell?_alloc_past (w := w.drewN n) o p4 0 hlt).trans hc4
  have hzq : ∀ n o, ((w.drewN n).alloc o).frozen? ⟨p4, 0, none⟩ = false := fun n o => (World.frozen?_alloc_past (w := w.drewN n) o p4 0 hlt).trans hz4
  have HW1 : Hid (∀ m o u, (((w.drewN m).alloc o).setCell ⟨p4, 0, none⟩ u).heap[p5]? = some (.cells #[.pointer (some ⟨r, 0, none⟩)] 47 (0, 0)) ∧ RNB (((w.drewN m).alloc o).setCell ⟨p4, 0, none⟩ u) r b ∧ NodeB (((w.drewN m).alloc o).setCell ⟨p4, 0, none⟩ u) b 4 noStr noStr (.slice (some ⟨g, 0, none⟩) n c) ∧ (((w.drewN m).alloc o).setCell ⟨p4, 0, none⟩ u).ownsRow 0 69 1 (.slice (some ⟨g, 0, none⟩) n c) n xs ∧ (((w.drewN m).alloc o).setCell ⟨p4, 0, none⟩ u).heap[p4]? = some (.cells #[u] 47 (0, 0)) ∧ Keep (fun k => k = p4) w (((w.drewN m).alloc o).setCell ⟨p4, 0, none⟩ u)) := Lib.hid fun m o u =>
    ⟨blk_else u (show p5 ≠ p4 from h45.symm) (blk_old (w := w.drewN m) o hp5), blk_else u (show r ≠ p4 from hp4r.symm) (blk_old (w := w.drewN m) o hr), blk_else u (show b ≠ p4 from hp4b.symm) (blk_old (w := w.drewN m) o hb), own_setCell (World.ownsRow.alloc (w := w.drewN m) hrow o) (by show some p4 ≠ some g; intro e; injection e with e; exact hp4g e) u,
      by exact blk_set (blk_old (w := w.drewN m) o hp4) 0 u, (((Keep.refl (fun k => k = p4) w).drewN m).alloc o).setCell ⟨p4, 0, none⟩ u (fun _ => rfl)⟩
  have hc5 : ∀ m o u, (((w.drewN m).alloc o).setCell ⟨p4, 0, none⟩ u).cell? ⟨p5, 0, none⟩ = some (.pointer (some ⟨r, 0, none⟩)) := fun m o u => (blk_cell (HW1.out m o u).1 0).trans rfl
  have HX := Lib.hid hone
  have HGB := Lib.hid hgb
  have H4B := Lib.hid hp4b
  have H4G := Lib.hid hp4g
  have HRB : Hid (r ≠ b) := Lib.hid (by rintro rfl; unfold RNB at hr; unfold NodeB at hb; rw [hr] at hb; injection hb with hb; injection hb with _ hb; cases hb)
  have H5B : Hid (p5 ≠ b) := Lib.hid (by rintro rfl; unfold NodeB at hb; rw [hp5] at hb; injection hb with hb; injection hb with _ hb; cases hb)
  have hnc := own_cap hrow
  have hcm : c ≤ maxLen := by
    obtain ⟨_, h | ⟨g', cap, cur, he, _, _, _, h2, _⟩⟩ := hrow
    · cases h.1
    · injection he with _ _ he; omega
  have hnm : n ≤ maxLen := by omega
  have hxl : xs.length = n := by have := hrow.1; omega
  unfold maxLen at hnm hcm
  have hw2 : IntKind.i64.wrap ((q : Int) + 2) = (q : Int) + 2 := IntWalk.i64_in _ (by omega)
  clear hkb h3 hne hp4 hp5 hr hb hrow hone hgb h45 hp4g hp4b hp4r
  go_enter Tryz.func206, Tryz.ntmps206
  go_wp2_with fail
  go_quiet (fail)
  go_wp2_with (go_at_call 39; (with_reducible refine Calls.mono (newRNode _) ?_); rintro e w' ⟨rfl, rfl⟩)
  obtain ⟨f5, fr, fb, frow, f4, fk⟩ := HW1.out nq (.cells #[nilS, .pointer (some ⟨cb, 0, none⟩), .bool false, nilS] 81) (.pointer (some ⟨w.heap.size, 0, none⟩))
  generalize hwg : ((w.drewN nq).alloc (.cells #[nilS, .pointer (some ⟨cb, 0, none⟩), .bool false, nilS] 81)).setCell ⟨p4, 0, none⟩ (.pointer (some ⟨w.heap.size, 0, none⟩)) = w1 at f5 fr fb frow f4 fk
  have e5 : w1.cell? ⟨p5, 0, none⟩ = some (.pointer (some ⟨r, 0, none⟩)) := (blk_cell f5 0).trans rfl
  have e1 := fr.cell1
  have e0 := fb.c0
  have e6 := fb.c6
  have e65 : w1.frozen? ⟨b, 6, none⟩ = false := fb.fz 6
  have FB := Lib.hid fb
  have FR := Lib.hid fr
  have F4 := Lib.hid f4
  have F5 := Lib.hid f5
  have FW := Lib.hid frow
  have FK := Lib.hid fk
  have HC5 := Lib.hid hc5
  have hq0 : (0 : Int) ≤ (q : Int) := by omega
  have hqc : (q : Int) ≤ (c : Int) := by omega
  clear HW1 fb fr f4 f5 frow fk hcq hzq
  by_cases hlast : q + 2 = n
  · have hx : ¬ ((q : Int) + 2 < (n : Int)) := by omega
    go_wp2_with (go_at_call 42; (with_reducible refine Calls.mono (ynode_some _ FR.out FB.out rfl) ?_); rintro e w' ⟨rfl, rfl⟩)
    refine start_ (n := 9) (S := fun w' => w'.cell? ⟨p5, 0, none⟩ = some (.pointer (some ⟨r, 0, none⟩)) ∧ w'.cell? ⟨r, 1, none⟩ = some (.pointer (some ⟨b, 0, none⟩)) ∧ w'.cell? ⟨b, 0, none⟩ = some (.int .u32 4) ∧ w'.cell? ⟨b, 6, none⟩ = some (.slice (some ⟨g, 0, none⟩) n c)) (ds := [8]) #[false, false, false, false, false, false, false, false, false] (by kernel_rfl) rfl rfl ⟨e5, e1, e0, e6⟩ (fun hHeld => ?_)
    refine pure_ (i := 4) (N := some 71) (v := ?_) (a' := ?_) (bl 9 16) rfl rfl (by kernel_rfl) (fun _ _ _ h => h) (Or.inl ⟨by rfl, ?_⟩) ?_ ?_; rotate_left; (· (intro w'; go_simp; with_reducible rfl)); rotate_left; (· (simp only [np]; rfl))
    refine take_ (i := 0) (N := some 67) (v := ?_) (a' := ?_) (bl 9 17) rfl rfl (by kernel_rfl) (fun _ _ _ h => h) (Or.inl ⟨by rfl, ?_⟩) hHeld ?_ ?_; rotate_left; (· (rintro w' ⟨s0, s1, s2, s3⟩; go_simp; with_reducible rfl)); rotate_left; (· (simp only [np]; rfl))
    refine takeC_ (i := 1) (N := some 68) (v := ?_) (a' := ?_) (bl 9 19) rfl rfl (by kernel_rfl) (fun _ _ _ h => h) Tryz.func42 (by kernel_rfl) rfl #[.pointer (some ⟨r, 0, none⟩)] (by rfl) rfl (by simp only [List.map_toArray, List.map_cons, List.map_nil]; rfl) ?_ hHeld ?_ ?_
    rotate_left
    · rintro w' ⟨s0, s1, s2, s3⟩
      exact ynode_c _ s1 s2 rfl
    rotate_left
    · simp only [np]
      rfl
    refine take_ (i := 2) (N := some 69) (v := ?_) (a' := ?_) (bl 9 23) rfl rfl (by kernel_rfl) (fun _ _ _ h => h) (Or.inl ⟨by rfl, ?_⟩) hHeld ?_ ?_; rotate_left; (· (rintro w' ⟨s0, s1, s2, s3⟩; go_simp; with_reducible rfl)); rotate_left; (· (simp only [np]; rfl))
    refine takeC_ (i := 3) (N := some 70) (v := ?_) (a' := ?_) (bl 9 31) rfl rfl (by kernel_rfl) (fun _ _ _ h => h) Tryz.func79 (by kernel_rfl) rfl #[.pointer (some ⟨r, 0, none⟩)] (by rfl) rfl (by simp only [List.map_toArray, List.map_cons, List.map_nil]; rfl) ?_ hHeld ?_ ?_
    rotate_left
    · rintro w' ⟨s0, s1, s2, s3⟩
      exact content_c (C := .slice (some ⟨g, 0, none⟩) n c) _ s1 s2 s3 rfl
    rotate_left
    · simp only [np]
      rfl
    refine pure_ (i := 5) (N := some 72) (v := ?_) (a' := ?_) (bl 9 63) rfl rfl (by kernel_rfl) (fun _ _ _ h => h) (Or.inl ⟨by rfl, ?_⟩) ?_ ?_; rotate_left; (· (intro w'; go_simp; with_reducible rfl)); rotate_left; (· (simp only [np]; rfl))
    refine pure_ (i := 6) (N := some 73) (v := ?_) (a' := ?_) (bl 9 127) rfl rfl (by kernel_rfl) (fun _ _ _ h => h) (Or.inl ⟨by rfl, ?_⟩) ?_ ?_; rotate_left; (· (intro w'; go_simp; with_reducible rfl)); rotate_left; (· (simp only [np]; rfl))
    refine pure_ (i := 7) (N := some 74) (v := ?_) (a' := ?_) (bl 9 255) rfl rfl (by kernel_rfl) (fun _ _ _ h => h) (Or.inl ⟨by rfl, ?_⟩) ?_ ?_; rotate_left; (· (intro w'; go_simp; with_reducible rfl)); rotate_left; (· (simp only [np]; rfl))
    refine last_ (i := 8) (N := none) (bl 9 511) rfl rfl (by kernel_rfl) (by decide) (fun K hK => ?_)
    refine skip_ (w1 := ?_) (by rfl) rfl ?_ ?_
    rotate_left
    · go_simp
      rfl
    refine hK.out _ _ ?_
    clear hK K
    refine done_ (by kernel_rfl) ?_
    go_wp2_with fail
    go_ret
    have hq2 : n - 2 = q := by omega
    rw [hq2]
    have hnd : NodeB (w1.setCell ⟨b, 6, none⟩ (.slice (some ⟨g, 0, none⟩) q c)).drew b 4 noStr noStr (.slice (some ⟨g, 0, none⟩) q c) := by
      refine (blk_drew (blk_set FB.out 6 _)).trans ?_
      simp only [nd, List.setIfInBounds_toArray, List.set_cons_zero, List.set_cons_succ]
    refine ⟨rfl, hnd, ?_, ⟨_, blk_drew (blk_else _ (by show p4 ≠ b; exact H4B.out) F4.out)⟩, ?_⟩
    · have h1 := own_take FW.out (show q ≤ n by omega)
      rw [Nat.mul_one] at h1
      rw [List.drop_eq_nil_of_le (by omega), List.append_nil]
      exact own_drew (own_setCell h1 (by show some b ≠ some g; intro e; injection e with e; exact HGB.out e.symm) _)
    · exact (((FK.out.mono fun k _ h => .inr (.inr h))).setCell _ _ fun _ => .inl rfl).drew
  · have hx : (q : Int) + 2 < (n : Int) := by omega
    go_wp2_with (go_at_call 42; (with_reducible refine Calls.mono (ynode_some _ FR.out FB.out rfl) ?_); rintro e w' ⟨rfl, rfl⟩)
    refine start_ (n := 9) (S := fun w' => w'.cell? ⟨p5, 0, none⟩ = some (.pointer (some ⟨r, 0, none⟩)) ∧ w'.cell? ⟨r, 1, none⟩ = some (.pointer (some ⟨b, 0, none⟩)) ∧ w'.cell? ⟨b, 0, none⟩ = some (.int .u32 4) ∧ w'.cell? ⟨b, 6, none⟩ = some (.slice (some ⟨g, 0, none⟩) n c)) (ds := [8]) #[false, false, false, false, false, false, false, false, false] (by kernel_rfl) rfl rfl ⟨e5, e1, e0, e6⟩ (fun hHeld => ?_)
    refine pure_ (i := 4) (N := some 47) (v := ?_) (a' := ?_) (bl 9 16) rfl rfl (by kernel_rfl) (fun _ _ _ h => h) (Or.inl ⟨by rfl, ?_⟩) ?_ ?_; rotate_left; (· (intro w'; go_simp; with_reducible rfl)); rotate_left; (· (simp only [np]; rfl))
    refine take_ (i := 0) (N := some 43) (v := ?_) (a' := ?_) (bl 9 17) rfl rfl (by kernel_rfl) (fun _ _ _ h => h) (Or.inl ⟨by rfl, ?_⟩) hHeld ?_ ?_; rotate_left; (· (rintro w' ⟨s0, s1, s2, s3⟩; go_simp; with_reducible rfl)); rotate_left; (· (simp only [np]; rfl))
    refine takeC_ (i := 1) (N := some 44) (v := ?_) (a' := ?_) (bl 9 19) rfl rfl (by kernel_rfl) (fun _ _ _ h => h) Tryz.func42 (by kernel_rfl) rfl #[.pointer (some ⟨r, 0, none⟩)] (by rfl) rfl (by simp only [List.map_toArray, List.map_cons, List.map_nil]; rfl) ?_ hHeld ?_ ?_
    rotate_left
    · rintro w' ⟨s0, s1, s2, s3⟩
      exact ynode_c _ s1 s2 rfl
    rotate_left
    · simp only [np]
      rfl
    refine take_ (i := 2) (N := some 45) (v := ?_) (a' := ?_) (bl 9 23) rfl rfl (by kernel_rfl) (fun _ _ _ h => h) (Or.inl ⟨by rfl, ?_⟩) hHeld ?_ ?_; rotate_left; (· (rintro w' ⟨s0, s1, s2, s3⟩; go_simp; with_reducible rfl)); rotate_left; (· (simp only [np]; rfl))
    refine takeC_ (i := 3) (N := some 46) (v := ?_) (a' := ?_) (bl 9 31) rfl rfl (by kernel_rfl) (fun _ _ _ h => h) Tryz.func79 (by kernel_rfl) rfl #[.pointer (some ⟨r, 0, none⟩)] (by rfl) rfl (by simp only [List.map_toArray, List.map_cons, List.map_nil]; rfl) ?_ hHeld ?_ ?_
    rotate_left
    · rintro w' ⟨s0, s1, s2, s3⟩
      exact content_c (C := .slice (some ⟨g, 0, none⟩) n c) _ s1 s2 s3 rfl
    rotate_left
    · simp only [np]
      rfl
    refine pure_ (i := 5) (N := some 48) (v := ?_) (a' := ?_) (bl 9 63) rfl rfl (by kernel_rfl) (fun _ _ _ h => h) (Or.inl ⟨by rfl, ?_⟩) ?_ ?_; rotate_left; (· (intro w'; go_simp; with_reducible rfl)); rotate_left; (· (simp only [np]; rfl))
    refine pure_ (i := 6) (N := some 49) (v := ?_) (a' := ?_) (bl 9 127) rfl rfl (by kernel_rfl) (fun _ _ _ h => h) (Or.inl ⟨by rfl, ?_⟩) ?_ ?_; rotate_left; (· (intro w'; go_simp; with_reducible rfl)); rotate_left; (· (simp only [np]; rfl))
    refine pure_ (i := 7) (N := some 50) (v := ?_) (a' := ?_) (bl 9 255) rfl rfl (by kernel_rfl) (fun _ _ _ h => h) (Or.inl ⟨by rfl, ?_⟩) ?_ ?_; rotate_left; (· (intro w'; go_simp; with_reducible rfl)); rotate_left; (· (simp only [np]; rfl))
    refine last_ (i := 8) (N := none) (bl 9 511) rfl rfl (by kernel_rfl) (by decide) (fun K hK => ?_)
    refine skip_ (w1 := ?_) (by rfl) rfl ?_ ?_
    rotate_left
    · go_simp
      rfl
    refine hK.out _ _ ?_
    clear hK K
    refine done_ (by kernel_rfl) ?_
    obtain ⟨w2, hw2⟩ : ∃ w2, w2 = (w1.setCell ⟨b, 6, none⟩ (.slice (some ⟨g, 0, none⟩) q c)).drew := ⟨_, rfl⟩
    have hB2 : NodeB w2 b 4 noStr noStr (.slice (some ⟨g, 0, none⟩) q c) := by
      rw [hw2]
      refine (blk_drew (blk_set FB.out 6 _)).trans ?_
      simp only [nd, List.setIfInBounds_toArray, List.set_cons_zero, List.set_cons_succ]
    have hR2 : RNB w2 r b := by rw [hw2]; exact blk_drew (blk_else _ (by show r ≠ b; exact HRB.out) FR.out)
    have hW2 : w2.ownsRow 0 69 1 (.slice (some ⟨g, 0, none⟩) n c) n xs := by rw [hw2]; exact own_drew (own_setCell FW.out (by show some b ≠ some g; intro e; injection e with e; exact HGB.out e.symm) _)
    have h42 : w2.heap[p4]? = some (.cells #[.pointer (some ⟨w.heap.size, 0, none⟩)] 47 (0, 0)) := by rw [hw2]; exact blk_drew (blk_else _ (by show p4 ≠ b; exact H4B.out) F4.out)
    have h52 : w2.heap[p5]? = some (.cells #[.pointer (some ⟨r, 0, none⟩)] 47 (0, 0)) := by rw [hw2]; exact blk_drew (blk_else _ (by show p5 ≠ b; exact H5B.out) F5.out)
    have hK2 : Keep (fun k => k = b ∨ k = g ∨ k = p4) w w2 := by rw [hw2]; exact ((FK.out.mono fun k _ h => .inr (.inr h)).setCell _ _ fun _ => .inl rfl).drew
    have h1 := own_take hW2 (show q ≤ n by omega)
    rw [Nat.mul_one] at h1
    have HT := Lib.hid (own_drew h1)
    have HC := Lib.hid (show ∀ (j : Nat) (u : Value), (xs.drop (q + 2))[j]? = some u → w2.drew.cell? (Addr.add ⟨g, q + 2, none⟩ j) = some u from fun j u hj => by rw [List.getElem?_drop] at hj; rw [Addr.add_lit]; exact own_cell_at (own_drew hW2) hj)
    have H1 := Lib.hid (show ∀ u ∈ xs.drop (q + 2), u.oneCell' = true from fun u hu => HX.out u (List.mem_of_mem_drop hu))
    have HN := Lib.hid (show (xs.drop (q + 2)).length = (n - (q + 2)) * 1 by rw [List.length_drop, hxl, Nat.mul_one])
    have HB2 := Lib.hid (NodeB.move hB2 (show w2.drew.heap[b]? = w2.heap[b]? from rfl))
    have HK2 := Lib.hid hK2
    have H42 := Lib.hid h42
    have g5 : w2.cell? ⟨p5, 0, none⟩ = some (.pointer (some ⟨r, 0, none⟩)) := (blk_cell h52 0).trans rfl
    have g1 := hR2.cell1
    have g0 := hB2.c0
    have g6 := hB2.c6
    obtain ⟨i0, hi0, hzz⟩ := Option.map_eq_some_iff.1 info69
    simp only [Prod.mk.injEq] at hzz
    obtain ⟨hz0, hz1, hz2⟩ := hzz
    have hw22 : ((q : Int) + 2).toNat = q + 2 := by omega
    have hy0 : (0 : Int) ≤ (q : Int) + 2 := by omega
    have hy1 : (q : Int) + 2 ≤ (n : Int) := by omega
    have hcne : ¬ c = q + 2 := by omega
    rw [← hw2]
    clear hB2 hR2 hW2 h42 h52 hK2 h1 hw2 e5 e1 e0 e6 e65
    go_wp2_with fail
    refine start_ (n := 17) (S := fun w' => w'.cell? ⟨p5, 0, none⟩ = some (.pointer (some ⟨r, 0, none⟩)) ∧ w'.cell? ⟨r, 1, none⟩ = some (.pointer (some ⟨b, 0, none⟩)) ∧ w'.cell? ⟨b, 0, none⟩ = some (.int .u32 4) ∧ w'.cell? ⟨b, 6, none⟩ = some (.slice (some ⟨g, 0, none⟩) q c)) (ds := [13, 16]) #[false, false, false, false, false, false, false, false, false, false, false, false, false, false, false, false, false] (by kernel_rfl) rfl rfl ⟨g5, g1, g0, g6⟩ (fun hHeld => ?_)
    refine pure_ (i := 9) (N := some 60) (v := ?_) (a' := ?_) (bl 17 512) rfl rfl (by kernel_rfl) (fun _ _ _ h => h) (Or.inl ⟨by rfl, ?_⟩) ?_ ?_; rotate_left; (· (intro w'; go_simp; with_reducible rfl)); rotate_left; (· (simp only [np]; rfl))
    refine pure_ (i := 10) (N := some 61) (v := ?_) (a' := ?_) (bl 17 1536) rfl rfl (by kernel_rfl) (fun _ _ _ h => h) (Or.inl ⟨by rfl, ?_⟩) ?_ ?_; rotate_left; (· (intro w'; go_simp; with_reducible rfl)); rotate_left; (· (simp only [np]; rfl))
    refine pure_ (i := 11) (N := some 62) (v := ?_) (a' := ?_) (bl 17 3584) rfl rfl (by kernel_rfl) (fun _ _ _ h => h) (Or.inl ⟨by rfl, ?_⟩) ?_ ?_; rotate_left; (· (intro w'; go_simp; with_reducible rfl)); rotate_left; (· (simp only [np]; rfl))
    refine take_ (i := 0) (N := some 51) (v := ?_) (a' := ?_) (bl 17 3585) rfl rfl (by kernel_rfl) (fun _ _ _ h => h) (Or.inl ⟨by rfl, ?_⟩) hHeld ?_ ?_; rotate_left; (· (rintro w' ⟨s0, s1, s2, s3⟩; go_simp; with_reducible rfl)); rotate_left; (· (simp only [np]; rfl))
    refine takeC_ (i := 1) (N := some 52) (v := ?_) (a' := ?_) (bl 17 3587) rfl rfl (by kernel_rfl) (fun _ _ _ h => h) Tryz.func42 (by kernel_rfl) rfl #[.pointer (some ⟨r, 0, none⟩)] (by rfl) rfl (by simp only [List.map_toArray, List.map_cons, List.map_nil]; rfl) ?_ hHeld ?_ ?_
    rotate_left
    · rintro w' ⟨s0, s1, s2, s3⟩
      exact ynode_c _ s1 s2 rfl
    rotate_left
    · simp only [np]
      rfl
    refine take_ (i := 2) (N := some 53) (v := ?_) (a' := ?_) (bl 17 3591) rfl rfl (by kernel_rfl) (fun _ _ _ h => h) (Or.inl ⟨by rfl, ?_⟩) hHeld ?_ ?_; rotate_left; (· (rintro w' ⟨s0, s1, s2, s3⟩; go_simp; with_reducible rfl)); rotate_left; (· (simp only [np]; rfl))
    refine takeC_ (i := 3) (N := some 54) (v := ?_) (a' := ?_) (bl 17 3599) rfl rfl (by kernel_rfl) (fun _ _ _ h => h) Tryz.func42 (by kernel_rfl) rfl #[.pointer (some ⟨r, 0, none⟩)] (by rfl) rfl (by simp only [List.map_toArray, List.map_cons, List.map_nil]; rfl) ?_ hHeld ?_ ?_
    rotate_left
    · rintro w' ⟨s0, s1, s2, s3⟩
      exact ynode_c _ s1 s2 rfl
    rotate_left
    · simp only [np]
      rfl
    refine pure_ (i := 4) (N := some 55) (v := ?_) (a' := ?_) (bl 17 3615) rfl rfl (by kernel_rfl) (fun _ _ _ h => h) (Or.inl ⟨by rfl, ?_⟩) ?_ ?_; rotate_left; (· (intro w'; go_simp; with_reducible rfl)); rotate_left; (· (simp only [np]; rfl))
    refine pure_ (i := 5) (N := some 56) (v := ?_) (a' := ?_) (bl 17 3647) rfl rfl (by kernel_rfl) (fun _ _ _ h => h) (Or.inl ⟨by rfl, ?_⟩) ?_ ?_; rotate_left; (· (intro w'; go_simp; with_reducible rfl)); rotate_left; (· (simp only [np]; rfl))
    refine take_ (i := 6) (N := some 57) (v := ?_) (a' := ?_) (bl 17 3711) rfl rfl (by kernel_rfl) (fun _ _ _ h => h) (Or.inl ⟨by rfl, ?_⟩) hHeld ?_ ?_; rotate_left; (· (rintro w' ⟨s0, s1, s2, s3⟩; go_simp; with_reducible rfl)); rotate_left; (· (simp only [np]; rfl))
    refine take_ (i := 7) (N := some 58) (v := ?_) (a' := ?_) (bl 17 3839) rfl rfl (by kernel_rfl) (fun _ _ _ h => h) (Or.inl ⟨by rfl, ?_⟩) hHeld ?_ ?_; rotate_left; (· (rintro w' ⟨s0, s1, s2, s3⟩; go_simp; with_reducible rfl)); rotate_left; (· (simp only [np]; rfl))
    refine takeC_ (i := 8) (N := some 59) (v := ?_) (a' := ?_) (bl 17 4095) rfl rfl (by kernel_rfl) (fun _ _ _ h => h) Tryz.func79 (by kernel_rfl) rfl #[.pointer (some ⟨r, 0, none⟩)] (by rfl) rfl (by simp only [List.map_toArray, List.map_cons, List.map_nil]; rfl) ?_ hHeld ?_ ?_
    rotate_left
    · rintro w' ⟨s0, s1, s2, s3⟩
      exact content_c (C := .slice (some ⟨g, 0, none⟩) q c) _ s1 s2 s3 rfl
    rotate_left
    · simp only [np]
      rfl
    refine pure_ (i := 12) (N := some 63) (v := ?_) (a' := ?_) (bl 17 8191) rfl rfl (by kernel_rfl) (fun _ _ _ h => h) (Or.inl ⟨by rfl, ?_⟩) ?_ ?_; rotate_left; (· (intro w'; go_simp; with_reducible rfl)); rotate_left; (· (simp only [np]; rfl))
    refine last_ (i := 13) (N := some 64) (bl 17 16383) rfl rfl (by kernel_rfl) (by decide) (fun K hK => ?_)
    rw [if_pos (by rfl)]
    refine wp_append_own_spare _ _ _ 83 rfl 0 69 i0 1 Tryz.underlying83 hi0 hz1 g q c (xs.take q) (by rfl) HT.out ⟨g, q + 2, none⟩ (n - (q + 2)) (c - (q + 2)) (xs.drop (q + 2)) (by rfl) HN.out HC.out H1.out (by omega) ?_
    intro w3 hown3 hg3
    have h63 := (hg3.block b (NodeB.lt (HB2.out)) (fun e => by injection e with e; exact HGB.out e.symm)).trans HB2.out
    have c63 := NodeB.c6 h63
    have z63 := NodeB.fz h63 6
    have H63 := Lib.hid h63
    have HO3 := Lib.hid hown3
    have HG3 := Lib.hid hg3
    clear hown3 hg3 h63
    refine hK.out _ _ ?_
    clear hK K
    refine norm_ (a' := ?_) ?_ ?_; rotate_left; (· (show Act.put _ (some 64) _ = _; simp only [np]; rfl))
    refine pure_ (i := 14) (N := some 65) (v := ?_) (a' := ?_) (bl 17 32767) rfl rfl (by kernel_rfl) (fun _ _ _ h => h) (Or.inl ⟨by rfl, ?_⟩) ?_ ?_; rotate_left; (· (intro w'; go_simp; with_reducible rfl)); rotate_left; (· (simp only [np]; rfl))
    refine pure_ (i := 15) (N := some 66) (v := ?_) (a' := ?_) (bl 17 65535) rfl rfl (by kernel_rfl) (fun _ _ _ h => h) (Or.inl ⟨by rfl, ?_⟩) ?_ ?_; rotate_left; (· (intro w'; go_simp; with_reducible rfl)); rotate_left; (· (simp only [np]; rfl))
    refine last_ (i := 16) (N := none) (bl 17 131071) rfl rfl (by kernel_rfl) (by decide) (fun K hK => ?_)
    refine skip_ (w1 := ?_) (by rfl) rfl ?_ ?_
    rotate_left
    · go_simp
      rfl
    refine hK.out _ _ ?_
    clear hK K
    refine done_ (by kernel_rfl) ?_
    go_wp2_with fail
    go_ret
    have hnq : n - 2 = q + (n - (q + 2)) := by omega
    rw [hnq]
    refine ⟨rfl, ?_, own_setCell HO3.out (by show some b ≠ some g; intro e; injection e with e; exact HGB.out e.symm) _, ⟨_, blk_else _ (by show p4 ≠ b; exact H4B.out) ((HG3.out.block p4 (blk_lt H42.out) (fun e => by injection e with e; exact H4G.out e)).trans H42.out)⟩, ?_⟩
    · refine (blk_set H63.out 6 _).trans ?_
      simp only [nd, List.setIfInBounds_toArray, List.set_cons_zero, List.set_cons_succ]
    · exact ((HK2.out.drew).grown HG3.out (fun j _ hj => .inr (.inl (by injection hj with hj; exact hj.symm)))).setCell _ _ (fun _ => .inl rfl)
end
theorem enter206 (args : Array Value) (w : World) : Sem.run Tryz.prog (callFunc 206 args) w = .ok (.enter 206 args) w := enterFn Tryz.func206 (by kernel_rfl) rfl args w
theorem enter205 (args : Array Value) (w : World) : Sem.run Tryz.prog (callFunc 205 args) w = .ok (.enter 205 args) w := enterFn Tryz.func205 (by kernel_rfl) rfl args w
theorem meth205 (a0 a1 a2 : Value) (w : World) : Sem.run Tryz.prog (method 345 224 (.agg #[a0, a1, a2]) "Filter") w = .ok (205, .agg #[a0, a1, a2]) w := by kernel_rfl
def Cleared (w : World) (b : Nat) (C : Value) (kids : List Kid) (name : ByteArray) (w' : World) : Prop :=
  (kids.find? (hasKey name) = none ∧ Below w.heap.size w w') ∨ ∃ l1 kid l2 C', kids = l1 ++ kid :: l2 ∧ hasKey name kid = true ∧ NodeB w' b 4 noStr noStr C' ∧ w'.ownsRow 0 69 1 C' (((l1 ++ l2).flatMap Kid.two).length) (((l1 ++ l2).flatMap Kid.two).map ptrV) ∧ C'.ownBlock = C.ownBlock ∧ Keep (fun k => k = b ∨ C.ownBlock = some k) w w'
theorem two_cut_at (l1 l2 : List Kid) (kid : Kid) : ((l1 ++ kid :: l2).flatMap Kid.two).take (2 * l1.length) ++ ((l1 ++ kid :: l2).flatMap Kid.two).drop (2 * l1.length + 2) = (l1 ++ l2).flatMap Kid.two := by
  rw [List.flatMap_append, List.flatMap_cons, List.flatMap_append, ← two_length l1, List.take_left, List.drop_append, List.drop_eq_nil_of_le (by omega)]
  simp [Kid.two]
set_option maxRecDepth 20000 in
set_option maxHeartbeats 1000000 in
theorem clear205 {r b : Nat} {C : Value} {kids : List Kid} {kd name : ByteArray} (w : World) (hr : RNB w r b) (hm : MapAt w b C kids) :
    Calls Tryz.prog 205 #[.agg #[.string kd, .string name, .bool false], .pointer (some ⟨r, 0, none⟩)] w fun e w' => ∃ q, e = .returned (.tuple #[.pointer q, .nilIface]) ∧ Cleared w b C kids name w' := by
  obtain ⟨F, hrow⟩ := hm.row
  obtain ⟨A, c, rfl, hc, hcm⟩ := hrow.slice
  obtain ⟨n, hn⟩ : ∃ n, n = (kids.flatMap Kid.two).length := ⟨_, rfl⟩
  have hn2 : n = 2 * kids.length := hn.trans (two_length kids)
  have hnode := hm.node
  rw [← hn] at hnode hc
  have HB := Lib.hid hnode
  have HR := Lib.hid hr
  have hev : ((n : Int) % 2 != 0) = false := by rw [bne_eq_false_iff_eq]; omega
  have hnm : (n : Int) ≤ 9223372036854775807 := by unfold maxLen at hcm; omega
  obtain ⟨w1, hw1⟩ : ∃ w1, w1 = (w.alloc (.cells #[.string kd, .string name, .bool false] 224)).alloc (.cells #[.pointer (some ⟨r, 0, none⟩)] 47) := ⟨_, rfl⟩
  have hb1 : Below w.heap.size w w1 := hw1 ▸ below_alloc (below_alloc (Below.refl _ _) _) _
  have HE := Lib.hid (errInv_map w1 (hr.under hb1) (hnode.under hb1) (by decide +kernel) hev hnm)
  obtain ⟨w3, hw3⟩ : ∃ w3, w3 = w1.alloc (.cells #[.pointer none] 47) := ⟨_, rfl⟩
  have hb3 : Below w.heap.size w w3 := hw3 ▸ below_alloc hb1 _
  have HCo := Lib.hid (content_some w3 (hr.under hb3) (hnode.under hb3) rfl)
  have hp3 : w3.heap[w.heap.size]? = some (.cells #[.string kd, .string name, .bool false] 224 (0, 0)) := by rw [hw3, hw1]; exact blk_old _ (blk_old _ (blk_new (by simp) _))
  have hp5 : w3.heap[w.heap.size + 1]? = some (.cells #[.pointer (some ⟨r, 0, none⟩)] 47 (0, 0)) := by rw [hw3, hw1]; exact blk_old _ (blk_new (by simp) _)
  have hp4 : w3.heap[w.heap.size + 1 + 1]? = some (.cells #[.pointer none] 47 (0, 0)) := by rw [hw3, hw1]; exact blk_new (by simp) _
  have hs3 : w3.heap.size = w.heap.size + 3 := by rw [hw3, hw1]; simp
  have hbl : b < w.heap.size := hnode.lt
  have hrl : r < w.heap.size := blk_lt hr
  have hfind : Calls Tryz.prog 100 #[.slice A n c, .func (.func 206) #[] #[.pointer (some ⟨w.heap.size, 0, none⟩), .pointer (some ⟨w.heap.size + 1 + 1, 0, none⟩), .pointer (some ⟨w.heap.size + 1, 0, none⟩)]] w3 fun e w' => e = .returned (.tuple #[]) ∧ Cleared w b (.slice A n c) kids name w' ∧ ∃ a, w'.heap[w.heap.size + 1 + 1]? = some (.cells #[.pointer a] 47 (0, 0)) := by
    refine (visit100 (kids.flatMap Kid.two) hn hn2 hc hcm 206 _ enter206
      (fun i w' => Below w3.heap.size w3 w' ∧ ∀ k ∈ kids.take i, hasKey name k = false) (fun w' => Cleared w b (.slice A n c) kids name w' ∧ ∃ a, w'.heap[w.heap.size + 1 + 1]? = some (.cells #[.pointer a] 47 (0, 0))) (fun i w' h => ⟨F, by rw [hn]; exact (hrow.under hb3).under h.1⟩) ?_ (fun i w' h => ⟨below_drew h.1, h.2⟩) ?_ w3 ⟨Below.refl _ _, by simp⟩)
    · intro i q kb cb hq h1 h2 w' ⟨hb, hno⟩
      rw [(two_get kids i).1] at h1
      rw [(two_get kids i).2] at h2
      obtain ⟨kid, hk, rfl⟩ := Option.map_eq_some_iff.1 h1
      rw [hk] at h2
      obtain rfl : kid.cb = cb := by simpa using h2
      have hmem : kid ∈ kids := List.mem_of_getElem? hk
      have hlt : i < kids.length := (List.getElem?_eq_some_iff.1 hk).1
      have hbw : Below w.heap.size w w' := hb3.trans (hb.mono hb3.size)
      have hnd := (hm.keys kid hmem).under hbw
      have k3 := (hb.block _ (blk_lt hp3)).trans hp3
      have k4 := (hb.block _ (blk_lt hp4)).trans hp4
      have k5 := (hb.block _ (blk_lt hp5)).trans hp5
      cases hkn : hasKey name kid with
      | false =>
        refine (clo206_ne w' hnd k3 hkn).mono ?_
        rintro e w2 ⟨rfl, hb2⟩
        refine ⟨true, rfl, Lib.hid ⟨fun _ => ⟨hb.trans (hb2.mono hb.size), fun k hk' => ?_⟩, fun h => by cases h⟩⟩
        rw [List.take_add_one, hk] at hk'
        rcases List.mem_append.1 hk' with hk' | hk'
        · exact hno k hk'
        · simp at hk'; subst hk'; exact hkn
      | true =>
        have hrw : PRow w' F (.slice A n c) (kids.flatMap Kid.two) := by rw [hn]; exact (hrow.under hb3).under hb
        obtain ⟨g, rfl, _⟩ := hrw.cell (2 * i) kid.kb (by rw [(two_get kids i).1, hk]; rfl)
        have hgl : g < w.heap.size := own_lt (v := .slice (some ⟨g, 0, none⟩) n c) (by rw [hn]; exact hrow.2) g rfl
        have hgb : g ≠ b := fun e => by
          obtain ⟨cs, hcs⟩ := own_typed (v := .slice (some ⟨g, 0, none⟩) n c) (by rw [hn]; exact hrow.2) g rfl
          subst e
          unfold NodeB at hnode
          rw [hcs] at hnode
          injection hnode with h
          injection h with _ h
          cases h
        subst hq
        refine (clo206_eq w' hnd k3 hkn k4 k5 (by omega) (hr.under hbw) (hnode.under hbw) (by have := hrw.2; rwa [← hn] at this) (by omega) (by omega) (by omega) (by omega) hgb (fun u hu => by obtain ⟨x, _, rfl⟩ := List.mem_map.1 hu; rfl)).mono ?_
        rintro e w2 ⟨rfl, f1, f2, f3, f4⟩
        refine ⟨false, rfl, Lib.hid ⟨(fun h => by cases h), fun _ => ⟨.inr ⟨kids.take i, kid, kids.drop (i + 1), _, ?_, hkn, f1, ?_, rfl, ?_⟩, f3⟩⟩⟩
        · have : kids[i] = kid := (List.getElem?_eq_some_iff.1 hk).2
          rw [← this, List.getElem_cons_drop, List.take_append_drop]
        · have h3 : kids = kids.take i ++ kid :: kids.drop (i + 1) := by
            have : kids[i] = kid := (List.getElem?_eq_some_iff.1 hk).2
            rw [← this, List.getElem_cons_drop, List.take_append_drop]
          have h4 := two_cut_at (kids.take i) (kids.drop (i + 1)) kid
          rw [← h3, List.length_take, Nat.min_eq_left (by omega)] at h4
          rw [← List.map_take, ← List.map_drop, ← List.map_append, h4] at f2
          have h5 : ((kids.take i ++ kids.drop (i + 1)).flatMap Kid.two).length = n - 2 := by
            rw [two_length, List.length_append, List.length_take, List.length_drop]
            omega
          rw [h5]
          exact f2
        · refine ((Keep.of_below hbw _).trans f4 fun k hk hT => ?_)
          rcases hT with h | h | h
          · exact .inl h
          · exact .inr (by rw [h]; rfl)
          · omega
    · rintro w' ⟨hb, hno⟩
      refine ⟨.inl ⟨?_, hb3.trans (hb.mono hb3.size)⟩, none, (hb.block _ (blk_lt hp4)).trans hp4⟩
      rw [List.find?_eq_none]
      intro k hk
      rw [List.take_length] at hno
      rw [hno k hk]
      decide
  have hc5 : w3.cell? ⟨w.heap.size + 1, 0, none⟩ = some (.pointer (some ⟨r, 0, none⟩)) := (blk_cell hp5 0).trans rfl
  rw [hw3, hw1] at hfind hc5 HCo
  rw [hw1] at HE
  have HF := Lib.hid hfind
  rw [← hn]
  clear hm hrow hn hn2 hev hnm hc hcm hnode hr hb1 hw1 hw3 hb3 hfind hp4 hp3 hp5 hs3 hbl hrl
  go_enter Tryz.func205, Tryz.ntmps205
  go_wp2_with (first | (go_at_call 56; (with_reducible refine Calls.mono HE.out ?_); rintro e w' ⟨rfl, rfl⟩) | (go_at_call 79; (with_reducible refine Calls.mono HCo.out ?_); rintro e w' ⟨rfl, rfl⟩))
  refine Calls.mono HF.out ?_
  rintro e w4 ⟨rfl, hJ, a, ha⟩
  have HJ := Lib.hid hJ
  have hca := (blk_cell ha 0).trans (show (#[.pointer a] : Array Value)[0]? = some (.pointer a) from rfl)
  clear hJ ha HF HE HCo hc5
  go_wp2_with fail
  go_ret2
  exact ⟨a, rfl, HJ.out⟩
set_option maxHeartbeats 400000 in
theorem clear175 (w : World) {name : ByteArray} :
    Calls Tryz.prog 175 #[.string name] w fun e w' => e = .returned (.agg #[.string noStr, .string name, .bool false]) ∧ Below w.heap.size w w' := by
  go_enter Tryz.func175, Tryz.ntmps175
  go_wp2_with fail
  refine bodyPost_ret (v := .agg #[.string noStr, .string name, .bool false]) (by simp [results, Tryz.results175, go_sem]) rfl ⟨rfl, ?_⟩
  exact below_alloc (Below.refl _ _) _
theorem Cleared.from {w w1 w' : World} {b : Nat} {C : Value} {kids : List Kid} {name : ByteArray} (hb : Below w.heap.size w w1) (h : Cleared w1 b C kids name w') : Cleared w b C kids name w' := by
  rcases h with ⟨h1, h2⟩ | ⟨l1, kid, l2, C', h1, h2, h3, h4, h5, h6⟩
  · exact .inl ⟨h1, hb.trans (h2.mono hb.size)⟩
  · exact .inr ⟨l1, kid, l2, C', h1, h2, h3, h4, h5, (Keep.of_below hb _).trans h6 fun _ _ h => h⟩
set_option maxRecDepth 20000 in
set_option maxHeartbeats 2000000 in
theorem set_clear {r b : Nat} {C : Value} {kids : List Kid} {kd name c1 c2 c3 : ByteArray} {q : Option Addr} (w : World)
    (hr : RNB w r b) (hm : MapAt w b C kids) (hne : name.toList.isEmpty = false) (hq : q = none ∨ ∃ vr vb k val C0, q = some ⟨vr, 0, none⟩ ∧ RNB w vr vb ∧ NodeB w vb k nullTag val C0 ∧ (k == 1) = false) :
    Calls Tryz.prog 187 #[.agg #[.string kd, .string name, .string c1, .string c2, .string c3, .pointer q, .string noStr, .bool false, .int .u32 0], .pointer (some ⟨r, 0, none⟩)] w fun e w' =>
      ∃ q', e = .returned (.tuple #[.pointer q', .nilIface]) ∧ Cleared w b C kids name w' := by
  have HR := Lib.hid hr
  have HM := Lib.hid hm
  have hne' : (!name.toList.isEmpty) = true := by rw [hne]; rfl
  have hb0 : Below w.heap.size w (w.alloc (.cells #[.string kd, .string name, .string c1, .string c2, .string c3, .pointer q, .string noStr, .bool false, .int .u32 0] 104)) := below_alloc (Below.refl _ _) _
  have HX := Lib.hid (blk_new rfl (w := w) (.cells #[.string kd, .string name, .string c1, .string c2, .string c3, .pointer q, .string noStr, .bool false, .int .u32 0] 104))
  have HB0 := Lib.hid hb0
  have HP : Hid (∀ w1, Below w.heap.size w w1 → ∀ fb, w1.cell? ⟨fb, 0, none⟩ = some (.iface 224 (.agg #[.string noStr, .string name, .bool false])) → Calls Tryz.prog 62 #[.pointer (some ⟨r, 0, none⟩), .slice (some ⟨fb, 0, none⟩) 1 1] w1 fun e w' => ∃ q, e = .returned (.tuple #[.pointer q, .nilIface]) ∧ Cleared w b C kids name w') := Lib.hid fun w1 hb1 fb hf =>
    pipe1 (fun q w' => Cleared w b C kids name w') w1 (hr.under hb1) (hm.node.under hb1) rfl hf (meth205 _ _ _) enter205 ((clear205 w1 (hr.under hb1) (hm.under hb1)).mono fun e w' ⟨q, he, hc⟩ => ⟨q, he, hc.from hb1⟩)
  rcases hq with rfl | ⟨vr, vb, k, val, C0, rfl, hvr, hvb, hk1⟩
  · clear hr hm hb0
    go_enter Tryz.func187, Tryz.ntmps187
    go_wp2_with fail
    refine Calls.mono (clear175 _) ?_
    rintro e w2 ⟨rfl, hb2⟩
    have HB2 := Lib.hid (HB0.out.trans (hb2.mono HB0.out.size))
    clear hb2
    go_wp2_with fail
    refine Calls.mono (HP.out _ (below_alloc HB2.out _) _ ((blk_cell (blk_new (by simp) _) 0).trans rfl)) ?_
    rintro e w5 ⟨q', rfl, hJ⟩
    have HJ := Lib.hid hJ
    clear hJ
    go_wp2_with fail
    go_ret2
    exact ⟨q', rfl, HJ.out⟩
  · have ht0 := tagged_any _ (hvr.under hb0) (hvb.under hb0) hk1
    have h2 := (hvr.under hb0).cell2
    have HT0 := Lib.hid ht0
    clear hr hm hvr hvb hb0 ht0
    go_enter Tryz.func187, Tryz.ntmps187
    go_wp2_with (go_at_call 164; (with_reducible refine Calls.mono HT0.out ?_); rintro e w' ⟨rfl, rfl⟩)
    refine Calls.mono (clear175 _) ?_
    rintro e w2 ⟨rfl, hb2⟩
    have HB2 := Lib.hid (HB0.out.trans (hb2.mono HB0.out.size))
    clear hb2
    go_wp2_with fail
    refine Calls.mono (HP.out _ (below_alloc HB2.out _) _ ((blk_cell (blk_new (by simp) _) 0).trans rfl)) ?_
    rintro e w5 ⟨q', rfl, hJ⟩
    have HJ := Lib.hid hJ
    clear hJ
    go_wp2_with fail
    go_ret2
    exact ⟨q', rfl, HJ.out⟩
end Go.Proofs.YtghmajlfmoggfaaGreat
