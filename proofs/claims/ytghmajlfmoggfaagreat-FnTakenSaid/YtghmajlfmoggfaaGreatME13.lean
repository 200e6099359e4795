import Derived.Test.YtghmajlfmoggfaaGreatME9
import Derived.Test.YtghmajlfmoggfaaGreatMB2
set_option linter.unusedSimpArgs false
set_option linter.unusedVariables false
namespace Go.Proofs.YtghmajlfmoggfaaGreat
open Go.RowKit Go.Proofs.YtghmajlfmoggfaaGreatW.PrintWords Go.Proofs.YtghmajlfmoggfaaGreatW.PrintLast PFnMerge
set_option maxHeartbeats 400000 in
theorem errNew73 (w : World) {s : ByteArray} :
    Calls Tryz.prog 73 #[.string s] w fun e w' => ∃ v, e = .returned v ∧ Below w.heap.size w w' := by
  go_enter Tryz.func73, Tryz.ntmps73
  go_wp2_with fail
  go_ret
  exact ⟨_, rfl, below_alloc (Below.refl _ _) _⟩
set_option maxHeartbeats 400000 in
theorem det166_null {r b : Nat} {val : ByteArray} {C : Value} (w : World) (hr : RNB w r b) (hn : NodeB w b 8 nullTag val C) :
    Calls Tryz.prog 166 #[.pointer (some ⟨r, 0, none⟩)] w fun e w' => ∃ v, e = .returned (.tuple #[.int .i64 0, v]) ∧ Below w.heap.size w w' := by
  have h0 := hn.c0
  have HY := Lib.hid (ynode_some w hr hn rfl)
  clear hr hn
  go_enter Tryz.func166, Tryz.ntmps166
  go_wp2_with (first | (go_at_call 42; (with_reducible refine Calls.mono HY.out ?_); rintro e w' ⟨rfl, rfl⟩) | (go_at_call 73; (with_reducible refine Calls.mono (errNew73 _) ?_); rintro e w' ⟨v, rfl, hb⟩))
  go_ret2
  exact ⟨_, rfl, hb⟩
set_option maxHeartbeats 1000000 in
theorem fields_null {r b : Nat} {val : ByteArray} (w : World) (hr : RNB w r b) (hn : NodeB w b 8 nullTag val nilS) :
    Calls Tryz.prog 74 #[.pointer (some ⟨r, 0, none⟩)] w fun e w' => ∃ v, e = .returned (.tuple #[v, .nilIface]) ∧ Below w.heap.size w w' ∧ w'.ownsRow w.heap.size 9 1 v 0 (strs []) := by
  have HB := Lib.hid hn
  obtain ⟨W, hW⟩ : ∃ W, W = w.alloc (.cells #[.slice none 0 0] 22) := ⟨_, rfl⟩
  have hbW : Below w.heap.size w W := hW ▸ below_alloc (Below.refl _ _) _
  have hp : W.heap[w.heap.size]? = some (.cells #[.slice none 0 0] 22 (0, 0)) := by rw [hW]; exact blk_new rfl _
  have hall := all78 98 #[.pointer (some ⟨w.heap.size, 0, none⟩)] enter98 [] (A := none) (n := 0) (c := 0)
    (fun i w' => Below w.heap.size w w' ∧ w'.heap[w.heap.size]? = some (.cells #[.slice none 0 0] 22 (0, 0))) W rfl (Nat.le_refl _) (Nat.zero_le _)
    (fun i w' h => ⟨fun _ => False, ⟨(fun k hk => by cases hk), own_nil _ _ _ _⟩⟩)
    (fun w1 hb1 => ⟨hbW.trans (hb1.mono hbW.size), (hb1.block _ (blk_lt hp)).trans hp⟩)
    (fun i w' h => ⟨below_drew h.1, h.2⟩)
    (fun i kid hk w1 _ => by simp at hk)
  rw [hW] at hall
  have HF := Lib.hid hall
  have HR := Lib.hid hr
  have HE := Lib.hid (errInv_null w 4 hr hn rfl)
  clear hall hbW hp hW hn hr
  go_enter Tryz.func74, Tryz.ntmps74
  go_wp2_with (first | (go_at_call 56; (with_reducible refine Calls.mono HE.out ?_); rintro e w' ⟨rfl, rfl⟩) | (go_at_call 79; (with_reducible refine Calls.mono (content_some _ (HR.out.under (below_alloc (Below.refl _ _) _)) (HB.out.under (below_alloc (Below.refl _ _) _)) rfl) ?_); rintro e w' ⟨rfl, rfl⟩) | (go_at_call 78; (with_reducible refine Calls.mono (HF.out) ?_); rintro e w' ⟨rfl, hb2, hv⟩; have hcv := (blk_cell hv 0).trans (show (#[.slice none 0 0] : Array Value)[0]? = some (.slice none 0 0) from rfl); have HB2 := Lib.hid hb2; clear hv hb2))
  go_ret2
  exact ⟨_, rfl, HB2.out, own_nil _ _ _ _⟩
def NullQ (w : World) (r : Nat) : Prop := ∃ b val, RNB w r b ∧ NodeB w b 8 nullTag val nilS
theorem NullQ.under {w w' : World} {r : Nat} (h : NullQ w r) (hb : Below w.heap.size w w') : NullQ w' r := by
  obtain ⟨b, val, h1, h2⟩ := h
  exact ⟨b, val, h1.under hb, h2.under hb⟩
theorem NullQ.keys {w : World} {r : Nat} (h : NullQ w r) : SrcKeys w (some ⟨r, 0, none⟩) [] := by
  obtain ⟨b, val, h1, h2⟩ := h
  exact .inr ⟨_, rfl, fun w' hb => fields_null w' (h1.under hb) (h2.under hb)⟩
theorem NullQ.nodeQ {w : World} {r : Nat} (h : NullQ w r) : NodeQ w (some ⟨r, 0, none⟩) := by
  obtain ⟨b, val, h1, h2⟩ := h
  exact .inr ⟨r, b, 8, nullTag, val, none, 0, 0, rfl, h1, h2, rfl, .inl rfl⟩
theorem NullQ.dead {w : World} {r : Nat} (h : NullQ w r) : DeadQ w (some ⟨r, 0, none⟩) := by
  obtain ⟨b, val, h1, h2⟩ := h
  exact .inr ⟨r, b, 8, val, nilS, rfl, h1, h2, rfl⟩
section
variable {sb c : Nat} {dp : Option Addr} {rs : Nat}
set_option maxRecDepth 20000 in
set_option maxHeartbeats 1000000 in
theorem visitMap_c (w : World) (hs : SrcAt w sb dp (some ⟨rs, 0, none⟩)) (hd : MapQ w dp) (ho : NullQ w rs) :
    Calls Tryz.prog 159 #[.agg #[], .slice (some ⟨sb, 0, none⟩) 2 c, .pointer none] w fun e w' => e = .returned (.tuple #[.pointer none, .nilIface]) ∧ Below w.heap.size w w' := by
  have HS := Lib.hid hs
  have HM := Lib.hid hd
  have HD := Lib.hid hd.nodeQ
  have HO := Lib.hid ho.nodeQ
  have HQ := Lib.hid ho
  clear hs hd ho
  go_enter Tryz.func159, Tryz.ntmps159
  go_wp2_with fail
  have hb0 : Below w.heap.size w (w.alloc (.cells #[] 60)) := below_alloc (Below.refl _ _) _
  refine Calls.mono (comments157 _ (HS.out.under hb0) (HD.out.under hb0) (HO.out.under hb0)) ?_
  rintro e w1 ⟨rfl, hb1⟩
  have HB1 := Lib.hid (hb0.trans (hb1.mono hb0.size))
  clear hb1 hb0
  go_wp2_with fail
  refine Calls.mono (style161 _ (HS.out.under HB1.out) (HD.out.under HB1.out) (HO.out.under HB1.out)) ?_
  rintro e w2 ⟨rfl, hb2⟩
  have HB2 := Lib.hid (HB1.out.trans (hb2.mono HB1.out.size))
  clear hb2 HB1
  have HS2 := Lib.hid (HS.out.under HB2.out)
  obtain ⟨r1, b1, C1, kids1, rfl, hr1, hm1, _, _⟩ := HM.out.under HB2.out
  have HN1 := Lib.hid (missing_no _ hr1 hm1.node rfl (by decide +kernel))
  obtain ⟨b2, val2, hr2, hn2⟩ := HQ.out.under HB2.out
  have ht2 := tagged_any _ hr2 hn2 rfl
  have HT2 := Lib.hid ht2
  clear hr1 hm1 hr2 hn2 ht2
  go_wp2_with (first | (go_at_call 162; (with_reducible refine Calls.mono (origin162 _ HS2.out) ?_); rintro e w' ⟨rfl, rfl⟩) | (go_at_call 163; (with_reducible refine Calls.mono (dest163 _ HS2.out) ?_); rintro e w' ⟨rfl, rfl⟩) | (go_at_call 55; (with_reducible refine Calls.mono HN1.out ?_); rintro e w' ⟨rfl, rfl⟩) | (go_at_call 164; (with_reducible refine Calls.mono HT2.out ?_); rintro e w' ⟨rfl, rfl⟩) | (go_at_call 165; (with_reducible refine Calls.mono (clear165 _) ?_); rintro e w' ⟨rfl, rfl⟩))
  go_ret2
  exact ⟨rfl, HB2.out⟩
set_option maxRecDepth 20000 in
set_option maxHeartbeats 1000000 in
theorem visitMap_z (w : World) (hs : SrcAt w sb none (some ⟨rs, 0, none⟩)) (ho : NullQ w rs) :
    Calls Tryz.prog 159 #[.agg #[], .slice (some ⟨sb, 0, none⟩) 2 c, .pointer none] w fun e w' => e = .returned (.tuple #[.pointer (some ⟨rs, 0, none⟩), .nilIface]) ∧ Below w.heap.size w w' := by
  have HS := Lib.hid hs
  have HD : Hid (NodeQ w none) := Lib.hid (.inl rfl)
  have HO := Lib.hid ho.nodeQ
  have HQ := Lib.hid ho
  clear hs ho
  go_enter Tryz.func159, Tryz.ntmps159
  go_wp2_with fail
  have hb0 : Below w.heap.size w (w.alloc (.cells #[] 60)) := below_alloc (Below.refl _ _) _
  refine Calls.mono (comments157 _ (HS.out.under hb0) (HD.out.under hb0) (HO.out.under hb0)) ?_
  rintro e w1 ⟨rfl, hb1⟩
  have HB1 := Lib.hid (hb0.trans (hb1.mono hb0.size))
  clear hb1 hb0
  go_wp2_with fail
  refine Calls.mono (style161 _ (HS.out.under HB1.out) (HD.out.under HB1.out) (HO.out.under HB1.out)) ?_
  rintro e w2 ⟨rfl, hb2⟩
  have HB2 := Lib.hid (HB1.out.trans (hb2.mono HB1.out.size))
  clear hb2 HB1
  have HS2 := Lib.hid (HS.out.under HB2.out)
  obtain ⟨b2, val2, hr2, hn2⟩ := HQ.out.under HB2.out
  have HE2 := Lib.hid (det166_null _ hr2 hn2)
  clear hr2 hn2
  go_wp2_with (first | (go_at_call 162; (with_reducible refine Calls.mono (origin162 _ HS2.out) ?_); rintro e w' ⟨rfl, rfl⟩) | (go_at_call 163; (with_reducible refine Calls.mono (dest163 _ HS2.out) ?_); rintro e w' ⟨rfl, rfl⟩) | (go_at_call 55; (with_reducible refine Calls.mono (missing_nil _) ?_); rintro e w' ⟨rfl, rfl⟩))
  refine Calls.mono HE2.out ?_
  rintro e w3 ⟨v, rfl, hb3⟩
  have HB3 := Lib.hid (HB2.out.trans (hb3.mono HB2.out.size))
  have HS3 := Lib.hid (HS.out.under HB3.out)
  obtain ⟨b3, val3, hr3, hn3⟩ := HQ.out.under HB3.out
  have HI3 := Lib.hid (isNil_some _ hr3 hn3 rfl)
  clear hb3 HS2 hr3 hn3
  go_wp2_with (first | (go_at_call 162; (with_reducible refine Calls.mono (origin162 _ HS3.out) ?_); rintro e w' ⟨rfl, rfl⟩) | (go_at_call 72; (with_reducible refine Calls.mono HI3.out ?_); rintro e w' ⟨rfl, rfl⟩))
  go_ret2
  exact ⟨rfl, HB3.out⟩
end
set_option maxRecDepth 20000 in
set_option maxHeartbeats 4000000 in
theorem walk47_nil {V path mo : Value} {infer : Bool} {sb c m : Nat} {dp sp : Option Addr} (w : World) (hV : VisQ m V) (hm : m ≤ 300) (hs : SrcAt w sb dp sp)
    (hvis : ∀ w0, Below w.heap.size w w0 → Calls Tryz.prog 159 #[.agg #[], .slice (some ⟨sb, 0, none⟩) 2 c, .pointer none] w0 fun e w1 => e = .returned (.tuple #[.pointer none, .nilIface]) ∧ Below w0.heap.size w0 w1) :
    Calls Tryz.prog 47 #[wkV V path mo sb c infer] w fun e w' => e = .returned (.tuple #[.pointer none, .nilIface]) ∧ Keep (fun k => k = sb) w w' := by
  obtain ⟨T, x, rfl, hm1, hm2, hm3⟩ := hV.meths hm
  obtain ⟨wb, hwb⟩ : ∃ wb, wb = w.heap.size := ⟨_, rfl⟩
  have hb0 := below_alloc (Below.refl w.heap.size w) (.cells #[.iface T x, .pointer none, .slice (some ⟨sb, 0, none⟩) 2 c, path, .bool infer, .bool false, mo] 66)
  have hbx := blk_new hwb (w := w) (.cells #[.iface T x, .pointer none, .slice (some ⟨sb, 0, none⟩) 2 c, path, .bool infer, .bool false, mo] 66)
  have HVIS := Lib.hid (hvis _ (below_drew hb0))
  have HSET := Lib.hid (show ∀ w1, Below ((w.alloc (.cells #[.iface T x, .pointer none, .slice (some ⟨sb, 0, none⟩) 2 c, path, .bool infer, .bool false, mo] 66)).drew).heap.size ((w.alloc (.cells #[.iface T x, .pointer none, .slice (some ⟨sb, 0, none⟩) 2 c, path, .bool infer, .bool false, mo] 66)).drew) w1 → Calls Tryz.prog 57 #[.slice (some ⟨sb, 0, none⟩) 2 c, .pointer none, .nilIface] w1 fun e w2 => e = .returned (.tuple #[.pointer none, .nilIface]) ∧ Keep (fun k => k = sb) w w2 from
    fun w1 hb1 => by
      have hb := (below_drew hb0).trans (hb1.mono (by simp))
      refine (setDest57 (q := none) w1 (hs.under hb)).mono ?_
      rintro e w2 ⟨rfl, _, hk⟩
      exact ⟨rfl, (Keep.of_below hb _).trans hk fun _ _ h => h⟩)
  have HBX := Lib.hid (blk_drew hbx)
  have a2 : (w.alloc (.cells #[.iface T x, .pointer none, .slice (some ⟨sb, 0, none⟩) 2 c, path, .bool infer, .bool false, mo] 66)).cell? ⟨wb, 2, none⟩ = some (.slice (some ⟨sb, 0, none⟩) 2 c) := (blk_cell hbx 2).trans rfl
  have a0 : (w.alloc (.cells #[.iface T x, .pointer none, .slice (some ⟨sb, 0, none⟩) 2 c, path, .bool infer, .bool false, mo] 66)).cell? ⟨wb, 0, none⟩ = some (.iface T x) := (blk_cell hbx 0).trans rfl
  have a1 : (w.alloc (.cells #[.iface T x, .pointer none, .slice (some ⟨sb, 0, none⟩) 2 c, path, .bool infer, .bool false, mo] 66)).cell? ⟨wb, 1, none⟩ = some (.pointer none) := (blk_cell hbx 1).trans rfl
  have hk := enter159
  clear hm1 hm2 hV hvis hb0 hbx hs
  go_enter Tryz.func47, Tryz.ntmps47
  go_wp2_with fail
  rw [← hwb]
  have HW := Lib.hid hwb
  clear hwb
  refine start_ (n := 17) (S := fun w' => w'.cell? ⟨wb, 2, none⟩ = some (.slice (some ⟨sb, 0, none⟩) 2 c) ∧ w'.cell? ⟨wb, 0, none⟩ = some (.iface T x) ∧ w'.cell? ⟨wb, 1, none⟩ = some (.pointer none)) (ds := [11]) #[false, false, false, false, false, false, false, false, false, false, false, false, false, false, false, false, false] (by kernel_rfl) rfl rfl ⟨a2, a0, a1⟩ (fun hHeld => ?_)
  refine pure_ (i := 0) (N := some 21) (v := ?_) (a' := ?_) (bl 17 1) rfl rfl (by kernel_rfl) (fun _ _ _ h => h) (Or.inl ⟨by rfl, ?_⟩) ?_ ?_; rotate_left; (· (intro w'; go_simp; with_reducible rfl)); rotate_left; (· (simp only [np]; rfl))
  refine pure_ (i := 2) (N := some 23) (v := ?_) (a' := ?_) (bl 17 5) rfl rfl (by kernel_rfl) (fun _ _ _ h => h) (Or.inl ⟨by rfl, ?_⟩) ?_ ?_; rotate_left; (· (intro w'; go_simp; with_reducible rfl)); rotate_left; (· (simp only [np]; rfl))
  refine pure_ (i := 4) (N := some 25) (v := ?_) (a' := ?_) (bl 17 21) rfl rfl (by kernel_rfl) (fun _ _ _ h => h) (Or.inl ⟨by rfl, ?_⟩) ?_ ?_; rotate_left; (· (intro w'; go_simp; with_reducible rfl)); rotate_left; (· (simp only [np]; rfl))
  refine pure_ (i := 6) (N := some 27) (v := ?_) (a' := ?_) (bl 17 85) rfl rfl (by kernel_rfl) (fun _ _ _ h => h) (Or.inl ⟨by rfl, ?_⟩) ?_ ?_; rotate_left; (· (intro w'; go_simp; with_reducible rfl)); rotate_left; (· (simp only [np]; rfl))
  refine take_ (i := 1) (N := some 22) (v := ?_) (a' := ?_) (bl 17 87) rfl rfl (by kernel_rfl) (fun _ _ _ h => h) (Or.inl ⟨by rfl, ?_⟩) hHeld ?_ ?_; rotate_left; (· (rintro w' ⟨s0, s1, s2⟩; go_simp; with_reducible rfl)); rotate_left; (· (simp only [np]; rfl))
  refine take_ (i := 3) (N := some 24) (v := ?_) (a' := ?_) (bl 17 95) rfl rfl (by kernel_rfl) (fun _ _ _ h => h) (Or.inl ⟨by rfl, ?_⟩) hHeld ?_ ?_; rotate_left; (· (rintro w' ⟨s0, s1, s2⟩; go_simp; with_reducible rfl)); rotate_left; (· (simp only [np]; rfl))
  refine take_ (i := 5) (N := some 26) (v := ?_) (a' := ?_) (bl 17 127) rfl rfl (by kernel_rfl) (fun _ _ _ h => h) (Or.inl ⟨by rfl, ?_⟩) hHeld ?_ ?_; rotate_left; (· (rintro w' ⟨s0, s1, s2⟩; go_simp; with_reducible rfl)); rotate_left; (· (simp only [np]; rfl))
  refine take_ (i := 7) (N := some 28) (v := ?_) (a' := ?_) (bl 17 255) rfl rfl (by kernel_rfl) (fun _ _ _ h => h) (Or.inl ⟨by rfl, ?_⟩) hHeld ?_ ?_; rotate_left; (· (rintro w' ⟨s0, s1, s2⟩; go_simp; with_reducible rfl)); rotate_left; (· (simp only [np]; rfl))
  refine one_ (i := 8) (N := some 29) (bl 17 511) rfl rfl (by kernel_rfl) (by decide) (fun K hK => ?_)
  refine call_ 159 #[.agg #[], .slice (some ⟨sb, 0, none⟩) 2 c, .pointer none] (by rfl) rfl ?_ ?_
  · go_simp
  refine (HVIS.out.mono ?_)
  rintro e w1 ⟨rfl, hb1⟩
  have HB1 := Lib.hid hb1
  have hbx1 := (hb1.block wb (by rw [HW.out]; simp)).trans HBX.out
  have HX1 := Lib.hid hbx1
  clear hb1
  refine ⟨_, rfl, ?_⟩
  refine hK.out _ _ ⟨(blk_cell HX1.out 2).trans rfl, (blk_cell HX1.out 0).trans rfl, (blk_cell HX1.out 1).trans rfl⟩ (fun hHeld => ?_)
  clear hK K
  refine norm_ (a' := ?_) ?_ ?_; rotate_left; (· (show Act.put _ (some 29) _ = _; simp only [np]; rfl))
  refine pure_ (i := 9) (N := some 30) (v := ?_) (a' := ?_) (bl 17 1023) rfl rfl (by kernel_rfl) (fun _ _ _ h => h) (Or.inl ⟨by rfl, ?_⟩) ?_ ?_; rotate_left; (· (intro w'; go_simp; with_reducible rfl)); rotate_left; (· (simp only [np]; rfl))
  refine pure_ (i := 10) (N := some 31) (v := ?_) (a' := ?_) (bl 17 2047) rfl rfl (by kernel_rfl) (fun _ _ _ h => h) (Or.inl ⟨by rfl, ?_⟩) ?_ ?_; rotate_left; (· (intro w'; go_simp; with_reducible rfl)); rotate_left; (· (simp only [np]; rfl))
  refine last_ (i := 11) (N := some 32) (bl 17 4095) rfl rfl (by kernel_rfl) (by decide) (fun K hK => ?_)
  refine goes_ Tryz.func57 (by kernel_rfl) rfl #[.slice (some ⟨sb, 0, none⟩) 2 c, .pointer none, .nilIface] (by rfl) rfl rfl (by simp only [List.map_toArray, List.map_cons, List.map_nil]; rfl) ?_
  refine (HSET.out w1 HB1.out).mono ?_
  rintro e w2 ⟨rfl, hi2⟩
  have HI2 := Lib.hid hi2
  clear hi2
  refine ⟨_, rfl, ?_⟩
  refine hK.out _ _ ?_
  clear hK K
  refine norm_ (a' := ?_) ?_ ?_; rotate_left; (· (show Act.put _ (some 32) _ = _; simp only [np]; rfl))
  refine pure_ (i := 12) (N := some 20) (v := ?_) (a' := ?_) (bl 17 8191) rfl rfl (by kernel_rfl) (fun _ _ _ h => h) (Or.inl ⟨by rfl, ?_⟩) ?_ ?_; rotate_left; (· (intro w'; go_simp; with_reducible rfl)); rotate_left; (· (simp only [np]; rfl))
  refine pure_ (i := 13) (N := some 33) (v := ?_) (a' := ?_) (bl 17 16383) rfl rfl (by kernel_rfl) (fun _ _ _ h => h) (Or.inl ⟨by rfl, ?_⟩) ?_ ?_; rotate_left; (· (intro w'; go_simp; with_reducible rfl)); rotate_left; (· (simp only [np]; rfl))
  refine pure_ (i := 14) (N := some 34) (v := ?_) (a' := ?_) (bl 17 32767) rfl rfl (by kernel_rfl) (fun _ _ _ h => h) (Or.inl ⟨by rfl, ?_⟩) ?_ ?_; rotate_left; (· (intro w'; go_simp; with_reducible rfl)); rotate_left; (· (simp only [np]; rfl))
  refine pure_ (i := 15) (N := some 4) (v := ?_) (a' := ?_) (bl 17 65535) rfl rfl (by kernel_rfl) (fun _ _ _ h => h) (Or.inl ⟨by rfl, ?_⟩) ?_ ?_; rotate_left; (· (intro w'; go_simp; with_reducible rfl)); rotate_left; (· (simp only [np]; rfl))
  refine pure_ (i := 16) (N := some 5) (v := ?_) (a' := ?_) (bl 17 131071) rfl rfl (by kernel_rfl) (fun _ _ _ h => h) (Or.inl ⟨by rfl, ?_⟩) ?_ ?_; rotate_left; (· (intro w'; go_simp; with_reducible rfl)); rotate_left; (· (simp only [np]; rfl))
  refine done_ (by kernel_rfl) ?_
  clear HVIS HSET a2 a0 a1 hm3 hk
  go_wp2_with fail
  go_ret2
  exact ⟨rfl, HI2.out⟩
end Go.Proofs.YtghmajlfmoggfaaGreat
namespace Go.Proofs.YtghmajlfmoggfaaGreat
open Go.RowKit Go.Proofs.YtghmajlfmoggfaaGreatW.PrintWords Go.Proofs.YtghmajlfmoggfaaGreatW.PrintLast PFnMerge
theorem NullQ.keep {w w' : World} {r : Nat} {T : Nat → Prop} (h : NullQ w r) (hT : Soft w T) (hS : Spares w T) (hk : Keep T w w') : NullQ w' r := by
  obtain ⟨b, val, h1, h2⟩ := h
  exact ⟨b, val, hT.rnb hk h1, hS.node hk h2⟩
def NulR (w : World) (sb : Nat) (q : Option Addr) (w' : World) : Prop := (q = none ∨ ∃ r, q = some ⟨r, 0, none⟩ ∧ NullQ w' r) ∧ Keep (fun k => k = sb) w w'
def DestQ (d : Nat) (w : World) (dp : Option Addr) : Prop := dp = none ∨ ∃ rd bd yd F, dp = some ⟨rd, 0, none⟩ ∧ RNB w rd bd ∧ Rep w bd yd F ∧ Good d yd
theorem walk_null {d : Nat} {V path mo : Value} {sb c n m rs : Nat} {dp : Option Addr} (w : World) (hd : DestQ d w dp) (hs : SrcAt w sb dp (some ⟨rs, 0, none⟩)) (hn : NullQ w rs) (hV : VisQ m V) (hm : m ≤ 300) (hp : PathOk w path n) (hnn : n ≤ 1000) :
    Calls Tryz.prog 38 #[wkV V path mo sb c false] w fun e w' => ∃ q, e = .returned (.tuple #[.pointer q, .nilIface]) ∧ NulR w sb q w' := by
  rcases hd with rfl | ⟨rd, bd, yd, F, rfl, hrn, hrep, hg⟩
  · refine walk38_zero (fun q w' => NulR w sb q w') w (fun w' hb => kind45_n w' (hs.under hb) (.inl rfl) (hn.under hb).dead) ?_
    intro w0 hb0
    refine (walkMap47 (r := rs) (m := m) w0 hV hm (n := n) hnn (hp.shape (Shape9.of_below hb0))
      (fun P w' => P = [] ∧ Keep (fun k => k = sb) w w' ∧ SrcAt w' sb (some ⟨rs, 0, none⟩) (some ⟨rs, 0, none⟩) ∧ w'.heap[w0.heap.size]? = some (.cells #[V, .pointer none, .slice (some ⟨sb, 0, none⟩) 2 c, path, .bool false, .bool false, mo] 66 (0, 0)))
      (fun ns => ns = []) ?_ ?_ ?_ ?_ ?_).mono ?_
    · exact fun w1 hb1 => visitMap_z w1 (hs.under (hb0.trans (hb1.mono hb0.size))) (hn.under (hb0.trans (hb1.mono hb0.size)))
    · intro w1 hb1 hbx
      have hb2 := hb0.trans (hb1.mono hb0.size)
      refine (setDest57 (q := some ⟨rs, 0, none⟩) w1 (hs.under hb2)).mono ?_
      rintro e w2 ⟨rfl, hs2, hk2⟩
      refine ⟨rfl, rfl, (Keep.of_below hb2 _).trans hk2 fun k _ h => h, hs2, hk2.at_ hbx ?_⟩
      intro e
      have := hs.lt
      have := hb0.size
      omega
    · exact fun P w' h => h.2.2.2
    · rintro w' ⟨_, hk, hs', hbx⟩
      have hkq : SrcKeys w' (some ⟨rs, 0, none⟩) [] := (hn.keep hs.soft hs.spares hk).keys
      refine (fieldNames58 sortC w' hs' hkq hkq (by simp) (by simp) (by simp) (by simp)).mono ?_
      rintro e w'' ⟨g, cap, ns, rfl, hnd, hmem, hl, hrow, hB⟩
      exact ⟨g, cap, ns, rfl, hnd, List.length_eq_zero_iff.1 (by simpa using hl), hrow, rfl, hk.then hB, hs'.under hB, (hB.block _ (lt_of_block hbx)).trans hbx⟩
    · rintro P name rest w' h
      simp at h
    · rintro e w' ⟨rfl, ns, _, _, _, hk, _, _⟩
      exact ⟨_, rfl, .inr ⟨rs, rfl, hn.keep hs.soft hs.spares hk⟩, hk⟩
  · obtain ⟨hld, hnq⟩ := hg.live hrep hrn
    have hk45 : ∀ w', Below w.heap.size w w' → Calls Tryz.prog 45 #[wkV V path mo sb c false] w' fun e w'' => e = .returned (.int .u32 (kindN yd.f0)) ∧ Below w'.heap.size w' w'' := fun w' hb => kind45_d w' (hs.under hb) (hld.under hb)
    have hk46 : ∀ w', Below w.heap.size w w' → Calls Tryz.prog 46 #[.int .u32 (kindN yd.f0), .slice (some ⟨sb, 0, none⟩) 2 c] w' fun e w'' => e = .returned .nilIface ∧ w' = w'' := fun w' hb => any46 w' (hs.under hb) (.inr (hld.under hb)) (.inl (hn.under hb).dead)
    cases d with
    | zero => exact hg.elim
    | succ d =>
    rcases hg with ⟨h1, _⟩ | ⟨h1, _⟩ | ⟨h1, hne, hlen, hnod, hkeys, hitems⟩
    · have e : kindN yd.f0 = 8 := by rw [h1]; rfl
      rw [e] at hk45 hk46
      refine walk38_sc _ w hk45 hk46 fun w' hb => (scalar51 w' hV hm (hs.under hb) (hnq.under hb) (hn.nodeQ.under hb)).mono ?_
      rintro e w'' ⟨rfl, hb'⟩
      have hb2 := hb.trans (hb'.mono hb.size)
      exact ⟨_, rfl, .inr ⟨rs, rfl, hn.under hb2⟩, Keep.of_below hb2 _⟩
    · have e : kindN yd.f0 = 2 := by rw [h1]; rfl
      rw [e] at hk45 hk46
      refine walk38_seq _ w hk45 hk46 fun w' hb => (list50 w' hV hm (hs.under hb) (hnq.under hb) (hn.nodeQ.under hb)).mono ?_
      rintro e w'' ⟨rfl, hb'⟩
      have hb2 := hb.trans (hb'.mono hb.size)
      exact ⟨_, rfl, .inr ⟨rs, rfl, hn.under hb2⟩, Keep.of_below hb2 _⟩
    · have e : kindN yd.f0 = 4 := by rw [h1]; rfl
      rw [e] at hk45 hk46
      have hmq : MapQ w (some ⟨rd, 0, none⟩) := by
        cases hrep with
        | sc _ text tag _ h hF => simp at h1
        | sq _ Cd kd _ h hF hr hd hk hc => simp at h1
        | mp _ Cd kd _ h hF hr hd hk hc =>
        refine ⟨rd, bd, Cd, kd, rfl, hrn, ⟨h, ⟨_, hr⟩, fun c hc => (hk c hc).1⟩, ?_, ?_⟩
        · rintro rfl; exact hne rfl
        · rw [List.find?_eq_none]
          intro x hx
          have := (hkeys x.key (List.mem_map_of_mem hx)).2.2
          simpa [hasKey] using this
      refine walk38_map _ w hk45 hk46 fun w0 hb0 => (walk47_nil w0 hV hm (hs.under hb0) fun w1 hb1 => visitMap_c w1 (hs.under (hb0.trans (hb1.mono hb0.size))) (hmq.under (hb0.trans (hb1.mono hb0.size))) (hn.under (hb0.trans (hb1.mono hb0.size)))).mono ?_
      rintro e w'' ⟨rfl, hk⟩
      exact ⟨none, rfl, .inl rfl, (Keep.of_below hb0 _).trans hk fun _ _ h => h⟩
theorem null_step {d : Nat} {w' : World} {b r0 rs sb c n m : Nat} {C : Value} {kids ks : List Kid} {s : Kid} {V path mo : Value} {name : List UInt8} {wb : Nat}
    (hs : SrcAt w' sb (some ⟨r0, 0, none⟩) (some ⟨rs, 0, none⟩)) (hr : RNB w' r0 b) (hm : MapAt w' b C kids) (hks : KidsQ w' (some ⟨rs, 0, none⟩) ks) (hbox : w'.heap[wb]? = some (.cells #[V, .pointer none, .slice (some ⟨sb, 0, none⟩) 2 c, path, .bool false, .bool false, mo] 66 (0, 0)))
    (hfk : ks.find? (hasKey ⟨name.toArray⟩) = some s) (hne : (⟨name.toArray⟩ : ByteArray).toList.isEmpty = false) (hdk : ∀ kid, kids.find? (hasKey ⟨name.toArray⟩) = some kid → Good d kid.y ∧ ∃ F, Rep w' kid.cb kid.y F) (hnull : ∃ val, NodeB w' s.cb 8 nullTag val nilS) (hV : VisQ m V) (hmd : m + 1 ≤ 300) (hp : PathOk w' path n) (hnd : n + 1 ≤ 1000) :
    Calls Tryz.prog 61 #[wkV V path mo sb c false, .string ⟨name.toArray⟩] w' fun e w1 => ∃ g cap sm, e = .returned (.tuple #[.slice (some ⟨g, 0, none⟩) 2 cap, .pointer none, .map (some sm)]) ∧ PathOk w1 path n ∧
      w1.heap[wb]? = some (.cells #[V, .pointer none, .slice (some ⟨sb, 0, none⟩) 2 c, path, .bool false, .bool false, mo] 66 (0, 0)) ∧ ∀ path' w2, PathApp w1 w2 path path' n → Calls Tryz.prog 38 #[wkV (.iface 66 (wkV V path mo sb c false)) path' mo g cap false] w2 fun e w3 => ∃ q, e = .returned (.tuple #[.pointer q, .nilIface]) ∧ StyM w3 sm ∧ PtrQ w3 q ∧
        ∀ fb w4, Below w3.heap.size w3 w4 → w4.cell? ⟨fb, 0, none⟩ = some (.iface 104 (fsV ⟨name.toArray⟩ q)) → Calls Tryz.prog 62 #[.pointer (some ⟨r0, 0, none⟩), .slice (some ⟨fb, 0, none⟩) 1 1] w4 fun e w5 => ∃ q', e = .returned (.tuple #[.pointer q', .nilIface]) ∧
          ((kids.find? (hasKey ⟨name.toArray⟩) = none ∧ Keep (fun k => path.ownBlock = some k) w' w5) ∨ ∃ l1 kid l2 C', kids = l1 ++ kid :: l2 ∧ hasKey ⟨name.toArray⟩ kid = true ∧ NodeB w5 b 4 noStr noStr C' ∧ w5.ownsRow 0 69 1 C' (((l1 ++ l2).flatMap Kid.two).length) (((l1 ++ l2).flatMap Kid.two).map ptrV) ∧ C'.ownBlock = C.ownBlock) ∧
          Keep (fun k => k = b ∨ C.ownBlock = some k ∨ path.ownBlock = some k) w' w5 ∧ Shape9 w' w5 := by
  refine (fieldValue61 w' hs (.inr ⟨r0, b, C, rfl, hr, hm⟩) hks).mono ?_
  rintro e w1 ⟨g, cap, sm, dv, sv, rfl, hge, hB1, hs1, hst1, hfd, hfs⟩
  obtain ⟨val, hnull⟩ := hnull
  have hp1 := hp.shape (Shape9.of_below hB1)
  refine ⟨g, cap, sm, rfl, hp1, (hB1.block _ (lt_of_block hbox)).trans hbox, ?_⟩
  intro path' w2 happ
  have sf2 := hp1.soft
  have hs2 : SrcAt w2 g dv sv := happ.keep.src hs1 (src_ne_path hs1 hp1)
  obtain ⟨vs, rfl, hvs⟩ := hfs.2 s hfk
  have hn2 : NullQ w2 vs := ⟨s.cb, val, sf2.rnb happ.keep hvs, hp1.spares.node happ.keep (hnull.under hB1)⟩
  have hdq : DestQ d w2 dv := by
    rcases hfd.cases with ⟨rfl, _⟩ | ⟨kid, vr, hk, rfl, hvr⟩
    · exact .inl rfl
    · obtain ⟨hg, F, hrep⟩ := hdk kid hk
      exact .inr ⟨vr, kid.cb, kid.y, F, rfl, sf2.rnb happ.keep hvr, hp1.spares.rep happ.keep (hrep.under hB1), hg⟩
  refine (walk_null (mo := mo) (c := cap) w2 hdq hs2 hn2 (hV.nest (a1 := .pointer none) (a2 := .slice (some ⟨sb, 0, none⟩) 2 c) (a3 := path) (a4 := .bool false) (a5 := .bool false) (a6 := mo)) hmd happ.ok hnd).mono ?_
  rintro e w3 ⟨q, rfl, hq, hk3⟩
  have sf3 : Soft w2 fun k => k = g := hs2.soft
  have sp3 : Spares w2 fun k => k = g := hs2.spares
  refine ⟨_, rfl, sf3.sty hk3 (sf2.sty happ.keep hst1), ?_, ?_⟩
  · rcases hq with rfl | ⟨r, rfl, b', val', h1, h2⟩
    · exact .inl rfl
    · exact .inr ⟨r, _, _, rfl, h1⟩
  intro fb w4 hB4 hcell
  have hr4 : RNB w4 r0 b := (sf3.rnb hk3 (sf2.rnb happ.keep (hr.under hB1))).under hB4
  have hm4 : MapAt w4 b C kids := (sp3.map hk3 (hp1.spares.map happ.keep (hm.under hB1))).under hB4
  have hset := set_clear (kd := noStr) (c1 := noStr) (c2 := noStr) (c3 := noStr) (q := q) w4 hr4 hm4 hne (by
    rcases hq with rfl | ⟨r, rfl, b', val', h1, h2⟩
    · exact .inl rfl
    · exact .inr ⟨r, b', 8, val', nilS, rfl, h1.under hB4, h2.under hB4, rfl⟩)
  have k1 : Keep (fun k => path.ownBlock = some k) w' w2 := (Keep.of_below hB1 (fun k => path.ownBlock = some k)).trans happ.keep fun k _ hk => hk
  have k2 : Keep (fun k => path.ownBlock = some k) w' w3 := k1.trans hk3 fun k hk hT => by
    have : k = g := hT
    omega
  have k3 := k2.then hB4
  have hsh3 : Shape9 w2 w3 := Shape9.of_keep hk3 fun k cur hT hc => by
    have : k = g := hT
    subst this
    obtain ⟨cur', h1, _⟩ := hs2
    rw [h1] at hc
    injection hc with hc
    injection hc with _ hc
    cases hc
  have hsh4 := ((((Shape9.of_below hB1).trans happ.shape).trans hsh3).trans (Shape9.of_below hB4))
  refine (pipe1 (fun q' w5 => _) w4 hr4 hm4.node rfl hcell (meth187 _ _ _ _ _ _ _ _ _) enter187 (hset.mono ?_))
  rintro e w5 ⟨q', rfl, hcl⟩
  refine ⟨q', rfl, ?_⟩
  rcases hcl with ⟨h1, h2⟩ | ⟨l1, kid, l2, C', h1, h2, h3, h4, h5, h6⟩
  · exact ⟨.inl ⟨h1, k3.then h2⟩, (k3.then h2).mono fun k _ h => .inr (.inr h), hsh4.trans (Shape9.of_below h2)⟩
  · refine ⟨.inr ⟨l1, kid, l2, C', h1, h2, h3, h4, h5⟩, (k3.mono fun k _ h => .inr (.inr h)).trans h6 fun k _ h => h.elim .inl fun h => .inr (.inl h), hsh4.trans (Shape9.of_keep h6 ?_)⟩
    obtain ⟨Fr, hrow4⟩ := hm4.row
    rintro k cur (rfl | h) hc
    · have := hm4.node
      rw [NodeB, hc] at this
      injection this with this
      injection this with _ this
      cases this
    · obtain ⟨cs, hcs⟩ := own_typed hrow4.2 k h
      rw [hc] at hcs
      injection hcs with hcs
      injection hcs with _ hcs
      cases hcs
end Go.Proofs.YtghmajlfmoggfaaGreat
namespace Go.Proofs.YtghmajlfmoggfaaGreat
open Go.RowKit Go.Proofs.YtghmajlfmoggfaaGreatW.PrintWords Go.Proofs.YtghmajlfmoggfaaGreatW.PrintLast PFnMerge
def cutK (nm : ByteArray) (kids : List Kid) : List Kid := kids.filter fun c => !(hasKey nm c)
theorem mem_cutK {nm : ByteArray} {kids : List Kid} {c : Kid} : c ∈ cutK nm kids ↔ c ∈ kids ∧ c.key ≠ nm := by
  unfold cutK
  rw [List.mem_filter]
  constructor
  · rintro ⟨h1, h2⟩
    exact ⟨h1, fun e => by rw [hasKey_iff.2 e] at h2; cases h2⟩
  · rintro ⟨h1, h2⟩
    refine ⟨h1, ?_⟩
    cases h : hasKey nm c with
    | false => rfl
    | true => exact absurd (hasKey_iff.1 h) h2
def cutN (nm : ByteArray) (y : S25) : S25 := ⟨2, noStr, noStr, ((y.f3.zip y.f4).filter fun p => !(nm.toList == p.1.toList)).map (·.1), ((y.f3.zip y.f4).filter fun p => !(nm.toList == p.1.toList)).map (·.2)⟩
theorem cutN_kids (nm : ByteArray) (kids : List Kid) : cutN nm ⟨2, noStr, noStr, kids.map (·.key), kids.map (·.y)⟩ = ⟨2, noStr, noStr, (cutK nm kids).map (·.key), (cutK nm kids).map (·.y)⟩ := by
  have h : ((kids.map (·.key)).zip (kids.map (·.y))).filter (fun p : ByteArray × S25 => !(nm.toList == p.1.toList)) = (cutK nm kids).map fun c => (c.key, c.y) := by
    induction kids with
    | nil => rfl
    | cons a r ih =>
      simp only [List.map_cons, List.zip_cons_cons, cutK, List.filter_cons, hasKey] at ih ⊢
      by_cases e : (nm.toList == a.key.toList) = true
      · simp only [e, Bool.not_true, Bool.false_eq_true, if_false]
        exact ih
      · simp only [Bool.not_eq_true] at e
        simp only [e, Bool.not_false, if_true, List.map_cons]
        rw [ih]
  unfold cutN
  simp only [h, List.map_map]
  rfl
section
variable {lim n b : Nat} {kd ks : List Kid} {Fd Fs : Nat → Prop} {P : List (List UInt8)} {C : Value} {K : List Kid} {w w' : World}
theorem MI.cut (h : MI lim n b kd ks Fd Fs P C K w) {nm : ByteArray} (hP : nm.data.toList ∉ P) (hks : nm ∉ ks.map (·.key)) {l1 l2 : List Kid} {kid : Kid} (hK : K = l1 ++ kid :: l2) (hkid : kid.key = nm) {C' : Value} (g3 : NodeB w' b 4 noStr noStr C')
    (g4 : w'.ownsRow 0 69 1 C' (((l1 ++ l2).flatMap Kid.two).length) (((l1 ++ l2).flatMap Kid.two).map ptrV)) (g5 : C'.ownBlock = C.ownBlock) {T : Nat → Prop} (hT : Spares w T) (hk : Keep (fun k => k = b ∨ C.ownBlock = some k ∨ T k) w w') :
    MI lim n b (cutK nm kd) ks Fd Fs (P ++ [nm.data.toList]) C' (l1 ++ l2) w' := by
  have hnod := h.nodup
  rw [hK, List.map_append, List.map_cons, List.nodup_append] at hnod
  obtain ⟨hn1, hn2, hn3⟩ := hnod
  rw [List.nodup_cons] at hn2
  have sub : ∀ c ∈ l1 ++ l2, c ∈ K ∧ c.key ≠ nm := fun c hc => by
    rw [hK]
    rcases List.mem_append.1 hc with hc | hc
    · exact ⟨by simp [hc], fun e => hn3 c.key (List.mem_map_of_mem hc) kid.key (by simp) (e.trans hkid.symm)⟩
    · exact ⟨by simp [hc], fun e => hn2.1 (List.mem_map.2 ⟨c, hc, e.trans hkid.symm⟩)⟩
  have sup : ∀ c ∈ K, c.key ≠ nm → c ∈ l1 ++ l2 := fun c hc hne => by
    rw [hK] at hc
    simp only [List.mem_append, List.mem_cons] at hc ⊢
    rcases hc with hc | rfl | hc
    · exact .inl hc
    · exact absurd hkid hne
    · exact .inr hc
  have hnP : ∀ c : Kid, c.key ≠ nm → (c.key.data.toList ∈ P ++ [nm.data.toList] ↔ c.key.data.toList ∈ P) := fun c hne => by
    simp only [List.mem_append, List.mem_singleton]
    exact ⟨fun h => h.elim id fun e => absurd (bytes_ext e) hne, .inl⟩
  have hnt : ∀ k, k ≠ b → C.ownBlock ≠ some k → TB w k → ¬ (k = b ∨ C.ownBlock = some k ∨ T k) := fun k h1 h2 h3 h => by
    rcases h with h | h | h
    · exact h1 h
    · exact h2 h
    · exact hT k h3 h
  refine ⟨Nat.le_trans h.hlim hk.size, g3, ⟨fun k hc => ?_, g4⟩, fun c hc c' hc' => h.dis c (sub c hc).1 c' (sub c' hc').1, fun c hc => ?_, fun c hc => ?_, ?_, fun key => ?_, fun c hc hn => ?_, fun c hc hn => ?_, fun c hc k hF => ?_⟩
  · rw [g5] at hc
    exact h.row.1 k hc
  · obtain ⟨h1, h2, h3⟩ := h.kid c (sub c hc).1
    have hq := h3 c.kb h2
    refine ⟨h1.move (hk.block _ h1.lt (hnt _ hq.2.1 hq.2.2.1 h1.tb)), h2, fun k hF => ?_⟩
    obtain ⟨q1, q2, q3, q4⟩ := h3 k hF
    exact ⟨q1, q2, by rw [g5]; exact q3, Nat.lt_of_lt_of_le q4 hk.size⟩
  · have hc' := (sub c hc).1
    exact (h.rep c hc').step fun k hF ht => hk.block k ht.lt (hnt k ((h.kid c hc').2.2 k hF.1).2.1 ((h.kid c hc').2.2 k hF.1).2.2.1 ht)
  · rw [List.map_append, List.nodup_append]
    exact ⟨hn1, hn2.2, fun a ha b hb => hn3 a ha b (List.mem_cons_of_mem _ hb)⟩
  · constructor
    · intro hm
      obtain ⟨c, hc, rfl⟩ := List.mem_map.1 hm
      obtain ⟨hcK, hcn⟩ := sub c hc
      rcases (h.keys c.key).1 (List.mem_map_of_mem hcK) with h1 | ⟨h1, h2⟩
      · obtain ⟨a, ha, hak⟩ := List.mem_map.1 h1
        exact .inl (List.mem_map.2 ⟨a, mem_cutK.2 ⟨ha, by rw [hak]; exact hcn⟩, hak⟩)
      · exact .inr ⟨h1, (hnP c hcn).2 h2⟩
    · intro hm
      have : key ≠ nm ∧ key ∈ K.map (·.key) := by
        rcases hm with hm | ⟨h1, h2⟩
        · obtain ⟨a, ha, rfl⟩ := List.mem_map.1 hm
          obtain ⟨ha, han⟩ := mem_cutK.1 ha
          exact ⟨han, (h.keys _).2 (.inl (List.mem_map_of_mem ha))⟩
        · have hne : key ≠ nm := by rintro rfl; exact hks h1
          simp only [List.mem_append, List.mem_singleton] at h2
          exact ⟨hne, (h.keys _).2 (.inr ⟨h1, h2.elim id fun e => absurd (bytes_ext e) hne⟩)⟩
      obtain ⟨c, hc, rfl⟩ := List.mem_map.1 this.2
      exact List.mem_map_of_mem (sup c hc this.1)
  · obtain ⟨hcK, hcn⟩ := sub c hc
    exact mem_cutK.2 ⟨h.old c hcK fun hp => hn ((hnP c hcn).2 hp), hcn⟩
  · obtain ⟨hcK, hcn⟩ := sub c hc
    rcases h.val c hcK ((hnP c hcn).1 hn) with ⟨a, ha, s, hs, h1, h2, h3⟩ | ⟨a, ha, h1, h2, h3⟩ | ⟨s, hs, h1, h2, h3⟩
    · exact .inl ⟨a, mem_cutK.2 ⟨ha, by rw [h1]; exact hcn⟩, s, hs, h1, h2, h3⟩
    · exact .inr (.inl ⟨a, mem_cutK.2 ⟨ha, by rw [h1]; exact hcn⟩, h1, h2, h3⟩)
    · refine .inr (.inr ⟨s, hs, h1, h2, fun hm => h3 ?_⟩)
      obtain ⟨a, ha, hak⟩ := List.mem_map.1 hm
      exact List.mem_map.2 ⟨a, (mem_cutK.1 ha).1, hak⟩
  · obtain ⟨hcK, hcn⟩ := sub c hc
    rcases h.foot c hcK k hF with ⟨a, ha, h1, h2⟩ | h1 | h1
    · exact .inl ⟨a, mem_cutK.2 ⟨ha, by rw [h1]; exact hcn⟩, h1, h2⟩
    · exact .inr (.inl h1)
    · exact .inr (.inr h1)
theorem MI.skip (h : MI lim n b kd ks Fd Fs P C K w) {nm : ByteArray} (hks : nm ∉ ks.map (·.key)) (hK : nm ∉ K.map (·.key)) {T : Nat → Prop} (hT : Spares w T) (hk : Keep T w w') :
    MI lim n b (cutK nm kd) ks Fd Fs (P ++ [nm.data.toList]) C K w' := by
  have hkd : cutK nm kd = kd := by
    unfold cutK
    rw [List.filter_eq_self]
    intro a ha
    cases e : hasKey nm a with
    | false => rfl
    | true => exact absurd ((h.keys nm).2 (.inl (List.mem_map.2 ⟨a, ha, hasKey_iff.1 e⟩))) hK
  rw [hkd]
  have h' := h.frame hT hk
  have hne : ∀ c ∈ K, c.key ≠ nm := fun c hc e => hK (List.mem_map.2 ⟨c, hc, e⟩)
  have hnP : ∀ c ∈ K, (c.key.data.toList ∈ P ++ [nm.data.toList] ↔ c.key.data.toList ∈ P) := fun c hc => by
    simp only [List.mem_append, List.mem_singleton]
    exact ⟨fun h => h.elim id fun e => absurd (bytes_ext e) (hne c hc), .inl⟩
  refine ⟨h'.hlim, h'.node, h'.row, h'.dis, h'.kid, h'.rep, h'.nodup, fun key => ?_, fun c hc hn => h'.old c hc fun hp => hn ((hnP c hc).2 hp), fun c hc hn => h'.val c hc ((hnP c hc).1 hn), h'.foot⟩
  rw [h'.keys key]
  refine or_congr_right (and_congr_right fun h1 => ?_)
  simp only [List.mem_append, List.mem_singleton]
  exact ⟨.inl, fun h2 => h2.elim id fun e => absurd h1 (by rw [bytes_ext e]; exact hks)⟩
end
theorem MI.done2 {n b : Nat} {kd ks : List Kid} {Fd Fs : Nat → Prop} {ns : List (List UInt8)} {C : Value} {K : List Kid} {lim : Nat} {w' : World} (h : MI lim n b kd ks Fd Fs ns C K w') (hns : ∀ x, ((∃ k ∈ kd, k.key.data.toList = x) ∨ ∃ k ∈ ks, k.key.data.toList = x) → x ∈ ns) (hb : Fd b) :
    ∃ ym, MRel (n + 1) ⟨2, noStr, noStr, kd.map (·.key), kd.map (·.y)⟩ ⟨2, noStr, noStr, ks.map (·.key), ks.map (·.y)⟩ ym ∧ Rep w' b ym (fun k => Fd k ∨ Fs k ∨ lim ≤ k) := by
  have hkeys : ∀ key, key ∈ K.map (·.key) ↔ key ∈ kd.map (·.key) ∨ key ∈ ks.map (·.key) := fun key => by
    rw [h.keys key]
    constructor
    · rintro (h1 | ⟨h1, _⟩)
      · exact .inl h1
      · exact .inr h1
    · rintro (h1 | h1)
      · exact .inl h1
      · obtain ⟨k, hk, rfl⟩ := List.mem_map.1 h1
        exact .inr ⟨h1, hns _ (.inr ⟨k, hk, rfl⟩)⟩
  refine ⟨⟨2, noStr, noStr, K.map (·.key), K.map (·.y)⟩, .inr ⟨rfl, rfl, rfl, rfl, by simp, h.nodup, hkeys, ?_⟩, .mp b C K _ h.node (.inl hb) (h.row.mono fun k hF => ⟨hF.1.elim .inl fun h => .inr (.inr h), hF.2⟩) ?_ (fun c hc => ⟨(h.kid c hc).1, (h.kid c hc).2.1, fun k hF => ?_⟩) h.rep⟩
  · intro key v hf
    obtain ⟨c, hc, rfl, rfl⟩ := zip_kid.1 hf
    have hp : c.key.data.toList ∈ ns := by
      refine hns _ ?_
      rcases (hkeys c.key).1 (List.mem_map_of_mem hc) with h1 | h1
      · obtain ⟨k, hk, he⟩ := List.mem_map.1 h1
        exact .inl ⟨k, hk, by rw [he]⟩
      · obtain ⟨k, hk, he⟩ := List.mem_map.1 h1
        exact .inr ⟨k, hk, by rw [he]⟩
    rcases h.val c hc hp with ⟨a, ha, s, hs, h1, h2, h3⟩ | ⟨a, ha, h1, h2, h3⟩ | ⟨s, hs, h1, h2, h3⟩
    · exact .inl ⟨a.y, s.y, zip_kid.2 ⟨a, ha, h1, rfl⟩, zip_kid.2 ⟨s, hs, h2, rfl⟩, h3⟩
    · exact .inr (.inl ⟨zip_kid.2 ⟨a, ha, h1, h2⟩, h3⟩)
    · exact .inr (.inr ⟨zip_kid.2 ⟨s, hs, h1, h2⟩, h3⟩)
  · exact (List.pairwise_map.1 h.nodup).imp_of_mem fun ha hb hne => h.dis _ ha _ hb hne
  · obtain ⟨q1, q2, q3, _⟩ := (h.kid c hc).2.2 k hF
    exact ⟨q1, q2, q3⟩
end Go.Proofs.YtghmajlfmoggfaaGreat
namespace Go.Proofs.YtghmajlfmoggfaaGreat
open Go.RowKit Go.Proofs.YtghmajlfmoggfaaGreatW.PrintWords Go.Proofs.YtghmajlfmoggfaaGreatW.PrintLast PFnMerge
structure GoodX (d : Nat) (nm : ByteArray) (y : S25) : Prop where
  f0 : y.f0 = 2
  ne : y.f3 ≠ []
  len : y.f3.length ≤ 1000
  nodup : y.f3.Nodup
  keys : ∀ k ∈ y.f3, k.toList.isEmpty = false ∧ k.size ≤ 1000000 ∧ (patchKey.toList == k.toList) = false
  items : ∀ key z, fld y key z → key ≠ nm → Good d z
  null : ∀ z, fld y nm z → z.f0 = 1 ∧ z.f2 = nullTag
  has : nm ∈ y.f3
theorem GoodX.live {d : Nat} {nm : ByteArray} {y : S25} (hg : GoodX d nm y) {w : World} {r b : Nat} {F : Nat → Prop} (h : Rep w b y F) (hr : RNB w r b) : LiveQ w (some ⟨r, 0, none⟩) 4 ∧ NodeQ w (some ⟨r, 0, none⟩) := by
  cases h with
  | sc _ text tag _ h hF => have := hg.f0; simp at this
  | sq _ C kids _ h hF hr' hd hk hc => have := hg.f0; simp at this
  | mp _ C kids _ h hF hr' hd hk hc =>
    obtain ⟨A, c, rfl, _, hm⟩ := hr'.slice
    have hl := two_length kids
    have hz : kids.length ≠ 0 := by intro e; exact hg.ne (by simp [List.length_eq_zero_iff.1 e])
    refine ⟨.inl ⟨r, b, noStr, noStr, A, _, c, rfl, hr, h, rfl, nostr_ne, ?_, ?_⟩, .inr ⟨r, b, 4, noStr, noStr, A, _, c, rfl, hr, h, rfl, .inr ⟨rfl, ?_⟩⟩⟩
    · simp [hl]
    · have := own_len hr'.2
      unfold maxLen at this
      omega
    · exact beq_false_of_ne (by rw [hl]; omega)
def TakeR (d : Nat) (nm : ByteArray) (w : World) (sb : Nat) (path : Value) (bd : Nat) (yd ys : S25) (Fd Fs : Nat → Prop) (q : Option Addr) (w' : World) : Prop :=
  ∃ r ym, q = some ⟨r, 0, none⟩ ∧ RNB w' r bd ∧ MRel (d + 1) (cutN nm yd) (cutN nm ys) ym ∧ Rep w' bd ym (fun k => Fd k ∨ Fs k ∨ w.heap.size ≤ k) ∧ Shape9 w w' ∧ Keep (fun k => Fd k ∨ k = sb ∨ path.ownBlock = some k) w w'
theorem walk_take (d : Nat) (nm : ByteArray) (yd ys : S25) (hgd : Good (d + 1) yd) (h1 : yd.f0 = 2) (hgs : GoodX d nm ys) (hal : ∀ key a b, key ≠ nm → fld yd key a → fld ys key b → AlikeN d a b) (w : World) (bd bs : Nat) (Fd Fs : Nat → Prop) (hrd : Rep w bd yd Fd) (hrs : Rep w bs ys Fs)
    (htd : ∀ k, Fd k → TB w k) (hts : ∀ k, Fs k → TB w k) (hdis : ∀ k, Fd k → Fs k → False) (rd rs : Nat) (hrnd : RNB w rd bd) (hrns : RNB w rs bs) (V path mo : Value) (sb c n m : Nat) (hs : SrcAt w sb (some ⟨rd, 0, none⟩) (some ⟨rs, 0, none⟩)) (hV : VisQ m V) (hmd : m + d + 1 ≤ 300) (hp : PathOk w path n) (hnd : n + d + 1 ≤ 1000) :
    Calls Tryz.prog 38 #[wkV V path mo sb c false] w fun e w' => ∃ q, e = .returned (.tuple #[.pointer q, .nilIface]) ∧ TakeR d nm w sb path bd yd ys Fd Fs q w' := by
  obtain ⟨hld, hnqd⟩ := hgd.live hrd hrnd
  obtain ⟨hls, hnqs⟩ := hgs.live hrs hrns
  have e4 : kindN yd.f0 = 4 := by rw [h1]; rfl
  rw [e4] at hld
  have hk45 : ∀ w', Below w.heap.size w w' → Calls Tryz.prog 45 #[wkV V path mo sb c false] w' fun e w'' => e = .returned (.int .u32 4) ∧ Below w'.heap.size w' w'' := fun w' hb => kind45_d w' (hs.under hb) (hld.under hb)
  have hk46 : ∀ w', Below w.heap.size w w' → Calls Tryz.prog 46 #[.int .u32 4, .slice (some ⟨sb, 0, none⟩) 2 c] w' fun e w'' => e = .returned .nilIface ∧ w' = w'' := fun w' hb => any46 w' (hs.under hb) (.inr (hld.under hb)) (.inr (hls.under hb))
  rcases hgd with ⟨h2, _⟩ | ⟨h2, _⟩ | ⟨_, hne, hlen, hnod, hkeys, hitems⟩
  · rw [h1] at h2; cases h2
  · rw [h1] at h2; cases h2
  obtain ⟨g1, gne, glen, gnod, gkeys, gitems, gnull, ghas⟩ := hgs
  have hFdr := hrd.root
  cases hrd with
  | sc _ text tag _ h hF => simp at h1
  | sq _ Cd kd _ h hF hr hd hk hc => simp at h1
  | mp _ Cd kd _ h hF hr hd hk hc =>
  cases hrs with
  | sc _ text tag _ h' hF' => simp at g1
  | sq _ Cs ks _ h' hF' hr' hd' hk' hc' => simp at g1
  | mp _ Cs ks _ hsn hsF hsr hsd hsk hsc =>
  have hmd0 : MapAt w bd Cd kd := ⟨h, ⟨_, hr⟩, fun c hc => (hk c hc).1⟩
  have hms0 : MapAt w bs Cs ks := ⟨hsn, ⟨_, hsr⟩, fun c hc => (hsk c hc).1⟩
  have hkdn : kd ≠ [] := by rintro rfl; exact hne rfl
  have hksn : ks ≠ [] := by rintro rfl; exact gne rfl
  have hpatd : kd.find? (hasKey patchKey) = none := by
    rw [List.find?_eq_none]
    intro x hx
    have := (hkeys x.key (List.mem_map_of_mem hx)).2.2
    simpa [hasKey] using this
  have hpats : ks.find? (hasKey patchKey) = none := by
    rw [List.find?_eq_none]
    intro x hx
    have := (gkeys x.key (List.mem_map_of_mem hx)).2.2
    simpa [hasKey] using this
  have hmqd : MapQ w (some ⟨rd, 0, none⟩) := ⟨rd, bd, Cd, kd, rfl, hrnd, hmd0, hkdn, hpatd⟩
  have hmqs : MapQ w (some ⟨rs, 0, none⟩) := ⟨rs, bs, Cs, ks, rfl, hrns, hms0, hksn, hpats⟩
  have hT : Soft w (fun k => Fd k ∨ k = sb ∨ path.ownBlock = some k) := (tb_soft htd).or (hs.soft.or hp.soft)
  have hS : Spares w (fun k => k = sb ∨ path.ownBlock = some k) := hs.spares.or hp.spares
  have hnS : ∀ k, Fs k → ¬ (Fd k ∨ k = sb ∨ path.ownBlock = some k) := fun k hF h => h.elim (fun h => hdis k h hF) (hS k (hts k hF))
  have hlkd : kd.length ≤ 1000 := by simpa using hlen
  have hlks : ks.length ≤ 1000 := by simpa using glen
  have hkdF : ∀ a ∈ kd, ∀ k, a.F k → Fd k ∧ k < w.heap.size := fun a ha k hF => ⟨((hk a ha).2.2 k hF).1, (htd k ((hk a ha).2.2 k hF).1).lt⟩
  have hksF : ∀ a ∈ ks, ∀ k, a.F k → Fs k ∧ k ≠ bd ∧ k < w.heap.size := fun a ha k hF => by
    have q := ((hsk a ha).2.2 k hF).1
    exact ⟨q, by rintro rfl; exact hdis _ hFdr q, (hts k q).lt⟩
  have hksd : ∀ a ∈ ks, ∀ a' ∈ ks, a.key ≠ a'.key → ∀ k, a.F k → a'.F k → False := fun a ha a' ha' hne => pair_dis hsd ha ha' hne
  have hksF1 : ∀ a ∈ cutK nm ks, ∀ k, a.F k → Fs k ∧ k ≠ bd ∧ k < w.heap.size := fun a ha => hksF a (mem_cutK.1 ha).1
  have hksd1 : ∀ a ∈ cutK nm ks, ∀ a' ∈ cutK nm ks, a.key ≠ a'.key → ∀ k, a.F k → a'.F k → False := fun a ha a' ha' => hksd a (mem_cutK.1 ha).1 a' (mem_cutK.1 ha').1
  have hnks : nm ∉ (cutK nm ks).map (·.key) := fun hm => by
    obtain ⟨a, ha, hak⟩ := List.mem_map.1 hm
    exact (mem_cutK.1 ha).2 hak
  have hmsw : ∀ w', Keep (fun k => Fd k ∨ k = sb ∨ path.ownBlock = some k) w w' → MapAt w' bs Cs ks := fun w' hkp =>
    hms0.keepx hkp (hnS bs hsF) (fun k hk => hnS k (hsr.1 k hk).1) fun c hc => hnS _ ((hsk c hc).2.2 _ (hsk c hc).2.1).1
  have hrsw : ∀ w', Keep (fun k => Fd k ∨ k = sb ∨ path.ownBlock = some k) w w' → ∀ s ∈ ks, Rep w' s.cb s.y (fun k => s.F k ∧ k ≠ s.kb) := fun w' hkp s hsm =>
    (hsc s hsm).step fun k hF ht => hkp.block k ht.lt (hnS k ((hsk s hsm).2.2 k hF.1).1)
  refine walk38_map _ w hk45 hk46 ?_
  intro w0 hb0
  refine (walkMap47 (r := rd) (m := m) w0 hV (by omega) (n := n) (by omega) (hp.shape (Shape9.of_below hb0))
    (fun P w' => (∃ kd1 C K, (nm.data.toList ∈ P ∧ kd1 = cutK nm kd ∨ nm.data.toList ∉ P ∧ kd1 = kd) ∧ MI w.heap.size d bd kd1 (cutK nm ks) Fd Fs P C K w' ∧ K.length ≤ kd.length + P.length) ∧ Keep (fun k => Fd k ∨ k = sb ∨ path.ownBlock = some k) w w' ∧ Shape9 w w' ∧ SrcAt w' sb (some ⟨rd, 0, none⟩) (some ⟨rs, 0, none⟩) ∧ w'.heap[w0.heap.size]? = some (.cells #[V, .pointer none, .slice (some ⟨sb, 0, none⟩) 2 c, path, .bool false, .bool false, mo] 66 (0, 0)))
    (fun ns => (∀ x, x ∈ ns ↔ (∃ k ∈ kd, k.key.data.toList = x) ∨ ∃ k ∈ ks, k.key.data.toList = x) ∧ ns.length ≤ 2000) ?_ ?_ ?_ ?_ ?_).mono ?_
  · exact fun w1 hb1 => visitMap_d w1 (hs.under (hb0.trans (hb1.mono hb0.size))) (hmqd.under (hb0.trans (hb1.mono hb0.size))) (.inr (hmqs.under (hb0.trans (hb1.mono hb0.size))))
  · intro w1 hb1 hbx
    have hb2 := hb0.trans (hb1.mono hb0.size)
    refine (setDest57 (q := some ⟨rd, 0, none⟩) w1 (hs.under hb2)).mono ?_
    rintro e w2 ⟨rfl, hs2, hk2⟩
    have hkw2 : Keep (fun k => k = sb) w w2 := (Keep.of_below hb2 _).trans hk2 fun k _ h => h
    refine ⟨rfl, ⟨kd, Cd, kd, .inr ⟨by simp, rfl⟩, (MI.start h hr hd hk hc hnod htd).frame hs.spares hkw2, by simp⟩, hkw2.mono fun k _ h => .inr (.inl h), (Shape9.of_below hb2).trans (Shape9.of_keep hk2 ?_), hs2, hk2.at_ hbx ?_⟩
    · rintro k cur rfl hc
      obtain ⟨cur', h1, _⟩ := hs.under hb2
      rw [h1] at hc
      injection hc with hc
      injection hc with _ hc
      cases hc
    · intro e
      have := hs.lt
      have := hb0.size
      omega
  · exact fun P w' h => h.2.2.2.2
  · rintro w' ⟨⟨kd1, C, K, hkd1, hMI, hKl⟩, hkk, hsh, hsr', hbx⟩
    have hkd1 : kd1 = kd := by
      rcases hkd1 with ⟨h, _⟩ | ⟨_, h⟩
      · simp at h
      · exact h
    subst hkd1
    have hKl' : K.length ≤ 1000 := by simp at hKl; omega
    have hKk : ∀ key, key ∈ K.map (·.key) ↔ key ∈ kd1.map (·.key) := fun key => by rw [hMI.keys key]; simp
    have hd' : SrcKeys w' (some ⟨rd, 0, none⟩) (K.map (·.key)) := SrcKeys.of_map (hT.rnb hkk hrnd) hMI.map (by omega)
    have hs' : SrcKeys w' (some ⟨rs, 0, none⟩) (ks.map (·.key)) := SrcKeys.of_map (hT.rnb hkk hrns) (hmsw w' hkk) (by omega)
    refine (fieldNames58 sortC w' hsr' hd' hs' (fun s hs => by have := (hkeys s ((hKk s).1 hs)).2.1; unfold maxLen; omega) (fun s hs => by have := (gkeys s hs).2.1; unfold maxLen; omega) (by simp; omega) (by simp; omega)).mono ?_
    rintro e w'' ⟨g, cap, ns, rfl, hnod', hmem, hnl, hrow, hB⟩
    refine ⟨g, cap, ns, rfl, hnod', ⟨fun x => ?_, by simp at hnl; omega⟩, hrow, ⟨kd1, C, K, .inr ⟨by simp, rfl⟩, hMI.frame (Spares.none _) (Keep.of_below hB _), hKl⟩, hkk.then hB, hsh.trans (Shape9.of_below hB), hsr'.under hB, (hB.block _ (lt_of_block hbx)).trans hbx⟩
    rw [hmem x]
    constructor
    · rintro (⟨s, h1, h2⟩ | ⟨s, h1, h2⟩)
      · obtain ⟨k, hkm, rfl⟩ := List.mem_map.1 ((hKk s).1 h1)
        exact .inl ⟨k, hkm, h2⟩
      · obtain ⟨k, hkm, rfl⟩ := List.mem_map.1 h1
        exact .inr ⟨k, hkm, h2⟩
    · rintro (⟨k, hkm, h2⟩ | ⟨k, hkm, h2⟩)
      · exact .inl ⟨k.key, (hKk _).2 (List.mem_map_of_mem hkm), h2⟩
      · exact .inr ⟨k.key, List.mem_map_of_mem hkm, h2⟩
  · rintro P name rest w' ⟨hNm, hNl⟩ hNd ⟨⟨kd1, C, K, hkd1, hMI, hKl⟩, hkk, hsh, hsr', hbx⟩
    have hPl : P.length ≤ 2000 := by simp at hNl; omega
    have hnP : name ∉ P := by
      intro hm
      rw [List.nodup_append] at hNd
      exact hNd.2.2 name hm name (by simp) rfl
    have hpl : ∀ k, path.ownBlock = some k → k < w0.heap.size := fun k hk => by have := hp.lt k hk; have := hb0.size; omega
    have hpk := hp.shape hsh
    have hr0' := hT.rnb hkk hrnd
    have hksq : KidsQ w' (some ⟨rs, 0, none⟩) ks := .inr ⟨rs, bs, Cs, rfl, hT.rnb hkk hrns, hmsw w' hkk⟩
    have hkn : ∀ {key : ByteArray}, key.data.toList = name → key = ⟨name.toArray⟩ := fun h => key_of h
    have hsbT : ∀ {T : Nat → Prop}, Spares w' T → T sb → path.ownBlock ≠ some sb := fun _ _ => src_ne_path hsr' hpk
    have hsbtb : ¬ TB w' sb := fun h => hsr'.spares sb h rfl
    have hbxtb : ¬ TB w' w0.heap.size := by
      rintro ⟨cs, t, h1, h2⟩
      rw [hbx] at h1
      injection h1 with h1
      injection h1 with _ h1
      subst h1
      simp at h2
    have hwl : w.heap.size ≤ w'.heap.size := hkk.size
    have hbtb := hMI.node.tb
    have hCtb : ∀ k, C.ownBlock = some k → TB w' k := fun k hC => (hMI.row.bound.1 k hC).2
    by_cases hnm : nm.data.toList = name
    · have hkd1' : kd1 = kd := by
        rcases hkd1 with ⟨h, _⟩ | ⟨_, h⟩
        · rw [hnm] at h; exact absurd h hnP
        · exact h
      subst hkd1'
      have hnmk : (⟨name.toArray⟩ : ByteArray) = nm := (hkn hnm).symm
      obtain ⟨s0, hs0, hs0n⟩ := List.mem_map.1 ghas
      obtain ⟨s, hfs, hsm, hskey⟩ := find_key (name := nm) ⟨s0, hs0, hs0n⟩
      obtain ⟨z1, z2⟩ := gnull s.y (zip_kid.2 ⟨s, hsm, hskey, rfl⟩)
      have hnull : ∃ val, NodeB w' s.cb 8 nullTag val nilS := by
        have hrp := hrsw w' hkk s hsm
        generalize s.y = z at z1 z2 hrp
        cases hrp with
        | sc _ text tag _ h hF => exact ⟨text, by have : tag = nullTag := z2; subst this; exact h⟩
        | sq _ C kids _ h hF hr hd hk hc => simp at z1
        | mp _ C kids _ h hF hr hd hk hc => simp at z1
      have hne' : (⟨name.toArray⟩ : ByteArray).toList.isEmpty = false := by rw [hnmk]; exact (gkeys nm ghas).1
      rw [← hnmk] at hfs
      refine (null_step (d := d) (wb := w0.heap.size) hsr' hr0' hMI.map hksq hbx hfs hne' (fun kid hkf => ?_) hnull hV (by omega) hpk (by omega)).mono ?_
      · have hmem : kid ∈ K := List.mem_of_find?_eq_some hkf
        have hkey : kid.key = ⟨name.toArray⟩ := hasKey_iff.1 (List.find?_some hkf)
        have hold : kid ∈ kd1 := hMI.old kid hmem (by rw [hkey]; exact hnP)
        exact ⟨hitems _ (List.mem_map_of_mem hold), _, hMI.rep kid hmem⟩
      rintro e w1 ⟨g, cap, sm, rfl, h1, h2, h3⟩
      refine ⟨g, cap, sm, rfl, h1, h2, fun path' w2 happ => (h3 path' w2 happ).mono ?_⟩
      rintro e w3 ⟨q, rfl, h4, h5, h6⟩
      refine ⟨q, rfl, h4, h5, fun fb w4 hb4 hc4 => (h6 fb w4 hb4 hc4).mono ?_⟩
      rintro e w5 ⟨q', rfl, hcl, hk5, hsh5⟩
      have hMI5 : ∃ C' K', MI w.heap.size d bd (cutK nm kd1) (cutK nm ks) Fd Fs (P ++ [nm.data.toList]) C' K' w5 ∧ K'.length ≤ K.length := by
        rcases hcl with ⟨hno, hkq⟩ | ⟨l1, kid, l2, C', q1, q2, q3, q4, q5⟩
        · refine ⟨C, K, hMI.skip hnks (fun hm => ?_) hpk.spares hkq, Nat.le_refl _⟩
          obtain ⟨a, ha, hak⟩ := List.mem_map.1 hm
          have := List.find?_eq_none.1 hno a ha
          exact this (hasKey_iff.2 (hak.trans hnmk.symm))
        · exact ⟨C', l1 ++ l2, hMI.cut (by rw [hnm]; exact hnP) hnks q1 ((hasKey_iff.1 q2).trans hnmk) q3 q4 q5 hpk.spares hk5, by rw [q1]; simp⟩
      obtain ⟨C', K', hMI5, hl5⟩ := hMI5
      rw [hnm] at hMI5
      refine ⟨q', rfl, ⟨⟨_, C', K', .inl ⟨by simp [hnm], rfl⟩, hMI5, by simp; omega⟩, hkk.trans hk5 ?_, hsh.trans hsh5, hk5.src hsr' ?_, hk5.at_ hbx ?_⟩, hk5.mono ?_⟩
      · rintro k hkl (rfl | h | h)
        · exact .inl hFdr
        · exact (hMI.row.1 k h).1.elim .inl fun h => by omega
        · exact .inr (.inr h)
      · rintro (h | h | h)
        · exact hsbtb (by rw [h]; exact hbtb)
        · exact hsbtb (hCtb _ h)
        · exact src_ne_path hsr' hpk h
      · rintro (h | h | h)
        · exact hbxtb (by rw [h]; exact hbtb)
        · exact hbxtb (hCtb _ h)
        · have := hpl _ h; omega
      · rintro k _ (h | h | h)
        · exact .inr (by rw [h]; exact hbtb)
        · exact .inr (hCtb _ h)
        · exact .inl (hpl k h)
    have hnmk : (⟨name.toArray⟩ : ByteArray) ≠ nm := fun e => hnm (by rw [← e])
    have hkd1' : nm.data.toList ∈ P ++ [name] ∧ kd1 = cutK nm kd ∨ nm.data.toList ∉ P ++ [name] ∧ kd1 = kd := by
      rcases hkd1 with ⟨h, h'⟩ | ⟨h, h'⟩
      · exact .inl ⟨by simp [h], h'⟩
      · exact .inr ⟨by simp [h, hnm], h'⟩
    have hsub : ∀ a ∈ kd1, a ∈ kd := fun a ha => by
      rcases hkd1 with ⟨_, rfl⟩ | ⟨_, rfl⟩
      · exact (mem_cutK.1 ha).1
      · exact ha
    have hsup : ∀ a ∈ kd, a.key ≠ nm → a ∈ kd1 := fun a ha hne => by
      rcases hkd1 with ⟨_, rfl⟩ | ⟨_, rfl⟩
      · exact mem_cutK.2 ⟨ha, hne⟩
      · exact ha
    have hkdF1 : ∀ a ∈ kd1, ∀ k, a.F k → Fd k ∧ k < w.heap.size := fun a ha => hkdF a (hsub a ha)
    by_cases hkd : (⟨name.toArray⟩ : ByteArray) ∈ kd.map (·.key)
    · have hkd' : (⟨name.toArray⟩ : ByteArray) ∈ kd1.map (·.key) := by
        obtain ⟨a, ha, hak⟩ := List.mem_map.1 hkd
        exact List.mem_map.2 ⟨a, hsup a ha (by rw [hak]; exact hnmk), hak⟩
      have hKm : (⟨name.toArray⟩ : ByteArray) ∈ K.map (·.key) := (hMI.keys _).2 (.inl hkd')
      obtain ⟨k0, hk0, hk0n⟩ := List.mem_map.1 hKm
      obtain ⟨kid, hf, hmem, hkey⟩ := find_key ⟨k0, hk0, hk0n⟩
      have hkl : kid.key.data.toList = name := by rw [hkey]
      have hold : kid ∈ kd1 := hMI.old kid hmem (by rw [hkl]; exact hnP)
      have hne' : (⟨name.toArray⟩ : ByteArray).toList.isEmpty = false := (hkeys _ hkd).1
      have hgk : Good d kid.y := hitems _ (List.mem_map_of_mem (hsub kid hold))
      by_cases hks : (⟨name.toArray⟩ : ByteArray) ∈ ks.map (·.key)
      · obtain ⟨s0, hs0, hs0n⟩ := List.mem_map.1 hks
        obtain ⟨s, hfs, hsm, hskey⟩ := find_key ⟨s0, hs0, hs0n⟩
        have hgs' : Good d s.y := gitems _ _ (zip_kid.2 ⟨s, hsm, hskey, rfl⟩) hnmk
        have hsm1 : s ∈ cutK nm ks := mem_cutK.2 ⟨hsm, by rw [hskey]; exact hnmk⟩
        have halk : AlikeN d kid.y s.y := hal ⟨name.toArray⟩ kid.y s.y hnmk (zip_kid.2 ⟨kid, hsub kid hold, hkey, rfl⟩) (zip_kid.2 ⟨s, hsm, hskey, rfl⟩)
        have hrkb := (hMI.rep kid hmem).bound
        have hrsb := (hrsw w' hkk s hsm).bound
        refine (both_step (walk_both d) (wb := w0.heap.size) hsr' hr0' hMI.map hksq hbx hf hfs hne' hgk hgs' halk hrkb hrsb (fun k h => h.2) (fun k h => h.2) (fun k h1 h2 => hdis k (hkdF1 kid hold k h1.1.1).1 (hksF s hsm k h2.1.1).1)
          (fun h => ((hMI.kid kid hmem).2.2 _ h.1.1).2.1 rfl) (fun k hC h => ((hMI.kid kid hmem).2.2 _ h.1.1).2.2.1 hC) (fun c' hc' h => ?_) hV (by omega) hpk (by omega)).mono ?_
        · by_cases he : c'.key = kid.key
          · have := kid_unique hMI.nodup hc' hmem he
            subst this
            exact h.1.2 rfl
          · exact hMI.dis c' hc' kid hmem he _ (hMI.kid c' hc').2.1 h.1.1
        rintro e w1 ⟨g, cap, sm, rfl, h1, h2, h3⟩
        refine ⟨g, cap, sm, rfl, h1, h2, fun path' w2 happ => (h3 path' w2 happ).mono ?_⟩
        rintro e w3 ⟨q, rfl, h4, h5, h6⟩
        refine ⟨q, rfl, h4, h5, fun fb w4 hb4 hc4 => (h6 fb w4 hb4 hc4).mono ?_⟩
        rintro e w5 ⟨q', rfl, ⟨ym, hM, hrep5⟩, hk5, hsh5⟩
        have hMI5 := hMI.both (w' := w5) (s := s) (by rw [hkl]; exact hnP) hmem hsm1 (hskey.trans hkey.symm) hkdF1 hksF1 hdis hksd1 hM hpk.spares (hk5.mono fun k _ h => h.imp (fun h => h.1) id) (hrep5.mono fun k h => h.imp (fun h => h.1) (fun h => h.imp (fun h => h.1.1) id))
        rw [hkl] at hMI5
        refine ⟨q', rfl, ⟨⟨_, C, _, hkd1', hMI5, by simp; omega⟩, hkk.trans hk5 fun k _ h => h.elim (fun h => .inl (hkdF1 kid hold k h.1.1).1) fun h => .inr (.inr h), hsh.trans hsh5, hk5.src hsr' fun h => h.elim (fun h => hsbtb h.2) (src_ne_path hsr' hpk), hk5.at_ hbx fun h => h.elim (fun h => hbxtb h.2) fun h => by have := hpl _ h; omega⟩, hk5.mono fun k _ h => h.elim (fun h => .inr h.2) fun h => .inl (hpl k h)⟩
      · have hks1 : kid.key ∉ (cutK nm ks).map (·.key) := fun hm => by
          obtain ⟨a, ha, hak⟩ := List.mem_map.1 hm
          exact hks (List.mem_map.2 ⟨a, (mem_cutK.1 ha).1, hak.trans hkey⟩)
        refine (self_step (walk_self d) (wb := w0.heap.size) hsr' hr0' hMI.map hksq (.inl (find_none_key hks)) hbx hf hne' hgk ⟨_, hMI.rep kid hmem⟩ hV (by omega) hpk (by omega)).mono ?_
        rintro e w1 ⟨g, cap, sm, rfl, h1, h2, h3⟩
        refine ⟨g, cap, sm, rfl, h1, h2, fun path' w2 happ => (h3 path' w2 happ).mono ?_⟩
        rintro e w3 ⟨q, rfl, h4, h5, h6⟩
        refine ⟨q, rfl, h4, h5, fun fb w4 hb4 hc4 => (h6 fb w4 hb4 hc4).mono ?_⟩
        rintro e w5 ⟨q', rfl, hk5, hsh5⟩
        refine ⟨q', rfl, ⟨⟨_, C, K, hkd1', hMI.self hnP hmem hkl hks1 hpk.spares hk5, by simp; omega⟩, hkk.trans hk5 fun k _ h => .inr (.inr h), hsh.trans hsh5, hk5.src hsr' (src_ne_path hsr' hpk), hk5.at_ hbx fun h => by have := hpl _ h; omega⟩, hk5.mono fun k _ h => .inl (hpl k h)⟩
    · have hks : (⟨name.toArray⟩ : ByteArray) ∈ ks.map (·.key) := by
        rcases (hNm name).1 (by simp) with ⟨k, hkm, he⟩ | ⟨k, hkm, he⟩
        · exact absurd (List.mem_map.2 ⟨k, hkm, hkn he⟩) hkd
        · exact List.mem_map.2 ⟨k, hkm, hkn he⟩
      have hkd1n : (⟨name.toArray⟩ : ByteArray) ∉ kd1.map (·.key) := fun hm => by
        obtain ⟨a, ha, hak⟩ := List.mem_map.1 hm
        exact hkd (List.mem_map.2 ⟨a, hsub a ha, hak⟩)
      have hKm : (⟨name.toArray⟩ : ByteArray) ∉ K.map (·.key) := fun h => by
        rcases (hMI.keys _).1 h with h | ⟨_, h⟩
        · exact hkd1n h
        · exact hnP (by simpa using h)
      obtain ⟨s0, hs0, hs0n⟩ := List.mem_map.1 hks
      obtain ⟨s, hfs, hsm, hskey⟩ := find_key ⟨s0, hs0, hs0n⟩
      have hne' : (⟨name.toArray⟩ : ByteArray).toList.isEmpty = false := (gkeys _ hks).1
      have hgs' : Good d s.y := gitems _ _ (zip_kid.2 ⟨s, hsm, hskey, rfl⟩) hnmk
      have hsm1 : s ∈ cutK nm ks := mem_cutK.2 ⟨hsm, by rw [hskey]; exact hnmk⟩
      refine (new_step (walk_self d) (wb := w0.heap.size) hsr' hr0' hMI.map hksq hbx (find_none_key hKm) hfs hne' hgs' ⟨_, hrsw w' hkk s hsm⟩ hV (by omega) hpk (by omega) (by omega)).mono ?_
      rintro e w1 ⟨g, cap, sm, rfl, h1, h2, h3⟩
      refine ⟨g, cap, sm, rfl, h1, h2, fun path' w2 happ => (h3 path' w2 happ).mono ?_⟩
      rintro e w3 ⟨q, rfl, h4, h5, h6⟩
      refine ⟨q, rfl, h4, h5, fun fb w4 hb4 hc4 => (h6 fb w4 hb4 hc4).mono ?_⟩
      rintro e w5 ⟨q', rfl, ⟨kb, C', f1, f2, f3, f4, f5⟩, hk5, hsh5⟩
      have hMI5 := hMI.new (key := ⟨name.toArray⟩) (by simpa using hnP) hsm1 hskey hkd1n (fun a ha k hF => (hkdF1 a ha k hF).1) hksF1 hdis hksd1 (hrsw w' hkk s hsm) hFdr f1 f2 f3 f4 f5 hpk.spares hk5
      have hMI5' : MI w.heap.size d bd kd1 (cutK nm ks) Fd Fs (P ++ [name]) C' _ w5 := hMI5
      refine ⟨q', rfl, ⟨⟨_, C', _, hkd1', hMI5', by simp; omega⟩, hkk.trans hk5 ?_, hsh.trans hsh5, hk5.src hsr' ?_, hk5.at_ hbx ?_⟩, hk5.mono ?_⟩
      · rintro k hkl (rfl | h | h)
        · exact .inl hFdr
        · exact (hMI.row.1 k h).1.elim .inl fun h => by omega
        · exact .inr (.inr h)
      · rintro (h | h | h)
        · exact hsbtb (by rw [h]; exact hbtb)
        · exact hsbtb (hCtb _ h)
        · exact src_ne_path hsr' hpk h
      · rintro (h | h | h)
        · exact hbxtb (by rw [h]; exact hbtb)
        · exact hbxtb (hCtb _ h)
        · have := hpl _ h; omega
      · rintro k _ (h | h | h)
        · exact .inr (by rw [h]; exact hbtb)
        · exact .inr (hCtb _ h)
        · exact .inl (hpl k h)
  · rintro e w' ⟨rfl, ns, _, ⟨hns, _⟩, ⟨kd1, C, K, hkd1, hMI, _⟩, hkk, hsh, _, _⟩
    have hkd1' : kd1 = cutK nm kd := by
      rcases hkd1 with ⟨_, h⟩ | ⟨h, _⟩
      · exact h
      · obtain ⟨a, ha, hak⟩ := List.mem_map.1 ghas
        exact absurd ((hns _).2 (.inr ⟨a, ha, by rw [hak]⟩)) h
    subst hkd1'
    obtain ⟨ym, hM, hR⟩ := hMI.done2 (fun x hx => (hns x).2 (by
      rcases hx with ⟨a, ha, h⟩ | ⟨a, ha, h⟩
      · exact .inl ⟨a, (mem_cutK.1 ha).1, h⟩
      · exact .inr ⟨a, (mem_cutK.1 ha).1, h⟩)) hFdr
    refine ⟨_, rfl, rd, ym, rfl, hT.rnb hkk hrnd, ?_, hR, hsh, hkk⟩
    rw [cutN_kids, cutN_kids]
    exact hM
end Go.Proofs.YtghmajlfmoggfaaGreat
