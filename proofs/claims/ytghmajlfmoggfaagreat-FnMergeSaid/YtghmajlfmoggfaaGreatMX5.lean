import Derived.Test.YtghmajlfmoggfaaGreatMX0
import Derived.Test.YtghmajlfmoggfaaGreatMX1
set_option linter.unusedSimpArgs false
set_option linter.unusedVariables false
namespace Go.Proofs.YtghmajlfmoggfaaGreat.PFnMerge
open Go.RowKit Go.Proofs.YtghmajlfmoggfaaGreatW.PrintWords Go.Proofs.YtghmajlfmoggfaaGreatW.PrintLast
mutual
def spec_Same.j0 : Nat → Bool → Bool → Int → ByteArray → ByteArray → List ByteArray → List (S25) → Int → ByteArray → ByteArray → List ByteArray → List (S25) → Option (Bool)
  | 0, _, _, _, _, _, _, _, _, _, _, _, _ => none
  | k + 1, x2, x50, x257000, x257001, x257002, x257003, x257004, x258000, x258001, x258002, x258003, x258004 => if x50 = true then (some false) else (spec_Same.l0 k x2 (x257004.length : Int) 0 x257000 x257001 x257002 x257003 x257004 x258000 x258001 x258002 x258003 x258004)
def spec_Same.l0 : Nat → Bool → Int → Int → Int → ByteArray → ByteArray → List ByteArray → List (S25) → Int → ByteArray → ByteArray → List ByteArray → List (S25) → Option (Bool)
  | 0, _, _, _, _, _, _, _, _, _, _, _, _, _ => none
  | k + 1, x2, x53, x54, x257000, x257001, x257002, x257003, x257004, x258000, x258001, x258002, x258003, x258004 => if x54 < x53 then (if x257000 = 2 then (if 0 ≤ x54 then (if x54 < (x257003.length : Int) then ((spec_Place.f k x258003 (rdOf ByteArray.empty x257003 x54)).bind fun t259 => (if t259 < 0 then (spec_Same.j2 k x2 x54 t259 x53 x54 true x257000 x257001 x257002 x257003 x257004 x258000 x258001 x258002 x258003 x258004) else (if t259 = x54 then (spec_Same.j2 k x2 x54 t259 x53 x54 false x257000 x257001 x257002 x257003 x257004 x258000 x258001 x258002 x258003 x258004) else (spec_Same.j2 k x2 x54 t259 x53 x54 (!x2) x257000 x257001 x257002 x257003 x257004 x258000 x258001 x258002 x258003 x258004)))) else (none)) else (none)) else (if 0 ≤ x54 then (if x54 < (x257004.length : Int) then (if x54 < (x258004.length : Int) then ((spec_Same.f k ((rd_T25 x257004 x54).f0) ((rd_T25 x257004 x54).f1) ((rd_T25 x257004 x54).f2) ((rd_T25 x257004 x54).f3) ((rd_T25 x257004 x54).f4) ((rd_T25 x258004 x54).f0) ((rd_T25 x258004 x54).f1) ((rd_T25 x258004 x54).f2) ((rd_T25 x258004 x54).f3) ((rd_T25 x258004 x54).f4) x2).bind fun t265 => (if t265 = true then (spec_Same.l0 k x2 x53 (wrap64 (x54 + 1)) x257000 x257001 x257002 x257003 x257004 x258000 x258001 x258002 x258003 x258004) else (some false))) else (none)) else (none)) else (none))) else (some true)
def spec_Same.j2 : Nat → Bool → Int → Int → Int → Int → Bool → Int → ByteArray → ByteArray → List ByteArray → List (S25) → Int → ByteArray → ByteArray → List ByteArray → List (S25) → Option (Bool)
  | 0, _, _, _, _, _, _, _, _, _, _, _, _, _, _, _, _ => none
  | k + 1, x2, x7, x8, x53, x54, x79, x257000, x257001, x257002, x257003, x257004, x258000, x258001, x258002, x258003, x258004 => if x79 = true then (some false) else (if 0 ≤ x7 then (if x7 < (x257004.length : Int) then (if 0 ≤ x8 then (if x8 < (x258004.length : Int) then ((spec_Same.f k ((rd_T25 x257004 x7).f0) ((rd_T25 x257004 x7).f1) ((rd_T25 x257004 x7).f2) ((rd_T25 x257004 x7).f3) ((rd_T25 x257004 x7).f4) ((rd_T25 x258004 x8).f0) ((rd_T25 x258004 x8).f1) ((rd_T25 x258004 x8).f2) ((rd_T25 x258004 x8).f3) ((rd_T25 x258004 x8).f4) x2).bind fun t262 => (if t262 = true then (spec_Same.l0 k x2 x53 (wrap64 (x54 + 1)) x257000 x257001 x257002 x257003 x257004 x258000 x258001 x258002 x258003 x258004) else (some false))) else (none)) else (none)) else (none)) else (none))
def spec_Same.f : Nat → Int → ByteArray → ByteArray → List ByteArray → List (S25) → Int → ByteArray → ByteArray → List ByteArray → List (S25) → Bool → Option (Bool)
  | 0, _, _, _, _, _, _, _, _, _, _, _ => none
  | k + 1, a0_0, a0_1, a0_2, l0_3, l0_4, a1_0, a1_1, a1_2, l1_3, l1_4, a2 => if a0_0 = a1_0 then (if a0_1.toList = a1_1.toList then (if a0_0 = 1 then (if a0_2.toList = a1_2.toList then (if (l0_3.length : Int) = (l1_3.length : Int) then (spec_Same.j0 k a2 ((l0_4.length : Int) != (l1_4.length : Int)) a0_0 a0_1 a0_2 l0_3 l0_4 a1_0 a1_1 a1_2 l1_3 l1_4) else (spec_Same.j0 k a2 true a0_0 a0_1 a0_2 l0_3 l0_4 a1_0 a1_1 a1_2 l1_3 l1_4)) else (spec_Same.j0 k a2 true a0_0 a0_1 a0_2 l0_3 l0_4 a1_0 a1_1 a1_2 l1_3 l1_4)) else (if (l0_3.length : Int) = (l1_3.length : Int) then (spec_Same.j0 k a2 ((l0_4.length : Int) != (l1_4.length : Int)) a0_0 a0_1 a0_2 l0_3 l0_4 a1_0 a1_1 a1_2 l1_3 l1_4) else (spec_Same.j0 k a2 true a0_0 a0_1 a0_2 l0_3 l0_4 a1_0 a1_1 a1_2 l1_3 l1_4))) else (spec_Same.j0 k a2 true a0_0 a0_1 a0_2 l0_3 l0_4 a1_0 a1_1 a1_2 l1_3 l1_4)) else (spec_Same.j0 k a2 true a0_0 a0_1 a0_2 l0_3 l0_4 a1_0 a1_1 a1_2 l1_3 l1_4)
end
theorem spec_Same.mono_l : ∀ k, (∀ y0 y1 y2 y3 y4 y5 y6 y7 y8 y9 y10, LeO (spec_Same.f k y0 y1 y2 y3 y4 y5 y6 y7 y8 y9 y10) (spec_Same.f (k + 1) y0 y1 y2 y3 y4 y5 y6 y7 y8 y9 y10)) ∧ (∀ y0 y1 y2 y3 y4 y5 y6 y7 y8 y9 y10 y11, LeO (spec_Same.j0 k y0 y1 y2 y3 y4 y5 y6 y7 y8 y9 y10 y11) (spec_Same.j0 (k + 1) y0 y1 y2 y3 y4 y5 y6 y7 y8 y9 y10 y11)) ∧ (∀ y0 y1 y2 y3 y4 y5 y6 y7 y8 y9 y10 y11 y12, LeO (spec_Same.l0 k y0 y1 y2 y3 y4 y5 y6 y7 y8 y9 y10 y11 y12) (spec_Same.l0 (k + 1) y0 y1 y2 y3 y4 y5 y6 y7 y8 y9 y10 y11 y12)) ∧ (∀ y0 y1 y2 y3 y4 y5 y6 y7 y8 y9 y10 y11 y12 y13 y14 y15, LeO (spec_Same.j2 k y0 y1 y2 y3 y4 y5 y6 y7 y8 y9 y10 y11 y12 y13 y14 y15) (spec_Same.j2 (k + 1) y0 y1 y2 y3 y4 y5 y6 y7 y8 y9 y10 y11 y12 y13 y14 y15))
  | 0 => ⟨fun _ _ _ _ _ _ _ _ _ _ _ r h => by simp [spec_Same.f] at h, fun _ _ _ _ _ _ _ _ _ _ _ _ r h => by simp [spec_Same.j0] at h, fun _ _ _ _ _ _ _ _ _ _ _ _ _ r h => by simp [spec_Same.l0] at h, fun _ _ _ _ _ _ _ _ _ _ _ _ _ _ _ _ r h => by simp [spec_Same.j2] at h⟩
  | k + 1 => by
    obtain ⟨ih0, ih1, ih2, ih3⟩ := spec_Same.mono_l k
    refine ⟨?_, ?_, ?_, ?_⟩
    · intro y0 y1 y2 y3 y4 y5 y6 y7 y8 y9 y10
      unfold spec_Same.f
      repeat' first
      | (with_reducible exact ih0 _ _ _ _ _ _ _ _ _ _ _)
      | (with_reducible exact ih1 _ _ _ _ _ _ _ _ _ _ _ _)
      | (with_reducible exact ih2 _ _ _ _ _ _ _ _ _ _ _ _ _)
      | (with_reducible exact ih3 _ _ _ _ _ _ _ _ _ _ _ _ _ _ _ _)
      | (with_reducible exact spec_Place.mono _ _ _)
      | (with_reducible exact LeO.refl _)
      | (with_reducible exact LeO.none _)
      | (with_reducible refine LeO.ite ?_ ?_)
      | (with_reducible refine LeO.bind ?_ (fun _ => ?_))
      | exact ih0 _ _ _ _ _ _ _ _ _ _ _
      | exact ih1 _ _ _ _ _ _ _ _ _ _ _ _
      | exact ih2 _ _ _ _ _ _ _ _ _ _ _ _ _
      | exact ih3 _ _ _ _ _ _ _ _ _ _ _ _ _ _ _ _
      | exact spec_Place.mono _ _ _
      | exact LeO.none _
      | refine LeO.ite ?_ ?_
      | refine LeO.bind ?_ (fun _ => ?_)
    · intro y0 y1 y2 y3 y4 y5 y6 y7 y8 y9 y10 y11
      unfold spec_Same.j0
      repeat' first
      | (with_reducible exact ih0 _ _ _ _ _ _ _ _ _ _ _)
      | (with_reducible exact ih1 _ _ _ _ _ _ _ _ _ _ _ _)
      | (with_reducible exact ih2 _ _ _ _ _ _ _ _ _ _ _ _ _)
      | (with_reducible exact ih3 _ _ _ _ _ _ _ _ _ _ _ _ _ _ _ _)
      | (with_reducible exact spec_Place.mono _ _ _)
      | (with_reducible exact LeO.refl _)
      | (with_reducible exact LeO.none _)
      | (with_reducible refine LeO.ite ?_ ?_)
      | (with_reducible refine LeO.bind ?_ (fun _ => ?_))
      | exact ih0 _ _ _ _ _ _ _ _ _ _ _
      | exact ih1 _ _ _ _ _ _ _ _ _ _ _ _
      | exact ih2 _ _ _ _ _ _ _ _ _ _ _ _ _
      | exact ih3 _ _ _ _ _ _ _ _ _ _ _ _ _ _ _ _
      | exact spec_Place.mono _ _ _
      | exact LeO.none _
      | refine LeO.ite ?_ ?_
      | refine LeO.bind ?_ (fun _ => ?_)
    · intro y0 y1 y2 y3 y4 y5 y6 y7 y8 y9 y10 y11 y12
      unfold spec_Same.l0
      repeat' first
      | (with_reducible exact ih0 _ _ _ _ _ _ _ _ _ _ _)
      | (with_reducible exact ih1 _ _ _ _ _ _ _ _ _ _ _ _)
      | (with_reducible exact ih2 _ _ _ _ _ _ _ _ _ _ _ _ _)
      | (with_reducible exact ih3 _ _ _ _ _ _ _ _ _ _ _ _ _ _ _ _)
      | (with_reducible exact spec_Place.mono _ _ _)
      | (with_reducible exact LeO.refl _)
      | (with_reducible exact LeO.none _)
      | (with_reducible refine LeO.ite ?_ ?_)
      | (with_reducible refine LeO.bind ?_ (fun _ => ?_))
      | exact ih0 _ _ _ _ _ _ _ _ _ _ _
      | exact ih1 _ _ _ _ _ _ _ _ _ _ _ _
      | exact ih2 _ _ _ _ _ _ _ _ _ _ _ _ _
      | exact ih3 _ _ _ _ _ _ _ _ _ _ _ _ _ _ _ _
      | exact spec_Place.mono _ _ _
      | exact LeO.none _
      | refine LeO.ite ?_ ?_
      | refine LeO.bind ?_ (fun _ => ?_)
    · intro y0 y1 y2 y3 y4 y5 y6 y7 y8 y9 y10 y11 y12 y13 y14 y15
      unfold spec_Same.j2
      repeat' first
      | (with_reducible exact ih0 _ _ _ _ _ _ _ _ _ _ _)
      | (with_reducible exact ih1 _ _ _ _ _ _ _ _ _ _ _ _)
      | (with_reducible exact ih2 _ _ _ _ _ _ _ _ _ _ _ _ _)
      | (with_reducible exact ih3 _ _ _ _ _ _ _ _ _ _ _ _ _ _ _ _)
      | (with_reducible exact spec_Place.mono _ _ _)
      | (with_reducible exact LeO.refl _)
      | (with_reducible exact LeO.none _)
      | (with_reducible refine LeO.ite ?_ ?_)
      | (with_reducible refine LeO.bind ?_ (fun _ => ?_))
      | exact ih0 _ _ _ _ _ _ _ _ _ _ _
      | exact ih1 _ _ _ _ _ _ _ _ _ _ _ _
      | exact ih2 _ _ _ _ _ _ _ _ _ _ _ _ _
      | exact ih3 _ _ _ _ _ _ _ _ _ _ _ _ _ _ _ _
      | exact spec_Place.mono _ _ _
      | exact LeO.none _
      | refine LeO.ite ?_ ?_
      | refine LeO.bind ?_ (fun _ => ?_)
theorem spec_Same.mono : ∀ a0 a1 a2 a3 a4 a5 a6 a7 a8 a9 a10 k, LeO (spec_Same.f k a0 a1 a2 a3 a4 a5 a6 a7 a8 a9 a10) (spec_Same.f (k + 1) a0 a1 a2 a3 a4 a5 a6 a7 a8 a9 a10) := by
  intro a0 a1 a2 a3 a4 a5 a6 a7 a8 a9 a10 k
  obtain ⟨ih0, ih1, ih2, ih3⟩ := spec_Same.mono_l k
  exact ih0 a0 a1 a2 a3 a4 a5 a6 a7 a8 a9 a10
def spec_Same.T8 : Bool × List (List Nat × List Nat) := (true, [([], []), ([0], [0]), ([], []), ([2], [2]), ([], []), ([3, 4], [3, 4]), ([5], [5]), ([1, 6], [1, 6]), ([7, 7, 0, 1, 2, 3, 4, 5, 6, 7], [7])])
def spec_Same.B8 : List Nat := [0, 1, 0, 4, 0, 28, 60, 127, 255]
theorem spec_Same.tab8 : rtab .any (opsOf Tryz.f14 8) = spec_Same.T8 := by kernel_rfl
theorem spec_Same.bits8 : waitsOk spec_Same.T8.2 spec_Same.B8 = true := by kernel_rfl
def spec_Same.T11 : Bool × List (List Nat × List Nat) := (true, [([], []), ([0], [0]), ([], []), ([1, 2], [1, 2]), ([3], [3]), ([], []), ([5], [5]), ([], []), ([6, 7], [6, 7]), ([8], [8]), ([], []), ([4, 9, 10], [4, 9, 10]), ([11], [11])])
def spec_Same.B11 : List Nat := [0, 1, 0, 7, 15, 0, 32, 0, 224, 480, 0, 2047, 4095]
theorem spec_Same.tab11 : rtab .any (opsOf Tryz.f14 11) = spec_Same.T11 := by kernel_rfl
theorem spec_Same.bits11 : waitsOk spec_Same.T11.2 spec_Same.B11 = true := by kernel_rfl
set_option maxHeartbeats 8000000 in
set_option maxRecDepth 100000 in
theorem spec_Same.calls (k : Nat) : ∀ (a0_0 : Int) (a0_1 : ByteArray) (a0_2 : ByteArray) (A0_3 : Option Addr) (c0_3 : Nat) (l0_3 : List ByteArray) (A0_4 : Option Addr) (c0_4 : Nat) (l0_4 : List (S25)) (a1_0 : Int) (a1_1 : ByteArray) (a1_2 : ByteArray) (A1_3 : Option Addr) (c1_3 : Nat) (l1_3 : List ByteArray) (A1_4 : Option Addr) (c1_4 : Nat) (l1_4 : List (S25)) (a2 : Bool) (r : Bool) (w : World) (hr0_3 : Kd.C Kd.string w A0_3 l0_3.length l0_3) (hc0_3 : l0_3.length ≤ c0_3) (hr0_4 : Kd.C k25 w A0_4 l0_4.length l0_4) (hc0_4 : l0_4.length ≤ c0_4) (hr1_3 : Kd.C Kd.string w A1_3 l1_3.length l1_3) (hc1_3 : l1_3.length ≤ c1_3) (hr1_4 : Kd.C k25 w A1_4 l1_4.length l1_4) (hc1_4 : l1_4.length ≤ c1_4) (h : spec_Same.f k a0_0 a0_1 a0_2 l0_3 l0_4 a1_0 a1_1 a1_2 l1_3 l1_4 a2 = some r),
    Calls Tryz.prog 14 #[.agg #[.int .i64 a0_0, .string a0_1, .string a0_2, .slice A0_3 l0_3.length c0_3, .slice A0_4 l0_4.length c0_4], .agg #[.int .i64 a1_0, .string a1_1, .string a1_2, .slice A1_3 l1_3.length c1_3, .slice A1_4 l1_4.length c1_4], .bool a2] w fun e w' => e = .returned (.bool r) ∧ Below w.heap.size w w' := by
  induction k using Nat.strongRecOn with
  | _ k ih =>
  intro a0_0 a0_1 a0_2 A0_3 c0_3 l0_3 A0_4 c0_4 l0_4 a1_0 a1_1 a1_2 A1_3 c1_3 l1_3 A1_4 c1_4 l1_4 a2 r w hr0_3 hc0_3 hr0_4 hc0_4 hr1_3 hc1_3 hr1_4 hc1_4 h
  cases k with
  | zero => exact absurd h (by simp [spec_Same.f])
  | succ k =>
  simp only [spec_Same.f] at h
  have hu25 := Tryz.underlying25
  have HR0_3 := Aside0.mk hr0_3
  have HC0_3 := Aside0.mk hc0_3
  clear hr0_3 hc0_3
  have HR0_4 := Aside0.mk hr0_4
  have HC0_4 := Aside0.mk hc0_4
  clear hr0_4 hc0_4
  have HR1_3 := Aside0.mk hr1_3
  have HC1_3 := Aside0.mk hc1_3
  clear hr1_3 hc1_3
  have HR1_4 := Aside0.mk hr1_4
  have HC1_4 := Aside0.mk hc1_4
  clear hr1_4 hc1_4
  have HB := Aside0.mk (Below.refl w.heap.size w)
  have H : (if a0_0 = a1_0 then (if a0_1.toList = a1_1.toList then (if a0_0 = 1 then (if a0_2.toList = a1_2.toList then (if (l0_3.length : Int) = (l1_3.length : Int) then (spec_Same.j0 k a2 ((l0_4.length : Int) != (l1_4.length : Int)) a0_0 a0_1 a0_2 l0_3 l0_4 a1_0 a1_1 a1_2 l1_3 l1_4) else (spec_Same.j0 k a2 true a0_0 a0_1 a0_2 l0_3 l0_4 a1_0 a1_1 a1_2 l1_3 l1_4)) else (spec_Same.j0 k a2 true a0_0 a0_1 a0_2 l0_3 l0_4 a1_0 a1_1 a1_2 l1_3 l1_4)) else (if (l0_3.length : Int) = (l1_3.length : Int) then (spec_Same.j0 k a2 ((l0_4.length : Int) != (l1_4.length : Int)) a0_0 a0_1 a0_2 l0_3 l0_4 a1_0 a1_1 a1_2 l1_3 l1_4) else (spec_Same.j0 k a2 true a0_0 a0_1 a0_2 l0_3 l0_4 a1_0 a1_1 a1_2 l1_3 l1_4))) else (spec_Same.j0 k a2 true a0_0 a0_1 a0_2 l0_3 l0_4 a1_0 a1_1 a1_2 l1_3 l1_4)) else (spec_Same.j0 k a2 true a0_0 a0_1 a0_2 l0_3 l0_4 a1_0 a1_1 a1_2 l1_3 l1_4)) = some r := h
  clear h
  have HC4 := Aside0.mk H
  clear H
  go_enter Tryz.func14, Tryz.ntmps14
  go_upto_region 1 with (first | ((with_reducible refine gate_dst (N := 3) rfl ?_); (try (refine gate_guard (by rfl) ?_; dsimp only)); refine box_event ?hg (N := 3) ?hd (cs := #[.int .i64 a0_0, .string a0_1, .string a0_2, .slice A0_3 l0_3.length c0_3, .slice A0_4 l0_4.length c0_4]) (t := 25) ?hr ?_; (case hd => rfl); (case hg => rfl); (case hr => first | (go_simp; done) | (go_simp; rfl)); intro gb256 hg w5 hbox hb; have n0_ := Aside0.mk (below_step (by repeat (first | (with_reducible first | exact HB.out | apply below_alloc | apply pw_below_drewN | apply below_drew1) | exact HB.out)) hb); have n1_ := Aside0.mk (hbox); have n2_ := Aside0.mk ((by rw [hg]; exact (below_size (by repeat (first | (with_reducible first | exact HB.out | apply below_alloc | apply pw_below_drewN | apply below_drew1) | exact HB.out))) : w.heap.size ≤ gb256)); have n3_ := Aside0.mk ((by rw [hg]; exact (below_size (by repeat (first | (with_reducible first | exact HB.out | apply below_alloc | apply pw_below_drewN | apply below_drew1) | exact HB.out))) : w.heap.size ≤ gb256)); clear HB; have HB := n0_; have BK256 := n1_; have GW256 := n2_; have GE256 := n3_; clear n0_ n1_ n2_ n3_; clear hb hbox hg) | ((with_reducible refine gate_dst (N := 4) rfl ?_); (try (refine gate_guard (by rfl) ?_; dsimp only)); refine box_event ?hg (N := 4) ?hd (cs := #[.int .i64 a1_0, .string a1_1, .string a1_2, .slice A1_3 l1_3.length c1_3, .slice A1_4 l1_4.length c1_4]) (t := 25) ?hr ?_; (case hd => rfl); (case hg => rfl); (case hr => first | (go_simp; done) | (go_simp; rfl)); intro gb257 hg w6 hbox hb; have n0_ := Aside0.mk (blk_below (g := gb256) (o := .cells #[.int .i64 a0_0, .string a0_1, .string a0_2, .slice A0_3 l0_3.length c0_3, .slice A0_4 l0_4.length c0_4] 25 (0, 0)) (by (with_reducible repeat (first | refine blk_drewN ?_ _ | refine blk_drew ?_ | refine blk_alloc ?_ _)); exact BK256.out) hb); have n1_ := Aside0.mk (below_step (by repeat (first | (with_reducible first | exact HB.out | apply below_alloc | apply pw_below_drewN | apply below_drew1 | refine below_set ?_ GE256.out) | exact HB.out)) hb); have n2_ := Aside0.mk (hbox); have n3_ := Aside0.mk ((by rw [hg]; exact (below_size (by repeat (first | (with_reducible first | exact HB.out | apply below_alloc | apply pw_below_drewN | apply below_drew1 | refine below_set ?_ GE256.out) | exact HB.out))) : w.heap.size ≤ gb257)); have n4_ := Aside0.mk ((by rw [hg]; exact (below_size (by repeat (first | (with_reducible first | exact HB.out | apply below_alloc | apply pw_below_drewN | apply below_drew1 | refine below_set ?_ GE256.out) | exact HB.out))) : w.heap.size ≤ gb257)); have n5_ := Aside0.mk ((by rw [hg]; exact Nat.ne_of_lt (blk_lt (g := gb256) (o := .cells #[.int .i64 a0_0, .string a0_1, .string a0_2, .slice A0_3 l0_3.length c0_3, .slice A0_4 l0_4.length c0_4] 25 (0, 0)) (by (with_reducible repeat (first | refine blk_drewN ?_ _ | refine blk_drew ?_ | refine blk_alloc ?_ _)); exact BK256.out)) : gb256 ≠ gb257)); have n6_ := Aside0.mk ((by rw [hg]; exact Nat.ne_of_gt (blk_lt (g := gb256) (o := .cells #[.int .i64 a0_0, .string a0_1, .string a0_2, .slice A0_3 l0_3.length c0_3, .slice A0_4 l0_4.length c0_4] 25 (0, 0)) (by (with_reducible repeat (first | refine blk_drewN ?_ _ | refine blk_drew ?_ | refine blk_alloc ?_ _)); exact BK256.out)) : gb257 ≠ gb256)); clear BK256; clear HB; have BK256 := n0_; have HB := n1_; have BK257 := n2_; have GW257 := n3_; have GE257 := n4_; have NB256_257 := n5_; have NB257_256 := n6_; clear n0_ n1_ n2_ n3_ n4_ n5_ n6_; clear hb hbox hg))
  (try simp only [Act.put, List.setIfInBounds_toArray, List.set_cons_zero, List.set_cons_succ])
  go_cut [50] (fun v50 wc => ∃ (kq : Nat) (x50_3 : Bool), v50 = .bool x50_3 ∧ Aside0 (spec_Same.j0 kq a2 x50_3 a0_0 a0_1 a0_2 l0_3 l0_4 a1_0 a1_1 a1_2 l1_3 l1_4 = some r) ∧ Aside0 (kq ≤ k) ∧ Aside0 (wc.heap[gb256]? = some (.cells #[.int .i64 a0_0, .string a0_1, .string a0_2, (.slice A0_3 l0_3.length c0_3), (.slice A0_4 l0_4.length c0_4)] 25 (0, 0))) ∧ Aside0 (wc.heap[gb257]? = some (.cells #[.int .i64 a1_0, .string a1_1, .string a1_2, (.slice A1_3 l1_3.length c1_3), (.slice A1_4 l1_4.length c1_4)] 25 (0, 0))) ∧ Aside0 (Below w.heap.size w wc))
  case first =>
    have H := HC4.out
    clear HC4
    by_cases c7 : a0_0 = a1_0
    · rw [if_pos c7] at H
      have c7b0 : (a0_0 == a1_0) = true := beq_iff_eq.mpr c7
      have c7b1 : (a0_0 != a1_0) = false := bne_eq_false_iff_eq.mpr c7
      clear c7
      (first | rw [c7b0] | (simp only [i64_w, i32_w]; rw [c7b0]) | skip)
      by_cases c8 : a0_1.toList = a1_1.toList
      · rw [if_pos c8] at H
        have c8b0 : (a0_1.toList == a1_1.toList) = true := beq_iff_eq.mpr c8
        have c8b1 : (a0_1.toList != a1_1.toList) = false := bne_eq_false_iff_eq.mpr c8
        clear c8
        by_cases c9 : a0_0 = 1
        · rw [if_pos c9] at H
          have c9b0 : (a0_0 == 1) = true := beq_iff_eq.mpr c9
          have c9b1 : (a0_0 != 1) = false := bne_eq_false_iff_eq.mpr c9
          clear c9
          by_cases c10 : a0_2.toList = a1_2.toList
          · rw [if_pos c10] at H
            have c10b0 : (a0_2.toList == a1_2.toList) = true := beq_iff_eq.mpr c10
            have c10b1 : (a0_2.toList != a1_2.toList) = false := bne_eq_false_iff_eq.mpr c10
            clear c10
            by_cases c11 : (l0_3.length : Int) = (l1_3.length : Int)
            · rw [if_pos c11] at H
              have c11b0 : ((l0_3.length : Int) == (l1_3.length : Int)) = true := beq_iff_eq.mpr c11
              have c11b1 : ((l0_3.length : Int) != (l1_3.length : Int)) = false := bne_eq_false_iff_eq.mpr c11
              have c11b2 : (l0_3.length == l1_3.length) = true := by first | simpa using c11 | (simp at c11 ⊢; omega)
              clear c11
              have H' := Aside0.mk H
              clear H
              have hnb12 := NB256_257.out
              have hnc12 := NB257_256.out
              have hcz13_0 : w6.cell? ⟨gb256, 0, none⟩ = some (.int .i64 a0_0) := (blk_cell BK256.out 0).trans rfl
              have hcz13_1 : w6.cell? ⟨gb256, 1, none⟩ = some (.string a0_1) := (blk_cell BK256.out 1).trans rfl
              have hcz13_2 : w6.cell? ⟨gb256, 2, none⟩ = some (.string a0_2) := (blk_cell BK256.out 2).trans rfl
              have hcz13_3 : w6.cell? ⟨gb256, 3, none⟩ = some (.slice A0_3 l0_3.length c0_3) := (blk_cell BK256.out 3).trans rfl
              have hcz13_4 : w6.cell? ⟨gb256, 4, none⟩ = some (.slice A0_4 l0_4.length c0_4) := (blk_cell BK256.out 4).trans rfl
              have hfz13_0 := blk_frozen BK256.out 0
              have hfz13_1 := blk_frozen BK256.out 1
              have hfz13_2 := blk_frozen BK256.out 2
              have hfz13_3 := blk_frozen BK256.out 3
              have hfz13_4 := blk_frozen BK256.out 4
              have hcz14_0 : w6.cell? ⟨gb257, 0, none⟩ = some (.int .i64 a1_0) := (blk_cell BK257.out 0).trans rfl
              have hcz14_1 : w6.cell? ⟨gb257, 1, none⟩ = some (.string a1_1) := (blk_cell BK257.out 1).trans rfl
              have hcz14_2 : w6.cell? ⟨gb257, 2, none⟩ = some (.string a1_2) := (blk_cell BK257.out 2).trans rfl
              have hcz14_3 : w6.cell? ⟨gb257, 3, none⟩ = some (.slice A1_3 l1_3.length c1_3) := (blk_cell BK257.out 3).trans rfl
              have hcz14_4 : w6.cell? ⟨gb257, 4, none⟩ = some (.slice A1_4 l1_4.length c1_4) := (blk_cell BK257.out 4).trans rfl
              have hfz14_0 := blk_frozen BK257.out 0
              have hfz14_1 := blk_frozen BK257.out 1
              have hfz14_2 := blk_frozen BK257.out 2
              have hfz14_3 := blk_frozen BK257.out 3
              have hfz14_4 := blk_frozen BK257.out 4
              go_wp2
              go_meet
              case rel => exact ⟨_, (((l0_4.length : Int) != (l1_4.length : Int))), (by first | rfl | (simp; done) | (simp [*]; done)), H', ⟨by first | omega | exact Nat.le_refl _⟩, ⟨by (with_reducible repeat (first | refine blk_drewN ?_ _ | refine blk_drew ?_ | refine blk_alloc ?_ _)); exact BK256.out⟩, ⟨by (with_reducible repeat (first | refine blk_drewN ?_ _ | refine blk_drew ?_ | refine blk_alloc ?_ _)); exact BK257.out⟩, ⟨by repeat (first | (with_reducible first | exact HB.out | apply below_alloc | apply pw_below_drewN | apply below_drew1 | refine below_set ?_ GE256.out | refine below_set ?_ GE257.out) | exact HB.out)⟩⟩
            · rw [if_neg c11] at H
              have c11b0 : ((l0_3.length : Int) == (l1_3.length : Int)) = false := beq_eq_false_iff_ne.mpr c11
              have c11b1 : ((l0_3.length : Int) != (l1_3.length : Int)) = true := bne_iff_ne.mpr c11
              have c11b2 : (l0_3.length == l1_3.length) = false := by first | simpa using c11 | (simp at c11 ⊢; omega)
              have H' := Aside0.mk H
              clear H
              have hnb15 := NB256_257.out
              have hnc15 := NB257_256.out
              have hcz16_0 : w6.cell? ⟨gb256, 0, none⟩ = some (.int .i64 a0_0) := (blk_cell BK256.out 0).trans rfl
              have hcz16_1 : w6.cell? ⟨gb256, 1, none⟩ = some (.string a0_1) := (blk_cell BK256.out 1).trans rfl
              have hcz16_2 : w6.cell? ⟨gb256, 2, none⟩ = some (.string a0_2) := (blk_cell BK256.out 2).trans rfl
              have hcz16_3 : w6.cell? ⟨gb256, 3, none⟩ = some (.slice A0_3 l0_3.length c0_3) := (blk_cell BK256.out 3).trans rfl
              have hcz16_4 : w6.cell? ⟨gb256, 4, none⟩ = some (.slice A0_4 l0_4.length c0_4) := (blk_cell BK256.out 4).trans rfl
              have hfz16_0 := blk_frozen BK256.out 0
              have hfz16_1 := blk_frozen BK256.out 1
              have hfz16_2 := blk_frozen BK256.out 2
              have hfz16_3 := blk_frozen BK256.out 3
              have hfz16_4 := blk_frozen BK256.out 4
              have hcz17_0 : w6.cell? ⟨gb257, 0, none⟩ = some (.int .i64 a1_0) := (blk_cell BK257.out 0).trans rfl
              have hcz17_1 : w6.cell? ⟨gb257, 1, none⟩ = some (.string a1_1) := (blk_cell BK257.out 1).trans rfl
              have hcz17_2 : w6.cell? ⟨gb257, 2, none⟩ = some (.string a1_2) := (blk_cell BK257.out 2).trans rfl
              have hcz17_3 : w6.cell? ⟨gb257, 3, none⟩ = some (.slice A1_3 l1_3.length c1_3) := (blk_cell BK257.out 3).trans rfl
              have hcz17_4 : w6.cell? ⟨gb257, 4, none⟩ = some (.slice A1_4 l1_4.length c1_4) := (blk_cell BK257.out 4).trans rfl
              have hfz17_0 := blk_frozen BK257.out 0
              have hfz17_1 := blk_frozen BK257.out 1
              have hfz17_2 := blk_frozen BK257.out 2
              have hfz17_3 := blk_frozen BK257.out 3
              have hfz17_4 := blk_frozen BK257.out 4
              go_wp2
              go_meet
              case rel => exact ⟨_, (true), (by first | rfl | (simp; done) | (simp [*]; done)), H', ⟨by first | omega | exact Nat.le_refl _⟩, ⟨by (with_reducible repeat (first | refine blk_drewN ?_ _ | refine blk_drew ?_ | refine blk_alloc ?_ _)); exact BK256.out⟩, ⟨by (with_reducible repeat (first | refine blk_drewN ?_ _ | refine blk_drew ?_ | refine blk_alloc ?_ _)); exact BK257.out⟩, ⟨by repeat (first | (with_reducible first | exact HB.out | apply below_alloc | apply pw_below_drewN | apply below_drew1 | refine below_set ?_ GE256.out | refine below_set ?_ GE257.out) | exact HB.out)⟩⟩
          · rw [if_neg c10] at H
            have c10b0 : (a0_2.toList == a1_2.toList) = false := beq_eq_false_iff_ne.mpr c10
            have c10b1 : (a0_2.toList != a1_2.toList) = true := bne_iff_ne.mpr c10
            have H' := Aside0.mk H
            clear H
            have hnb18 := NB256_257.out
            have hnc18 := NB257_256.out
            have hcz19_0 : w6.cell? ⟨gb256, 0, none⟩ = some (.int .i64 a0_0) := (blk_cell BK256.out 0).trans rfl
            have hcz19_1 : w6.cell? ⟨gb256, 1, none⟩ = some (.string a0_1) := (blk_cell BK256.out 1).trans rfl
            have hcz19_2 : w6.cell? ⟨gb256, 2, none⟩ = some (.string a0_2) := (blk_cell BK256.out 2).trans rfl
            have hcz19_3 : w6.cell? ⟨gb256, 3, none⟩ = some (.slice A0_3 l0_3.length c0_3) := (blk_cell BK256.out 3).trans rfl
            have hcz19_4 : w6.cell? ⟨gb256, 4, none⟩ = some (.slice A0_4 l0_4.length c0_4) := (blk_cell BK256.out 4).trans rfl
            have hfz19_0 := blk_frozen BK256.out 0
            have hfz19_1 := blk_frozen BK256.out 1
            have hfz19_2 := blk_frozen BK256.out 2
            have hfz19_3 := blk_frozen BK256.out 3
            have hfz19_4 := blk_frozen BK256.out 4
            have hcz20_0 : w6.cell? ⟨gb257, 0, none⟩ = some (.int .i64 a1_0) := (blk_cell BK257.out 0).trans rfl
            have hcz20_1 : w6.cell? ⟨gb257, 1, none⟩ = some (.string a1_1) := (blk_cell BK257.out 1).trans rfl
            have hcz20_2 : w6.cell? ⟨gb257, 2, none⟩ = some (.string a1_2) := (blk_cell BK257.out 2).trans rfl
            have hcz20_3 : w6.cell? ⟨gb257, 3, none⟩ = some (.slice A1_3 l1_3.length c1_3) := (blk_cell BK257.out 3).trans rfl
            have hcz20_4 : w6.cell? ⟨gb257, 4, none⟩ = some (.slice A1_4 l1_4.length c1_4) := (blk_cell BK257.out 4).trans rfl
            have hfz20_0 := blk_frozen BK257.out 0
            have hfz20_1 := blk_frozen BK257.out 1
            have hfz20_2 := blk_frozen BK257.out 2
            have hfz20_3 := blk_frozen BK257.out 3
            have hfz20_4 := blk_frozen BK257.out 4
            go_wp2
            go_meet
            case rel => exact ⟨_, (true), (by first | rfl | (simp; done) | (simp [*]; done)), H', ⟨by first | omega | exact Nat.le_refl _⟩, ⟨by (with_reducible repeat (first | refine blk_drewN ?_ _ | refine blk_drew ?_ | refine blk_alloc ?_ _)); exact BK256.out⟩, ⟨by (with_reducible repeat (first | refine blk_drewN ?_ _ | refine blk_drew ?_ | refine blk_alloc ?_ _)); exact BK257.out⟩, ⟨by repeat (first | (with_reducible first | exact HB.out | apply below_alloc | apply pw_below_drewN | apply below_drew1 | refine below_set ?_ GE256.out | refine below_set ?_ GE257.out) | exact HB.out)⟩⟩
        · rw [if_neg c9] at H
          have c9b0 : (a0_0 == 1) = false := beq_eq_false_iff_ne.mpr c9
          have c9b1 : (a0_0 != 1) = true := bne_iff_ne.mpr c9
          by_cases c21 : (l0_3.length : Int) = (l1_3.length : Int)
          · rw [if_pos c21] at H
            have c21b0 : ((l0_3.length : Int) == (l1_3.length : Int)) = true := beq_iff_eq.mpr c21
            have c21b1 : ((l0_3.length : Int) != (l1_3.length : Int)) = false := bne_eq_false_iff_eq.mpr c21
            have c21b2 : (l0_3.length == l1_3.length) = true := by first | simpa using c21 | (simp at c21 ⊢; omega)
            clear c21
            have H' := Aside0.mk H
            clear H
            have hnb22 := NB256_257.out
            have hnc22 := NB257_256.out
            have hcz23_0 : w6.cell? ⟨gb256, 0, none⟩ = some (.int .i64 a0_0) := (blk_cell BK256.out 0).trans rfl
            have hcz23_1 : w6.cell? ⟨gb256, 1, none⟩ = some (.string a0_1) := (blk_cell BK256.out 1).trans rfl
            have hcz23_2 : w6.cell? ⟨gb256, 2, none⟩ = some (.string a0_2) := (blk_cell BK256.out 2).trans rfl
            have hcz23_3 : w6.cell? ⟨gb256, 3, none⟩ = some (.slice A0_3 l0_3.length c0_3) := (blk_cell BK256.out 3).trans rfl
            have hcz23_4 : w6.cell? ⟨gb256, 4, none⟩ = some (.slice A0_4 l0_4.length c0_4) := (blk_cell BK256.out 4).trans rfl
            have hfz23_0 := blk_frozen BK256.out 0
            have hfz23_1 := blk_frozen BK256.out 1
            have hfz23_2 := blk_frozen BK256.out 2
            have hfz23_3 := blk_frozen BK256.out 3
            have hfz23_4 := blk_frozen BK256.out 4
            have hcz24_0 : w6.cell? ⟨gb257, 0, none⟩ = some (.int .i64 a1_0) := (blk_cell BK257.out 0).trans rfl
            have hcz24_1 : w6.cell? ⟨gb257, 1, none⟩ = some (.string a1_1) := (blk_cell BK257.out 1).trans rfl
            have hcz24_2 : w6.cell? ⟨gb257, 2, none⟩ = some (.string a1_2) := (blk_cell BK257.out 2).trans rfl
            have hcz24_3 : w6.cell? ⟨gb257, 3, none⟩ = some (.slice A1_3 l1_3.length c1_3) := (blk_cell BK257.out 3).trans rfl
            have hcz24_4 : w6.cell? ⟨gb257, 4, none⟩ = some (.slice A1_4 l1_4.length c1_4) := (blk_cell BK257.out 4).trans rfl
            have hfz24_0 := blk_frozen BK257.out 0
            have hfz24_1 := blk_frozen BK257.out 1
            have hfz24_2 := blk_frozen BK257.out 2
            have hfz24_3 := blk_frozen BK257.out 3
            have hfz24_4 := blk_frozen BK257.out 4
            go_wp2
            go_meet
            case rel => exact ⟨_, (((l0_4.length : Int) != (l1_4.length : Int))), (by first | rfl | (simp; done) | (simp [*]; done)), H', ⟨by first | omega | exact Nat.le_refl _⟩, ⟨by (with_reducible repeat (first | refine blk_drewN ?_ _ | refine blk_drew ?_ | refine blk_alloc ?_ _)); exact BK256.out⟩, ⟨by (with_reducible repeat (first | refine blk_drewN ?_ _ | refine blk_drew ?_ | refine blk_alloc ?_ _)); exact BK257.out⟩, ⟨by repeat (first | (with_reducible first | exact HB.out | apply below_alloc | apply pw_below_drewN | apply below_drew1 | refine below_set ?_ GE256.out | refine below_set ?_ GE257.out) | exact HB.out)⟩⟩
          · rw [if_neg c21] at H
            have c21b0 : ((l0_3.length : Int) == (l1_3.length : Int)) = false := beq_eq_false_iff_ne.mpr c21
            have c21b1 : ((l0_3.length : Int) != (l1_3.length : Int)) = true := bne_iff_ne.mpr c21
            have c21b2 : (l0_3.length == l1_3.length) = false := by first | simpa using c21 | (simp at c21 ⊢; omega)
            have H' := Aside0.mk H
            clear H
            have hnb25 := NB256_257.out
            have hnc25 := NB257_256.out
            have hcz26_0 : w6.cell? ⟨gb256, 0, none⟩ = some (.int .i64 a0_0) := (blk_cell BK256.out 0).trans rfl
            have hcz26_1 : w6.cell? ⟨gb256, 1, none⟩ = some (.string a0_1) := (blk_cell BK256.out 1).trans rfl
            have hcz26_2 : w6.cell? ⟨gb256, 2, none⟩ = some (.string a0_2) := (blk_cell BK256.out 2).trans rfl
            have hcz26_3 : w6.cell? ⟨gb256, 3, none⟩ = some (.slice A0_3 l0_3.length c0_3) := (blk_cell BK256.out 3).trans rfl
            have hcz26_4 : w6.cell? ⟨gb256, 4, none⟩ = some (.slice A0_4 l0_4.length c0_4) := (blk_cell BK256.out 4).trans rfl
            have hfz26_0 := blk_frozen BK256.out 0
            have hfz26_1 := blk_frozen BK256.out 1
            have hfz26_2 := blk_frozen BK256.out 2
            have hfz26_3 := blk_frozen BK256.out 3
            have hfz26_4 := blk_frozen BK256.out 4
            have hcz27_0 : w6.cell? ⟨gb257, 0, none⟩ = some (.int .i64 a1_0) := (blk_cell BK257.out 0).trans rfl
            have hcz27_1 : w6.cell? ⟨gb257, 1, none⟩ = some (.string a1_1) := (blk_cell BK257.out 1).trans rfl
            have hcz27_2 : w6.cell? ⟨gb257, 2, none⟩ = some (.string a1_2) := (blk_cell BK257.out 2).trans rfl
            have hcz27_3 : w6.cell? ⟨gb257, 3, none⟩ = some (.slice A1_3 l1_3.length c1_3) := (blk_cell BK257.out 3).trans rfl
            have hcz27_4 : w6.cell? ⟨gb257, 4, none⟩ = some (.slice A1_4 l1_4.length c1_4) := (blk_cell BK257.out 4).trans rfl
            have hfz27_0 := blk_frozen BK257.out 0
            have hfz27_1 := blk_frozen BK257.out 1
            have hfz27_2 := blk_frozen BK257.out 2
            have hfz27_3 := blk_frozen BK257.out 3
            have hfz27_4 := blk_frozen BK257.out 4
            go_wp2
            go_meet
            case rel => exact ⟨_, (true), (by first | rfl | (simp; done) | (simp [*]; done)), H', ⟨by first | omega | exact Nat.le_refl _⟩, ⟨by (with_reducible repeat (first | refine blk_drewN ?_ _ | refine blk_drew ?_ | refine blk_alloc ?_ _)); exact BK256.out⟩, ⟨by (with_reducible repeat (first | refine blk_drewN ?_ _ | refine blk_drew ?_ | refine blk_alloc ?_ _)); exact BK257.out⟩, ⟨by repeat (first | (with_reducible first | exact HB.out | apply below_alloc | apply pw_below_drewN | apply below_drew1 | refine below_set ?_ GE256.out | refine below_set ?_ GE257.out) | exact HB.out)⟩⟩
      · rw [if_neg c8] at H
        have c8b0 : (a0_1.toList == a1_1.toList) = false := beq_eq_false_iff_ne.mpr c8
        have c8b1 : (a0_1.toList != a1_1.toList) = true := bne_iff_ne.mpr c8
        have H' := Aside0.mk H
        clear H
        have hnb28 := NB256_257.out
        have hnc28 := NB257_256.out
        have hcz29_0 : w6.cell? ⟨gb256, 0, none⟩ = some (.int .i64 a0_0) := (blk_cell BK256.out 0).trans rfl
        have hcz29_1 : w6.cell? ⟨gb256, 1, none⟩ = some (.string a0_1) := (blk_cell BK256.out 1).trans rfl
        have hcz29_2 : w6.cell? ⟨gb256, 2, none⟩ = some (.string a0_2) := (blk_cell BK256.out 2).trans rfl
        have hcz29_3 : w6.cell? ⟨gb256, 3, none⟩ = some (.slice A0_3 l0_3.length c0_3) := (blk_cell BK256.out 3).trans rfl
        have hcz29_4 : w6.cell? ⟨gb256, 4, none⟩ = some (.slice A0_4 l0_4.length c0_4) := (blk_cell BK256.out 4).trans rfl
        have hfz29_0 := blk_frozen BK256.out 0
        have hfz29_1 := blk_frozen BK256.out 1
        have hfz29_2 := blk_frozen BK256.out 2
        have hfz29_3 := blk_frozen BK256.out 3
        have hfz29_4 := blk_frozen BK256.out 4
        have hcz30_0 : w6.cell? ⟨gb257, 0, none⟩ = some (.int .i64 a1_0) := (blk_cell BK257.out 0).trans rfl
        have hcz30_1 : w6.cell? ⟨gb257, 1, none⟩ = some (.string a1_1) := (blk_cell BK257.out 1).trans rfl
        have hcz30_2 : w6.cell? ⟨gb257, 2, none⟩ = some (.string a1_2) := (blk_cell BK257.out 2).trans rfl
        have hcz30_3 : w6.cell? ⟨gb257, 3, none⟩ = some (.slice A1_3 l1_3.length c1_3) := (blk_cell BK257.out 3).trans rfl
        have hcz30_4 : w6.cell? ⟨gb257, 4, none⟩ = some (.slice A1_4 l1_4.length c1_4) := (blk_cell BK257.out 4).trans rfl
        have hfz30_0 := blk_frozen BK257.out 0
        have hfz30_1 := blk_frozen BK257.out 1
        have hfz30_2 := blk_frozen BK257.out 2
        have hfz30_3 := blk_frozen BK257.out 3
        have hfz30_4 := blk_frozen BK257.out 4
        go_wp2
        go_meet
        case rel => exact ⟨_, (true), (by first | rfl | (simp; done) | (simp [*]; done)), H', ⟨by first | omega | exact Nat.le_refl _⟩, ⟨by (with_reducible repeat (first | refine blk_drewN ?_ _ | refine blk_drew ?_ | refine blk_alloc ?_ _)); exact BK256.out⟩, ⟨by (with_reducible repeat (first | refine blk_drewN ?_ _ | refine blk_drew ?_ | refine blk_alloc ?_ _)); exact BK257.out⟩, ⟨by repeat (first | (with_reducible first | exact HB.out | apply below_alloc | apply pw_below_drewN | apply below_drew1 | refine below_set ?_ GE256.out | refine below_set ?_ GE257.out) | exact HB.out)⟩⟩
    · rw [if_neg c7] at H
      have c7b0 : (a0_0 == a1_0) = false := beq_eq_false_iff_ne.mpr c7
      have c7b1 : (a0_0 != a1_0) = true := bne_iff_ne.mpr c7
      (first | rw [c7b0] | (simp only [i64_w, i32_w]; rw [c7b0]) | skip)
      have H' := Aside0.mk H
      clear H
      have hnb31 := NB256_257.out
      have hnc31 := NB257_256.out
      have hcz32_0 : w6.cell? ⟨gb256, 0, none⟩ = some (.int .i64 a0_0) := (blk_cell BK256.out 0).trans rfl
      have hcz32_1 : w6.cell? ⟨gb256, 1, none⟩ = some (.string a0_1) := (blk_cell BK256.out 1).trans rfl
      have hcz32_2 : w6.cell? ⟨gb256, 2, none⟩ = some (.string a0_2) := (blk_cell BK256.out 2).trans rfl
      have hcz32_3 : w6.cell? ⟨gb256, 3, none⟩ = some (.slice A0_3 l0_3.length c0_3) := (blk_cell BK256.out 3).trans rfl
      have hcz32_4 : w6.cell? ⟨gb256, 4, none⟩ = some (.slice A0_4 l0_4.length c0_4) := (blk_cell BK256.out 4).trans rfl
      have hfz32_0 := blk_frozen BK256.out 0
      have hfz32_1 := blk_frozen BK256.out 1
      have hfz32_2 := blk_frozen BK256.out 2
      have hfz32_3 := blk_frozen BK256.out 3
      have hfz32_4 := blk_frozen BK256.out 4
      have hcz33_0 : w6.cell? ⟨gb257, 0, none⟩ = some (.int .i64 a1_0) := (blk_cell BK257.out 0).trans rfl
      have hcz33_1 : w6.cell? ⟨gb257, 1, none⟩ = some (.string a1_1) := (blk_cell BK257.out 1).trans rfl
      have hcz33_2 : w6.cell? ⟨gb257, 2, none⟩ = some (.string a1_2) := (blk_cell BK257.out 2).trans rfl
      have hcz33_3 : w6.cell? ⟨gb257, 3, none⟩ = some (.slice A1_3 l1_3.length c1_3) := (blk_cell BK257.out 3).trans rfl
      have hcz33_4 : w6.cell? ⟨gb257, 4, none⟩ = some (.slice A1_4 l1_4.length c1_4) := (blk_cell BK257.out 4).trans rfl
      have hfz33_0 := blk_frozen BK257.out 0
      have hfz33_1 := blk_frozen BK257.out 1
      have hfz33_2 := blk_frozen BK257.out 2
      have hfz33_3 := blk_frozen BK257.out 3
      have hfz33_4 := blk_frozen BK257.out 4
      go_wp2
      go_meet
      case rel => exact ⟨_, (true), (by first | rfl | (simp; done) | (simp [*]; done)), H', ⟨by first | omega | exact Nat.le_refl _⟩, ⟨by (with_reducible repeat (first | refine blk_drewN ?_ _ | refine blk_drew ?_ | refine blk_alloc ?_ _)); exact BK256.out⟩, ⟨by (with_reducible repeat (first | refine blk_drewN ?_ _ | refine blk_drew ?_ | refine blk_alloc ?_ _)); exact BK257.out⟩, ⟨by repeat (first | (with_reducible first | exact HB.out | apply below_alloc | apply pw_below_drewN | apply below_drew1 | refine below_set ?_ GE256.out | refine below_set ?_ GE257.out) | exact HB.out)⟩⟩
  case rest =>
    clear HC4
    try clear c1
    try clear c2
    try clear p2
    try clear c3
    try clear c7
    try clear c7b0
    try clear c7b1
    try clear c8
    try clear c8b0
    try clear c8b1
    try clear c9
    try clear c9b0
    try clear c9b1
    try clear c10
    try clear c10b0
    try clear c10b1
    try clear c11
    try clear c11b0
    try clear c11b1
    try clear c11b2
    try clear c12
    try clear c14
    try clear c15
    try clear c18
    try clear c21
    try clear c21b0
    try clear c21b1
    try clear c21b2
    try clear c22
    try clear c25
    try clear c28
    try clear c31
    try clear hcz13_0
    try clear hcz13_1
    try clear hcz13_2
    try clear hcz13_3
    try clear hcz13_4
    try clear hcz14_0
    try clear hcz14_1
    try clear hcz14_2
    try clear hcz14_3
    try clear hcz14_4
    try clear hcz16_0
    try clear hcz16_1
    try clear hcz16_2
    try clear hcz16_3
    try clear hcz16_4
    try clear hcz17_0
    try clear hcz17_1
    try clear hcz17_2
    try clear hcz17_3
    try clear hcz17_4
    try clear hcz19_0
    try clear hcz19_1
    try clear hcz19_2
    try clear hcz19_3
    try clear hcz19_4
    try clear hcz20_0
    try clear hcz20_1
    try clear hcz20_2
    try clear hcz20_3
    try clear hcz20_4
    try clear hcz23_0
    try clear hcz23_1
    try clear hcz23_2
    try clear hcz23_3
    try clear hcz23_4
    try clear hcz24_0
    try clear hcz24_1
    try clear hcz24_2
    try clear hcz24_3
    try clear hcz24_4
    try clear hcz26_0
    try clear hcz26_1
    try clear hcz26_2
    try clear hcz26_3
    try clear hcz26_4
    try clear hcz27_0
    try clear hcz27_1
    try clear hcz27_2
    try clear hcz27_3
    try clear hcz27_4
    try clear hcz29_0
    try clear hcz29_1
    try clear hcz29_2
    try clear hcz29_3
    try clear hcz29_4
    try clear hcz30_0
    try clear hcz30_1
    try clear hcz30_2
    try clear hcz30_3
    try clear hcz30_4
    try clear hcz32_0
    try clear hcz32_1
    try clear hcz32_2
    try clear hcz32_3
    try clear hcz32_4
    try clear hcz33_0
    try clear hcz33_1
    try clear hcz33_2
    try clear hcz33_3
    try clear hcz33_4
    try clear hfz13_0
    try clear hfz13_1
    try clear hfz13_2
    try clear hfz13_3
    try clear hfz13_4
    try clear hfz14_0
    try clear hfz14_1
    try clear hfz14_2
    try clear hfz14_3
    try clear hfz14_4
    try clear hfz16_0
    try clear hfz16_1
    try clear hfz16_2
    try clear hfz16_3
    try clear hfz16_4
    try clear hfz17_0
    try clear hfz17_1
    try clear hfz17_2
    try clear hfz17_3
    try clear hfz17_4
    try clear hfz19_0
    try clear hfz19_1
    try clear hfz19_2
    try clear hfz19_3
    try clear hfz19_4
    try clear hfz20_0
    try clear hfz20_1
    try clear hfz20_2
    try clear hfz20_3
    try clear hfz20_4
    try clear hfz23_0
    try clear hfz23_1
    try clear hfz23_2
    try clear hfz23_3
    try clear hfz23_4
    try clear hfz24_0
    try clear hfz24_1
    try clear hfz24_2
    try clear hfz24_3
    try clear hfz24_4
    try clear hfz26_0
    try clear hfz26_1
    try clear hfz26_2
    try clear hfz26_3
    try clear hfz26_4
    try clear hfz27_0
    try clear hfz27_1
    try clear hfz27_2
    try clear hfz27_3
    try clear hfz27_4
    try clear hfz29_0
    try clear hfz29_1
    try clear hfz29_2
    try clear hfz29_3
    try clear hfz29_4
    try clear hfz30_0
    try clear hfz30_1
    try clear hfz30_2
    try clear hfz30_3
    try clear hfz30_4
    try clear hfz32_0
    try clear hfz32_1
    try clear hfz32_2
    try clear hfz32_3
    try clear hfz32_4
    try clear hfz33_0
    try clear hfz33_1
    try clear hfz33_2
    try clear hfz33_3
    try clear hfz33_4
    obtain ⟨kq, x50_3, rfl, HA, HJ3, BK256, BK257, HB⟩ := hcut
    cases kq with
    | zero => exact absurd HA.out (by simp [spec_Same.j0])
    | succ kj3 =>
      have H := HA.out
      clear HA
      simp only [spec_Same.j0] at H
      by_cases c34 : x50_3 = true
      · subst c34
        have H1 : (some false) = some r := by rw [if_pos rfl] at H; exact H
        clear H
        have H := H1
        clear H1
        obtain rfl := Option.some.inj H
        go_wp2
        go_ret
        exact ⟨by first | rfl | (simp [errW_none, errW_some] <;> rfl) | (simp [*, errW_none, errW_some] <;> rfl), by repeat (first | (with_reducible first | exact HB.out | apply below_alloc | apply pw_below_drewN | apply below_drew1 | refine below_set ?_ GE256.out | refine below_set ?_ GE257.out) | exact HB.out)⟩
      · replace c34 := Bool.eq_false_iff.mpr c34
        subst c34
        have H1 : (spec_Same.l0 kj3 a2 (l0_4.length : Int) 0 a0_0 a0_1 a0_2 l0_3 l0_4 a1_0 a1_1 a1_2 l1_3 l1_4) = some r := by rw [if_neg (show ¬ (false = true) by decide)] at H; exact H
        clear H
        have H := H1
        clear H1
        have H' := Aside0.mk H
        clear H
        have hnb35 := NB256_257.out
        have hnc35 := NB257_256.out
        have hcz36_0 : wc.cell? ⟨gb256, 0, none⟩ = some (.int .i64 a0_0) := (blk_cell BK256.out 0).trans rfl
        have hcz36_1 : wc.cell? ⟨gb256, 1, none⟩ = some (.string a0_1) := (blk_cell BK256.out 1).trans rfl
        have hcz36_2 : wc.cell? ⟨gb256, 2, none⟩ = some (.string a0_2) := (blk_cell BK256.out 2).trans rfl
        have hcz36_3 : wc.cell? ⟨gb256, 3, none⟩ = some (.slice A0_3 l0_3.length c0_3) := (blk_cell BK256.out 3).trans rfl
        have hcz36_4 : wc.cell? ⟨gb256, 4, none⟩ = some (.slice A0_4 l0_4.length c0_4) := (blk_cell BK256.out 4).trans rfl
        have hfz36_0 := blk_frozen BK256.out 0
        have hfz36_1 := blk_frozen BK256.out 1
        have hfz36_2 := blk_frozen BK256.out 2
        have hfz36_3 := blk_frozen BK256.out 3
        have hfz36_4 := blk_frozen BK256.out 4
        go_wp2
        go_loopg [54] kj3 (fun kq v54 w' => ∃ (x54_2 : Int), v54 = .int .i64 x54_2 ∧ Aside0 (spec_Same.l0 kq a2 (l0_4.length : Int) x54_2 a0_0 a0_1 a0_2 l0_3 l0_4 a1_0 a1_1 a1_2 l1_3 l1_4 = some r) ∧ Aside0 (kq ≤ kj3) ∧ Aside0 (w'.heap[gb256]? = some (.cells #[.int .i64 a0_0, .string a0_1, .string a0_2, (.slice A0_3 l0_3.length c0_3), (.slice A0_4 l0_4.length c0_4)] 25 (0, 0))) ∧ Aside0 (w'.heap[gb257]? = some (.cells #[.int .i64 a1_0, .string a1_1, .string a1_2, (.slice A1_3 l1_3.length c1_3), (.slice A1_4 l1_4.length c1_4)] 25 (0, 0))) ∧ Aside0 (Below w.heap.size w w'))
        case atStart => exact ⟨(0), (by first | rfl | (simp; done) | (simp [*]; done)), H', ⟨Nat.le_refl _⟩, ⟨by (with_reducible repeat (first | refine blk_drewN ?_ _ | refine blk_drew ?_ | refine blk_alloc ?_ _)); exact BK256.out⟩, ⟨by (with_reducible repeat (first | refine blk_drewN ?_ _ | refine blk_drew ?_ | refine blk_alloc ?_ _)); exact BK257.out⟩, ⟨by repeat (first | (with_reducible first | exact HB.out | apply below_alloc | apply pw_below_drewN | apply below_drew1 | refine below_set ?_ GE256.out | refine below_set ?_ GE257.out) | exact HB.out)⟩⟩
        case round =>
          clear H'
          try clear c1
          try clear c2
          try clear p2
          try clear c3
          try clear c7
          try clear c7b0
          try clear c7b1
          try clear c8
          try clear c8b0
          try clear c8b1
          try clear c9
          try clear c9b0
          try clear c9b1
          try clear c10
          try clear c10b0
          try clear c10b1
          try clear c11
          try clear c11b0
          try clear c11b1
          try clear c11b2
          try clear c12
          try clear c14
          try clear c15
          try clear c18
          try clear c21
          try clear c21b0
          try clear c21b1
          try clear c21b2
          try clear c22
          try clear c25
          try clear c28
          try clear c31
          try clear c34
          try clear c35
          try clear hcz13_0
          try clear hcz13_1
          try clear hcz13_2
          try clear hcz13_3
          try clear hcz13_4
          try clear hcz14_0
          try clear hcz14_1
          try clear hcz14_2
          try clear hcz14_3
          try clear hcz14_4
          try clear hcz16_0
          try clear hcz16_1
          try clear hcz16_2
          try clear hcz16_3
          try clear hcz16_4
          try clear hcz17_0
          try clear hcz17_1
          try clear hcz17_2
          try clear hcz17_3
          try clear hcz17_4
          try clear hcz19_0
          try clear hcz19_1
          try clear hcz19_2
          try clear hcz19_3
          try clear hcz19_4
          try clear hcz20_0
          try clear hcz20_1
          try clear hcz20_2
          try clear hcz20_3
          try clear hcz20_4
          try clear hcz23_0
          try clear hcz23_1
          try clear hcz23_2
          try clear hcz23_3
          try clear hcz23_4
          try clear hcz24_0
          try clear hcz24_1
          try clear hcz24_2
          try clear hcz24_3
          try clear hcz24_4
          try clear hcz26_0
          try clear hcz26_1
          try clear hcz26_2
          try clear hcz26_3
          try clear hcz26_4
          try clear hcz27_0
          try clear hcz27_1
          try clear hcz27_2
          try clear hcz27_3
          try clear hcz27_4
          try clear hcz29_0
          try clear hcz29_1
          try clear hcz29_2
          try clear hcz29_3
          try clear hcz29_4
          try clear hcz30_0
          try clear hcz30_1
          try clear hcz30_2
          try clear hcz30_3
          try clear hcz30_4
          try clear hcz32_0
          try clear hcz32_1
          try clear hcz32_2
          try clear hcz32_3
          try clear hcz32_4
          try clear hcz33_0
          try clear hcz33_1
          try clear hcz33_2
          try clear hcz33_3
          try clear hcz33_4
          try clear hcz36_0
          try clear hcz36_1
          try clear hcz36_2
          try clear hcz36_3
          try clear hcz36_4
          try clear hfz13_0
          try clear hfz13_1
          try clear hfz13_2
          try clear hfz13_3
          try clear hfz13_4
          try clear hfz14_0
          try clear hfz14_1
          try clear hfz14_2
          try clear hfz14_3
          try clear hfz14_4
          try clear hfz16_0
          try clear hfz16_1
          try clear hfz16_2
          try clear hfz16_3
          try clear hfz16_4
          try clear hfz17_0
          try clear hfz17_1
          try clear hfz17_2
          try clear hfz17_3
          try clear hfz17_4
          try clear hfz19_0
          try clear hfz19_1
          try clear hfz19_2
          try clear hfz19_3
          try clear hfz19_4
          try clear hfz20_0
          try clear hfz20_1
          try clear hfz20_2
          try clear hfz20_3
          try clear hfz20_4
          try clear hfz23_0
          try clear hfz23_1
          try clear hfz23_2
          try clear hfz23_3
          try clear hfz23_4
          try clear hfz24_0
          try clear hfz24_1
          try clear hfz24_2
          try clear hfz24_3
          try clear hfz24_4
          try clear hfz26_0
          try clear hfz26_1
          try clear hfz26_2
          try clear hfz26_3
          try clear hfz26_4
          try clear hfz27_0
          try clear hfz27_1
          try clear hfz27_2
          try clear hfz27_3
          try clear hfz27_4
          try clear hfz29_0
          try clear hfz29_1
          try clear hfz29_2
          try clear hfz29_3
          try clear hfz29_4
          try clear hfz30_0
          try clear hfz30_1
          try clear hfz30_2
          try clear hfz30_3
          try clear hfz30_4
          try clear hfz32_0
          try clear hfz32_1
          try clear hfz32_2
          try clear hfz32_3
          try clear hfz32_4
          try clear hfz33_0
          try clear hfz33_1
          try clear hfz33_2
          try clear hfz33_3
          try clear hfz33_4
          try clear hfz36_0
          try clear hfz36_1
          try clear hfz36_2
          try clear hfz36_3
          try clear hfz36_4
          try clear p2
          obtain ⟨x54_2, rfl, HA, HK2, BK256, BK257, HB⟩ := hrel
          cases gk with
          | zero => exact absurd HA.out (by simp [spec_Same.l0])
          | succ k2 =>
            have H := HA.out
            clear HA
            simp only [spec_Same.l0] at H
            by_cases c37 : x54_2 < (l0_4.length : Int)
            · rw [if_pos c37] at H
              have c37b0 : decide (x54_2 < (l0_4.length : Int)) = true := decide_eq_true c37
              clear c37
              by_cases c38 : a0_0 = 2
              · rw [if_pos c38] at H
                have c38b0 : (a0_0 == 2) = true := beq_iff_eq.mpr c38
                have c38b1 : (a0_0 != 2) = false := bne_eq_false_iff_eq.mpr c38
                clear c38
                by_cases c39 : 0 ≤ x54_2
                · rw [if_pos c39] at H
                  have c39b0 : decide (0 ≤ x54_2) = true := decide_eq_true c39
                  clear c39
                  by_cases c40 : x54_2 < (l0_3.length : Int)
                  · rw [if_pos c40] at H
                    have c40b0 : decide (x54_2 < (l0_3.length : Int)) = true := decide_eq_true c40
                    clear c40
                    replace H := Option.bind_eq_some_iff.mp H
                    obtain ⟨t259, A410, H⟩ := H
                    replace H : (if t259 < 0 then (spec_Same.j2 k2 a2 x54_2 t259 (l0_4.length : Int) x54_2 true a0_0 a0_1 a0_2 l0_3 l0_4 a1_0 a1_1 a1_2 l1_3 l1_4) else (if t259 = x54_2 then (spec_Same.j2 k2 a2 x54_2 t259 (l0_4.length : Int) x54_2 false a0_0 a0_1 a0_2 l0_3 l0_4 a1_0 a1_1 a1_2 l1_3 l1_4) else (spec_Same.j2 k2 a2 x54_2 t259 (l0_4.length : Int) x54_2 (!a2) a0_0 a0_1 a0_2 l0_3 l0_4 a1_0 a1_1 a1_2 l1_3 l1_4))) = some r := H
                    have A41 := Aside0.mk A410
                    clear A410
                    have HC42 := Aside0.mk H
                    clear H
                    have hnb43 := NB256_257.out
                    have hnc43 := NB257_256.out
                    have hcz44_0 : wr.cell? ⟨gb256, 0, none⟩ = some (.int .i64 a0_0) := (blk_cell BK256.out 0).trans rfl
                    have hcz44_1 : wr.cell? ⟨gb256, 1, none⟩ = some (.string a0_1) := (blk_cell BK256.out 1).trans rfl
                    have hcz44_2 : wr.cell? ⟨gb256, 2, none⟩ = some (.string a0_2) := (blk_cell BK256.out 2).trans rfl
                    have hcz44_3 : wr.cell? ⟨gb256, 3, none⟩ = some (.slice A0_3 l0_3.length c0_3) := (blk_cell BK256.out 3).trans rfl
                    have hcz44_4 : wr.cell? ⟨gb256, 4, none⟩ = some (.slice A0_4 l0_4.length c0_4) := (blk_cell BK256.out 4).trans rfl
                    have hfz44_0 := blk_frozen BK256.out 0
                    have hfz44_1 := blk_frozen BK256.out 1
                    have hfz44_2 := blk_frozen BK256.out 2
                    have hfz44_3 := blk_frozen BK256.out 3
                    have hfz44_4 := blk_frozen BK256.out 4
                    try go_wp2
                    have n0_ := Aside0.mk (blk_drew BK256.out)
                    have n1_ := Aside0.mk (blk_drew BK257.out)
                    have n2_ := Aside0.mk (below_drew1 HB.out)
                    clear BK256
                    clear BK257
                    clear HB
                    have BK256 := n0_
                    have BK257 := n1_
                    have HB := n2_
                    clear n0_ n1_ n2_
                    have p258 : 0 ≤ (x54_2 : Int) := of_decide_eq_true (by first | (with_reducible assumption) | assumption)
                    have q258 : x54_2 < (l0_3.length : Int) := of_decide_eq_true (by first | (with_reducible assumption) | assumption)
                    obtain ⟨ad258, e258, hx258_0⟩ := Kd.at_string HR0_3.out x54_2 p258 q258
                    have hw258_0 := hx258_0
                    cases e258
                    replace hx258_0 := (HB.out.cell (World.block_lt_of_cell? w _ hx258_0)).trans hx258_0
                    replace p258 := eq_true p258
                    replace q258 := eq_true q258
                    refine start_ (n := 9) (S := fun w' => w'.cell? ⟨gb257, 0, none⟩ = some (.int .i64 a1_0) ∧ w'.cell? ⟨gb257, 1, none⟩ = some (.string a1_1) ∧ w'.cell? ⟨gb257, 2, none⟩ = some (.string a1_2) ∧ w'.cell? ⟨gb257, 3, none⟩ = some (.slice A1_3 l1_3.length c1_3) ∧ w'.cell? ⟨gb257, 4, none⟩ = some (.slice A1_4 l1_4.length c1_4) ∧ w'.cell? ⟨gb256, 0, none⟩ = some (.int .i64 a0_0) ∧ w'.cell? ⟨gb256, 1, none⟩ = some (.string a0_1) ∧ w'.cell? ⟨gb256, 2, none⟩ = some (.string a0_2) ∧ w'.cell? ⟨gb256, 3, none⟩ = some (.slice (some ad258) l0_3.length c0_3) ∧ w'.cell? ⟨gb256, 4, none⟩ = some (.slice A0_4 l0_4.length c0_4) ∧ w'.cell? (ad258.add (x54_2).toNat) = some (.string (rdOf ByteArray.empty l0_3 x54_2))) (ds := []) #[false, false, false, false, false, false, false, false, false] (by kernel_rfl) rfl rfl ⟨(blk_cell BK257.out 0).trans rfl, (blk_cell BK257.out 1).trans rfl, (blk_cell BK257.out 2).trans rfl, (blk_cell BK257.out 3).trans rfl, (blk_cell BK257.out 4).trans rfl, (blk_cell BK256.out 0).trans rfl, (blk_cell BK256.out 1).trans rfl, (blk_cell BK256.out 2).trans rfl, (blk_cell BK256.out 3).trans rfl, (blk_cell BK256.out 4).trans rfl, ((HB.out.cell (World.block_lt_of_cell? w _ hw258_0)).trans hw258_0)⟩ (fun hHeld => ?_); refine with_tabW spec_Same.tab8 spec_Same.bits8 (fun HT_ HW_ => ?_)
                    generalize wr.drew = w45 at BK256 BK257 HB hx258_0 hHeld ⊢
                    refine pure_ (i := 0) (N := some 61) (v := ?_) (a' := ?_) #[true, false, false, false, false, false, false, false, false] rfl rfl (any_of HT_.out (by kernel_rfl)) (fun _ _ _ h => h) (Or.inl ⟨by rfl, ?_⟩) ?_ ?_
                    rotate_left
                    · intro w'
                      go_simp
                      with_reducible rfl
                    rotate_left
                    · simp only [Act.put, List.setIfInBounds_toArray, List.set_cons_zero, List.set_cons_succ, i64_w, i32_w]
                      rfl
                    refine pure_ (i := 2) (N := some 63) (v := ?_) (a' := ?_) #[true, false, true, false, false, false, false, false, false] rfl rfl (any_of HT_.out (by kernel_rfl)) (fun _ _ _ h => h) (Or.inl ⟨by rfl, ?_⟩) ?_ ?_
                    rotate_left
                    · intro w'
                      go_simp
                      with_reducible rfl
                    rotate_left
                    · simp only [Act.put, List.setIfInBounds_toArray, List.set_cons_zero, List.set_cons_succ, i64_w, i32_w]
                      rfl
                    refine pure_ (i := 4) (N := some 65) (v := ?_) (a' := ?_) #[true, false, true, false, true, false, false, false, false] rfl rfl (any_of HT_.out (by kernel_rfl)) (fun _ _ _ h => h) (Or.inl ⟨by rfl, ?_⟩) ?_ ?_
                    rotate_left
                    · intro w'
                      go_simp
                      with_reducible rfl
                    rotate_left
                    · simp only [Act.put, List.setIfInBounds_toArray, List.set_cons_zero, List.set_cons_succ, i64_w, i32_w]
                      rfl
                    refine take_ (i := 1) (N := some 62) (v := ?_) (a' := ?_) #[true, true, true, false, true, false, false, false, false] rfl rfl (take_ofW HT_.out HW_.out (by kernel_rfl)) (fun _ _ _ h => h) (Or.inl ⟨by rfl, ?_⟩) hHeld ?_ ?_
                    rotate_left
                    · rintro w' ⟨s0, s1, s2, s3, s4, s5, s6, s7, s8, s9, s10⟩
                      go_simp
                      with_reducible rfl
                    rotate_left
                    · simp only [Act.put, List.setIfInBounds_toArray, List.set_cons_zero, List.set_cons_succ, i64_w, i32_w]
                      rfl
                    refine take_ (i := 3) (N := some 64) (v := ?_) (a' := ?_) #[true, true, true, true, true, false, false, false, false] rfl rfl (take_ofW HT_.out HW_.out (by kernel_rfl)) (fun _ _ _ h => h) (Or.inl ⟨by rfl, ?_⟩) hHeld ?_ ?_
                    rotate_left
                    · rintro w' ⟨s0, s1, s2, s3, s4, s5, s6, s7, s8, s9, s10⟩
                      go_simp
                      with_reducible rfl
                    rotate_left
                    · simp only [Act.put, List.setIfInBounds_toArray, List.set_cons_zero, List.set_cons_succ, i64_w, i32_w]
                      rfl
                    refine pure_ (i := 5) (N := some 66) (v := ?_) (a' := ?_) #[true, true, true, true, true, true, false, false, false] rfl rfl (any_of HT_.out (by kernel_rfl)) (fun _ _ _ h => h) (Or.inl ⟨by rfl, ?_⟩) ?_ ?_
                    rotate_left
                    · intro w'
                      go_simp
                      with_reducible rfl
                    rotate_left
                    · simp only [Act.put, List.setIfInBounds_toArray, List.set_cons_zero, List.set_cons_succ, i64_w, i32_w]
                      rfl
                    refine take_ (i := 6) (N := some 67) (v := ?_) (a' := ?_) #[true, true, true, true, true, true, true, false, false] rfl rfl (take_ofW HT_.out HW_.out (by kernel_rfl)) (fun _ _ _ h => h) (Or.inl ⟨by rfl, ?_⟩) hHeld ?_ ?_
                    rotate_left
                    · rintro w' ⟨s0, s1, s2, s3, s4, s5, s6, s7, s8, s9, s10⟩
                      go_simp
                      with_reducible rfl
                    rotate_left
                    · simp only [Act.put, List.setIfInBounds_toArray, List.set_cons_zero, List.set_cons_succ, i64_w, i32_w]
                      rfl
                    refine one_ (i := 7) (N := some 68) #[true, true, true, true, true, true, true, true, false] rfl rfl (one_of HT_.out (by kernel_rfl)) (by decide) (fun K hK => ?_)
                    refine goes_ Tryz.func32 (by kernel_rfl) rfl #[.slice A1_3 l1_3.length c1_3, .string (rdOf ByteArray.empty l0_3 x54_2)] (by rfl) rfl rfl (by (try simp only [List.map_toArray, List.map_cons, List.map_nil]); first | done | rfl | (simp only [List.length_drop, List.length_take]; rfl)) ?_
                    with_reducible refine (spec_Place.calls k2 _ _ l1_3 (rdOf ByteArray.empty l0_3 x54_2) t259 _ ?side1 ?side2 A41.out).mono ?_
                    (case side1 => repeat (first | exact (Kd.C_below HR1_3.out HB.out) | (with_reducible refine Kd.C_alloc ?_ _) | (with_reducible refine Kd.C_drewN ?_ _) | (with_reducible refine Kd.C_drew ?_)))
                    (case side2 => exact HC1_3.out)
                    rintro e w' ⟨rfl, ⟨nd, rfl⟩⟩
                    refine ⟨_, rfl, ?_⟩
                    refine hK.out _ _ ⟨(blk_cell BK257.out 0).trans rfl, (blk_cell BK257.out 1).trans rfl, (blk_cell BK257.out 2).trans rfl, (blk_cell BK257.out 3).trans rfl, (blk_cell BK257.out 4).trans rfl, (blk_cell BK256.out 0).trans rfl, (blk_cell BK256.out 1).trans rfl, (blk_cell BK256.out 2).trans rfl, (blk_cell BK256.out 3).trans rfl, (blk_cell BK256.out 4).trans rfl, ((HB.out.cell (World.block_lt_of_cell? w _ hw258_0)).trans hw258_0)⟩ (fun hHeld => ?_)
                    clear hK K
                    refine norm_ (a' := ?_) ?_ ?_
                    rotate_left
                    · show Act.put _ (some 68) _ = _
                      simp only [Act.put, List.setIfInBounds_toArray, List.set_cons_zero, List.set_cons_succ, i64_w, i32_w]
                      rfl
                    refine pure_ (i := 8) (N := some 8) (v := ?_) (a' := ?_) #[true, true, true, true, true, true, true, true, true] rfl rfl (any_of HT_.out (by kernel_rfl)) (fun _ _ _ h => h) (Or.inl ⟨by rfl, ?_⟩) ?_ ?_
                    rotate_left
                    · intro w'
                      go_simp
                      with_reducible rfl
                    rotate_left
                    · simp only [Act.put, List.setIfInBounds_toArray, List.set_cons_zero, List.set_cons_succ, i64_w, i32_w]
                      rfl
                    refine done_ (done_of HT_.out (by kernel_rfl)) ?_
                    go_upto_region 9 with (fail)
                    go_cut [79] (fun v79 wc => ∃ (kq : Nat) (x79_41 : Bool), v79 = .bool x79_41 ∧ Aside0 (spec_Same.j2 kq a2 x54_2 t259 (l0_4.length : Int) x54_2 x79_41 a0_0 a0_1 a0_2 l0_3 l0_4 a1_0 a1_1 a1_2 l1_3 l1_4 = some r) ∧ Aside0 (kq ≤ k2) ∧ Aside0 (wc.heap[gb256]? = some (.cells #[.int .i64 a0_0, .string a0_1, .string a0_2, (.slice (some ad258) l0_3.length c0_3), (.slice A0_4 l0_4.length c0_4)] 25 (0, 0))) ∧ Aside0 (wc.heap[gb257]? = some (.cells #[.int .i64 a1_0, .string a1_1, .string a1_2, (.slice A1_3 l1_3.length c1_3), (.slice A1_4 l1_4.length c1_4)] 25 (0, 0))) ∧ Aside0 (Below w.heap.size w wc))
                    case first =>
                      have H := HC42.out
                      clear HC42
                      by_cases c46 : t259 < 0
                      · rw [if_pos c46] at H
                        have c46b0 : decide (t259 < 0) = true := decide_eq_true c46
                        clear c46
                        (first | rw [c46b0] | (simp only [i64_w, i32_w]; rw [c46b0]) | skip)
                        have H' := Aside0.mk H
                        clear H
                        go_wp2
                        go_meet
                        case rel => exact ⟨_, (true), (by first | rfl | (simp; done) | (simp [*]; done)), H', ⟨by have := HJ3.out; have := HK2.out; first | omega | exact Nat.le_refl _⟩, ⟨by (with_reducible repeat (first | refine blk_drewN ?_ _ | refine blk_drew ?_ | refine blk_alloc ?_ _)); exact BK256.out⟩, ⟨by (with_reducible repeat (first | refine blk_drewN ?_ _ | refine blk_drew ?_ | refine blk_alloc ?_ _)); exact BK257.out⟩, ⟨by repeat (first | (with_reducible first | exact HB.out | apply below_alloc | apply pw_below_drewN | apply below_drew1 | refine below_set ?_ GE256.out | refine below_set ?_ GE257.out) | exact HB.out)⟩⟩
                      · rw [if_neg c46] at H
                        have c46b0 : decide (t259 < 0) = false := decide_eq_false c46
                        clear c46
                        (first | rw [c46b0] | (simp only [i64_w, i32_w]; rw [c46b0]) | skip)
                        by_cases c47 : t259 = x54_2
                        · rw [if_pos c47] at H
                          have c47b0 : (t259 == x54_2) = true := beq_iff_eq.mpr c47
                          have c47b1 : (t259 != x54_2) = false := bne_eq_false_iff_eq.mpr c47
                          clear c47
                          have H' := Aside0.mk H
                          clear H
                          go_wp2
                          go_meet
                          case rel => exact ⟨_, (false), (by first | rfl | (simp; done) | (simp [*]; done)), H', ⟨by have := HJ3.out; have := HK2.out; first | omega | exact Nat.le_refl _⟩, ⟨by (with_reducible repeat (first | refine blk_drewN ?_ _ | refine blk_drew ?_ | refine blk_alloc ?_ _)); exact BK256.out⟩, ⟨by (with_reducible repeat (first | refine blk_drewN ?_ _ | refine blk_drew ?_ | refine blk_alloc ?_ _)); exact BK257.out⟩, ⟨by repeat (first | (with_reducible first | exact HB.out | apply below_alloc | apply pw_below_drewN | apply below_drew1 | refine below_set ?_ GE256.out | refine below_set ?_ GE257.out) | exact HB.out)⟩⟩
                        · rw [if_neg c47] at H
                          have c47b0 : (t259 == x54_2) = false := beq_eq_false_iff_ne.mpr c47
                          have c47b1 : (t259 != x54_2) = true := bne_iff_ne.mpr c47
                          have H' := Aside0.mk H
                          clear H
                          go_wp2
                          go_meet
                          case rel => exact ⟨_, (!a2), (by first | rfl | (simp; done) | (simp [*]; done)), H', ⟨by have := HJ3.out; have := HK2.out; first | omega | exact Nat.le_refl _⟩, ⟨by (with_reducible repeat (first | refine blk_drewN ?_ _ | refine blk_drew ?_ | refine blk_alloc ?_ _)); exact BK256.out⟩, ⟨by (with_reducible repeat (first | refine blk_drewN ?_ _ | refine blk_drew ?_ | refine blk_alloc ?_ _)); exact BK257.out⟩, ⟨by repeat (first | (with_reducible first | exact HB.out | apply below_alloc | apply pw_below_drewN | apply below_drew1 | refine below_set ?_ GE256.out | refine below_set ?_ GE257.out) | exact HB.out)⟩⟩
                    case rest =>
                      clear HC42
                      try clear c1
                      try clear c2
                      try clear p2
                      try clear q2
                      try clear hx2
                      try clear c3
                      try clear c4
                      try clear c7
                      try clear c7b0
                      try clear c7b1
                      try clear c8
                      try clear c8b0
                      try clear c8b1
                      try clear c9
                      try clear c9b0
                      try clear c9b1
                      try clear c10
                      try clear c10b0
                      try clear c10b1
                      try clear c11
                      try clear c11b0
                      try clear c11b1
                      try clear c11b2
                      try clear c12
                      try clear c14
                      try clear c15
                      try clear c18
                      try clear c21
                      try clear c21b0
                      try clear c21b1
                      try clear c21b2
                      try clear c22
                      try clear c25
                      try clear p25
                      try clear q25
                      try clear hx25
                      try clear c28
                      try clear c31
                      try clear c32
                      try clear c34
                      try clear c35
                      try clear c37
                      try clear c37b0
                      try clear c38
                      try clear c38b0
                      try clear c38b1
                      try clear c39
                      try clear c39b0
                      try clear c40
                      try clear c40b0
                      try clear c43
                      try clear c46
                      try clear c46b0
                      try clear c47
                      try clear c47b0
                      try clear c47b1
                      try clear hcz13_0
                      try clear hcz13_1
                      try clear hcz13_2
                      try clear hcz13_3
                      try clear hcz13_4
                      try clear hcz14_0
                      try clear hcz14_1
                      try clear hcz14_2
                      try clear hcz14_3
                      try clear hcz14_4
                      try clear hcz16_0
                      try clear hcz16_1
                      try clear hcz16_2
                      try clear hcz16_3
                      try clear hcz16_4
                      try clear hcz17_0
                      try clear hcz17_1
                      try clear hcz17_2
                      try clear hcz17_3
                      try clear hcz17_4
                      try clear hcz19_0
                      try clear hcz19_1
                      try clear hcz19_2
                      try clear hcz19_3
                      try clear hcz19_4
                      try clear hcz20_0
                      try clear hcz20_1
                      try clear hcz20_2
                      try clear hcz20_3
                      try clear hcz20_4
                      try clear hcz23_0
                      try clear hcz23_1
                      try clear hcz23_2
                      try clear hcz23_3
                      try clear hcz23_4
                      try clear hcz24_0
                      try clear hcz24_1
                      try clear hcz24_2
                      try clear hcz24_3
                      try clear hcz24_4
                      try clear hcz26_0
                      try clear hcz26_1
                      try clear hcz26_2
                      try clear hcz26_3
                      try clear hcz26_4
                      try clear hcz27_0
                      try clear hcz27_1
                      try clear hcz27_2
                      try clear hcz27_3
                      try clear hcz27_4
                      try clear hcz29_0
                      try clear hcz29_1
                      try clear hcz29_2
                      try clear hcz29_3
                      try clear hcz29_4
                      try clear hcz30_0
                      try clear hcz30_1
                      try clear hcz30_2
                      try clear hcz30_3
                      try clear hcz30_4
                      try clear hcz32_0
                      try clear hcz32_1
                      try clear hcz32_2
                      try clear hcz32_3
                      try clear hcz32_4
                      try clear hcz33_0
                      try clear hcz33_1
                      try clear hcz33_2
                      try clear hcz33_3
                      try clear hcz33_4
                      try clear hcz36_0
                      try clear hcz36_1
                      try clear hcz36_2
                      try clear hcz36_3
                      try clear hcz36_4
                      try clear hcz44_0
                      try clear hcz44_1
                      try clear hcz44_2
                      try clear hcz44_3
                      try clear hcz44_4
                      try clear hfz13_0
                      try clear hfz13_1
                      try clear hfz13_2
                      try clear hfz13_3
                      try clear hfz13_4
                      try clear hfz14_0
                      try clear hfz14_1
                      try clear hfz14_2
                      try clear hfz14_3
                      try clear hfz14_4
                      try clear hfz16_0
                      try clear hfz16_1
                      try clear hfz16_2
                      try clear hfz16_3
                      try clear hfz16_4
                      try clear hfz17_0
                      try clear hfz17_1
                      try clear hfz17_2
                      try clear hfz17_3
                      try clear hfz17_4
                      try clear hfz19_0
                      try clear hfz19_1
                      try clear hfz19_2
                      try clear hfz19_3
                      try clear hfz19_4
                      try clear hfz20_0
                      try clear hfz20_1
                      try clear hfz20_2
                      try clear hfz20_3
                      try clear hfz20_4
                      try clear hfz23_0
                      try clear hfz23_1
                      try clear hfz23_2
                      try clear hfz23_3
                      try clear hfz23_4
                      try clear hfz24_0
                      try clear hfz24_1
                      try clear hfz24_2
                      try clear hfz24_3
                      try clear hfz24_4
                      try clear hfz26_0
                      try clear hfz26_1
                      try clear hfz26_2
                      try clear hfz26_3
                      try clear hfz26_4
                      try clear hfz27_0
                      try clear hfz27_1
                      try clear hfz27_2
                      try clear hfz27_3
                      try clear hfz27_4
                      try clear hfz29_0
                      try clear hfz29_1
                      try clear hfz29_2
                      try clear hfz29_3
                      try clear hfz29_4
                      try clear hfz30_0
                      try clear hfz30_1
                      try clear hfz30_2
                      try clear hfz30_3
                      try clear hfz30_4
                      try clear hfz32_0
                      try clear hfz32_1
                      try clear hfz32_2
                      try clear hfz32_3
                      try clear hfz32_4
                      try clear hfz33_0
                      try clear hfz33_1
                      try clear hfz33_2
                      try clear hfz33_3
                      try clear hfz33_4
                      try clear hfz36_0
                      try clear hfz36_1
                      try clear hfz36_2
                      try clear hfz36_3
                      try clear hfz36_4
                      try clear hfz44_0
                      try clear hfz44_1
                      try clear hfz44_2
                      try clear hfz44_3
                      try clear hfz44_4
                      try clear hx258_0
                      try clear p2
                      try clear p258
                      try clear q258
                      obtain ⟨kq, x79_41, rfl, HA, HJ41, BK256, BK257, HB⟩ := hcut
                      cases kq with
                      | zero => exact absurd HA.out (by simp [spec_Same.j2])
                      | succ kj41 =>
                        have H := HA.out
                        clear HA
                        simp only [spec_Same.j2] at H
                        by_cases c48 : x79_41 = true
                        · subst c48
                          have H1 : (some false) = some r := by rw [if_pos rfl] at H; exact H
                          clear H
                          have H := H1
                          clear H1
                          obtain rfl := Option.some.inj H
                          go_wp2
                          go_ret
                          exact ⟨by first | rfl | (simp [errW_none, errW_some] <;> rfl) | (simp [*, errW_none, errW_some] <;> rfl), by repeat (first | (with_reducible first | exact HB.out | apply below_alloc | apply pw_below_drewN | apply below_drew1 | refine below_set ?_ GE256.out | refine below_set ?_ GE257.out) | exact HB.out)⟩
                        · replace c48 := Bool.eq_false_iff.mpr c48
                          subst c48
                          have H1 : (if 0 ≤ x54_2 then (if x54_2 < (l0_4.length : Int) then (if 0 ≤ t259 then (if t259 < (l1_4.length : Int) then ((spec_Same.f kj41 ((rd_T25 l0_4 x54_2).f0) ((rd_T25 l0_4 x54_2).f1) ((rd_T25 l0_4 x54_2).f2) ((rd_T25 l0_4 x54_2).f3) ((rd_T25 l0_4 x54_2).f4) ((rd_T25 l1_4 t259).f0) ((rd_T25 l1_4 t259).f1) ((rd_T25 l1_4 t259).f2) ((rd_T25 l1_4 t259).f3) ((rd_T25 l1_4 t259).f4) a2).bind fun t262 => (if t262 = true then (spec_Same.l0 kj41 a2 (l0_4.length : Int) (wrap64 (x54_2 + 1)) a0_0 a0_1 a0_2 l0_3 l0_4 a1_0 a1_1 a1_2 l1_3 l1_4) else (some false))) else (none)) else (none)) else (none)) else (none)) = some r := by rw [if_neg (show ¬ (false = true) by decide)] at H; exact H
                          clear H
                          have H := H1
                          clear H1
                          by_cases c49 : 0 ≤ x54_2
                          · rw [if_pos c49] at H
                            have c49b0 : decide (0 ≤ x54_2) = true := decide_eq_true c49
                            clear c49
                            by_cases c50 : x54_2 < (l0_4.length : Int)
                            · rw [if_pos c50] at H
                              have c50b0 : decide (x54_2 < (l0_4.length : Int)) = true := decide_eq_true c50
                              clear c50
                              by_cases c51 : 0 ≤ t259
                              · rw [if_pos c51] at H
                                have c51b0 : decide (0 ≤ t259) = true := decide_eq_true c51
                                clear c51
                                by_cases c52 : t259 < (l1_4.length : Int)
                                · rw [if_pos c52] at H
                                  have c52b0 : decide (t259 < (l1_4.length : Int)) = true := decide_eq_true c52
                                  clear c52
                                  replace H := Option.bind_eq_some_iff.mp H
                                  obtain ⟨t262, A530, H⟩ := H
                                  replace H : (if t262 = true then (spec_Same.l0 kj41 a2 (l0_4.length : Int) (wrap64 (x54_2 + 1)) a0_0 a0_1 a0_2 l0_3 l0_4 a1_0 a1_1 a1_2 l1_3 l1_4) else (some false)) = some r := H
                                  have A53 := Aside0.mk A530
                                  clear A530
                                  by_cases c54 : t262 = true
                                  · subst c54
                                    have H1 : (spec_Same.l0 kj41 a2 (l0_4.length : Int) (wrap64 (x54_2 + 1)) a0_0 a0_1 a0_2 l0_3 l0_4 a1_0 a1_1 a1_2 l1_3 l1_4) = some r := by rw [if_pos rfl] at H; exact H
                                    clear H
                                    have H := H1
                                    clear H1
                                    have H' := Aside0.mk H
                                    clear H
                                    try go_wp2
                                    have n0_ := Aside0.mk (blk_drew BK256.out)
                                    have n1_ := Aside0.mk (blk_drew BK257.out)
                                    have n2_ := Aside0.mk (below_drew1 HB.out)
                                    clear BK256
                                    clear BK257
                                    clear HB
                                    have BK256 := n0_
                                    have BK257 := n1_
                                    have HB := n2_
                                    clear n0_ n1_ n2_
                                    have p260 : 0 ≤ (x54_2 : Int) := of_decide_eq_true (by first | (with_reducible assumption) | assumption)
                                    have q260 : x54_2 < (l0_4.length : Int) := of_decide_eq_true (by first | (with_reducible assumption) | assumption)
                                    obtain ⟨ad260, A260_3, c260_3, A260_4, c260_4, e260, hx260_0, hx260_1, hx260_2, hx260_3, hx260_4, hl260_3, hi260_3, hl260_4, hi260_4⟩ := at_T25 HR0_4.out x54_2 p260 q260
                                    have hw260_4 := hx260_4
                                    have hw260_3 := hx260_3
                                    have hw260_2 := hx260_2
                                    have hw260_1 := hx260_1
                                    have hw260_0 := hx260_0
                                    cases e260
                                    replace hx260_0 := (HB.out.cell (World.block_lt_of_cell? w _ hx260_0)).trans hx260_0
                                    replace hx260_1 := (HB.out.cell (World.block_lt_of_cell? w _ hx260_1)).trans hx260_1
                                    replace hx260_2 := (HB.out.cell (World.block_lt_of_cell? w _ hx260_2)).trans hx260_2
                                    replace hx260_3 := (HB.out.cell (World.block_lt_of_cell? w _ hx260_3)).trans hx260_3
                                    replace hx260_4 := (HB.out.cell (World.block_lt_of_cell? w _ hx260_4)).trans hx260_4
                                    have HR260_3 := Aside0.mk hi260_3
                                    have HC260_3 := Aside0.mk hl260_3
                                    clear hi260_3 hl260_3
                                    have HR260_4 := Aside0.mk hi260_4
                                    have HC260_4 := Aside0.mk hl260_4
                                    clear hi260_4 hl260_4
                                    replace p260 := eq_true p260
                                    replace q260 := eq_true q260
                                    have p261 : 0 ≤ (t259 : Int) := of_decide_eq_true (by first | (with_reducible assumption) | assumption)
                                    have q261 : t259 < (l1_4.length : Int) := of_decide_eq_true (by first | (with_reducible assumption) | assumption)
                                    obtain ⟨ad261, A261_3, c261_3, A261_4, c261_4, e261, hx261_0, hx261_1, hx261_2, hx261_3, hx261_4, hl261_3, hi261_3, hl261_4, hi261_4⟩ := at_T25 HR1_4.out t259 p261 q261
                                    have hw261_4 := hx261_4
                                    have hw261_3 := hx261_3
                                    have hw261_2 := hx261_2
                                    have hw261_1 := hx261_1
                                    have hw261_0 := hx261_0
                                    cases e261
                                    replace hx261_0 := (HB.out.cell (World.block_lt_of_cell? w _ hx261_0)).trans hx261_0
                                    replace hx261_1 := (HB.out.cell (World.block_lt_of_cell? w _ hx261_1)).trans hx261_1
                                    replace hx261_2 := (HB.out.cell (World.block_lt_of_cell? w _ hx261_2)).trans hx261_2
                                    replace hx261_3 := (HB.out.cell (World.block_lt_of_cell? w _ hx261_3)).trans hx261_3
                                    replace hx261_4 := (HB.out.cell (World.block_lt_of_cell? w _ hx261_4)).trans hx261_4
                                    have HR261_3 := Aside0.mk hi261_3
                                    have HC261_3 := Aside0.mk hl261_3
                                    clear hi261_3 hl261_3
                                    have HR261_4 := Aside0.mk hi261_4
                                    have HC261_4 := Aside0.mk hl261_4
                                    clear hi261_4 hl261_4
                                    replace p261 := eq_true p261
                                    replace q261 := eq_true q261
                                    refine start_ (n := 13) (S := fun w' => w'.cell? ⟨gb256, 0, none⟩ = some (.int .i64 a0_0) ∧ w'.cell? ⟨gb256, 1, none⟩ = some (.string a0_1) ∧ w'.cell? ⟨gb256, 2, none⟩ = some (.string a0_2) ∧ w'.cell? ⟨gb256, 3, none⟩ = some (.slice (some ad258) l0_3.length c0_3) ∧ w'.cell? ⟨gb256, 4, none⟩ = some (.slice (some ad260) l0_4.length c0_4) ∧ w'.cell? ⟨gb257, 0, none⟩ = some (.int .i64 a1_0) ∧ w'.cell? ⟨gb257, 1, none⟩ = some (.string a1_1) ∧ w'.cell? ⟨gb257, 2, none⟩ = some (.string a1_2) ∧ w'.cell? ⟨gb257, 3, none⟩ = some (.slice A1_3 l1_3.length c1_3) ∧ w'.cell? ⟨gb257, 4, none⟩ = some (.slice (some ad261) l1_4.length c1_4) ∧ w'.cell? (ad260.add ((x54_2).toNat * 5)) = some (.int .i64 ((rd_T25 l0_4 x54_2).f0)) ∧ w'.cell? ⟨(ad260.add ((x54_2).toNat * 5)).block, (ad260.add ((x54_2).toNat * 5)).off + 1, none⟩ = some (.string ((rd_T25 l0_4 x54_2).f1)) ∧ w'.cell? ⟨(ad260.add ((x54_2).toNat * 5)).block, (ad260.add ((x54_2).toNat * 5)).off + 2, none⟩ = some (.string ((rd_T25 l0_4 x54_2).f2)) ∧ w'.cell? ⟨(ad260.add ((x54_2).toNat * 5)).block, (ad260.add ((x54_2).toNat * 5)).off + 3, none⟩ = some (.slice A260_3 ((rd_T25 l0_4 x54_2).f3).length c260_3) ∧ w'.cell? ⟨(ad260.add ((x54_2).toNat * 5)).block, (ad260.add ((x54_2).toNat * 5)).off + 4, none⟩ = some (.slice A260_4 ((rd_T25 l0_4 x54_2).f4).length c260_4) ∧ w'.cell? (ad261.add ((t259).toNat * 5)) = some (.int .i64 ((rd_T25 l1_4 t259).f0)) ∧ w'.cell? ⟨(ad261.add ((t259).toNat * 5)).block, (ad261.add ((t259).toNat * 5)).off + 1, none⟩ = some (.string ((rd_T25 l1_4 t259).f1)) ∧ w'.cell? ⟨(ad261.add ((t259).toNat * 5)).block, (ad261.add ((t259).toNat * 5)).off + 2, none⟩ = some (.string ((rd_T25 l1_4 t259).f2)) ∧ w'.cell? ⟨(ad261.add ((t259).toNat * 5)).block, (ad261.add ((t259).toNat * 5)).off + 3, none⟩ = some (.slice A261_3 ((rd_T25 l1_4 t259).f3).length c261_3) ∧ w'.cell? ⟨(ad261.add ((t259).toNat * 5)).block, (ad261.add ((t259).toNat * 5)).off + 4, none⟩ = some (.slice A261_4 ((rd_T25 l1_4 t259).f4).length c261_4)) (ds := []) #[false, false, false, false, false, false, false, false, false, false, false, false, false] (by kernel_rfl) rfl rfl ⟨(blk_cell BK256.out 0).trans rfl, (blk_cell BK256.out 1).trans rfl, (blk_cell BK256.out 2).trans rfl, (blk_cell BK256.out 3).trans rfl, (blk_cell BK256.out 4).trans rfl, (blk_cell BK257.out 0).trans rfl, (blk_cell BK257.out 1).trans rfl, (blk_cell BK257.out 2).trans rfl, (blk_cell BK257.out 3).trans rfl, (blk_cell BK257.out 4).trans rfl, ((HB.out.cell (World.block_lt_of_cell? w _ hw260_0)).trans hw260_0), ((HB.out.cell (World.block_lt_of_cell? w _ hw260_1)).trans hw260_1), ((HB.out.cell (World.block_lt_of_cell? w _ hw260_2)).trans hw260_2), ((HB.out.cell (World.block_lt_of_cell? w _ hw260_3)).trans hw260_3), ((HB.out.cell (World.block_lt_of_cell? w _ hw260_4)).trans hw260_4), ((HB.out.cell (World.block_lt_of_cell? w _ hw261_0)).trans hw261_0), ((HB.out.cell (World.block_lt_of_cell? w _ hw261_1)).trans hw261_1), ((HB.out.cell (World.block_lt_of_cell? w _ hw261_2)).trans hw261_2), ((HB.out.cell (World.block_lt_of_cell? w _ hw261_3)).trans hw261_3), ((HB.out.cell (World.block_lt_of_cell? w _ hw261_4)).trans hw261_4)⟩ (fun hHeld => ?_); refine with_tabW spec_Same.tab11 spec_Same.bits11 (fun HT_ HW_ => ?_)
                                    generalize wc.drew = w55 at BK256 BK257 HB HR260_3 HR260_4 HR261_3 HR261_4 hx260_0 hx260_1 hx260_2 hx260_3 hx260_4 hx261_0 hx261_1 hx261_2 hx261_3 hx261_4 hHeld ⊢
                                    refine pure_ (i := 0) (N := some 80) (v := ?_) (a' := ?_) #[true, false, false, false, false, false, false, false, false, false, false, false, false] rfl rfl (any_of HT_.out (by kernel_rfl)) (fun _ _ _ h => h) (Or.inl ⟨by rfl, ?_⟩) ?_ ?_
                                    rotate_left
                                    · intro w'
                                      go_simp
                                      with_reducible rfl
                                    rotate_left
                                    · simp only [Act.put, List.setIfInBounds_toArray, List.set_cons_zero, List.set_cons_succ, i64_w, i32_w]
                                      rfl
                                    refine pure_ (i := 2) (N := some 82) (v := ?_) (a' := ?_) #[true, false, true, false, false, false, false, false, false, false, false, false, false] rfl rfl (any_of HT_.out (by kernel_rfl)) (fun _ _ _ h => h) (Or.inl ⟨by rfl, ?_⟩) ?_ ?_
                                    rotate_left
                                    · intro w'
                                      go_simp
                                      with_reducible rfl
                                    rotate_left
                                    · simp only [Act.put, List.setIfInBounds_toArray, List.set_cons_zero, List.set_cons_succ, i64_w, i32_w]
                                      rfl
                                    refine pure_ (i := 5) (N := some 85) (v := ?_) (a' := ?_) #[true, false, true, false, false, true, false, false, false, false, false, false, false] rfl rfl (any_of HT_.out (by kernel_rfl)) (fun _ _ _ h => h) (Or.inl ⟨by rfl, ?_⟩) ?_ ?_
                                    rotate_left
                                    · intro w'
                                      go_simp
                                      with_reducible rfl
                                    rotate_left
                                    · simp only [Act.put, List.setIfInBounds_toArray, List.set_cons_zero, List.set_cons_succ, i64_w, i32_w]
                                      rfl
                                    refine pure_ (i := 7) (N := some 87) (v := ?_) (a' := ?_) #[true, false, true, false, false, true, false, true, false, false, false, false, false] rfl rfl (any_of HT_.out (by kernel_rfl)) (fun _ _ _ h => h) (Or.inl ⟨by rfl, ?_⟩) ?_ ?_
                                    rotate_left
                                    · intro w'
                                      go_simp
                                      with_reducible rfl
                                    rotate_left
                                    · simp only [Act.put, List.setIfInBounds_toArray, List.set_cons_zero, List.set_cons_succ, i64_w, i32_w]
                                      rfl
                                    refine pure_ (i := 10) (N := some 90) (v := ?_) (a' := ?_) #[true, false, true, false, false, true, false, true, false, false, true, false, false] rfl rfl (any_of HT_.out (by kernel_rfl)) (fun _ _ _ h => h) (Or.inl ⟨by rfl, ?_⟩) ?_ ?_
                                    rotate_left
                                    · intro w'
                                      go_simp
                                      with_reducible rfl
                                    rotate_left
                                    · simp only [Act.put, List.setIfInBounds_toArray, List.set_cons_zero, List.set_cons_succ, i64_w, i32_w]
                                      rfl
                                    refine take_ (i := 1) (N := some 81) (v := ?_) (a' := ?_) #[true, true, true, false, false, true, false, true, false, false, true, false, false] rfl rfl (take_ofW HT_.out HW_.out (by kernel_rfl)) (fun _ _ _ h => h) (Or.inl ⟨by rfl, ?_⟩) hHeld ?_ ?_
                                    rotate_left
                                    · rintro w' ⟨s0, s1, s2, s3, s4, s5, s6, s7, s8, s9, s10, s11, s12, s13, s14, s15, s16, s17, s18, s19⟩
                                      go_simp
                                      with_reducible rfl
                                    rotate_left
                                    · simp only [Act.put, List.setIfInBounds_toArray, List.set_cons_zero, List.set_cons_succ, i64_w, i32_w]
                                      rfl
                                    refine pure_ (i := 3) (N := some 83) (v := ?_) (a' := ?_) #[true, true, true, true, false, true, false, true, false, false, true, false, false] rfl rfl (any_of HT_.out (by kernel_rfl)) (fun _ _ _ h => h) (Or.inl ⟨by rfl, ?_⟩) ?_ ?_
                                    rotate_left
                                    · intro w'
                                      go_simp
                                      with_reducible rfl
                                    rotate_left
                                    · simp only [Act.put, List.setIfInBounds_toArray, List.set_cons_zero, List.set_cons_succ, i64_w, i32_w]
                                      rfl
                                    refine take_ (i := 4) (N := some 84) (v := ?_) (a' := ?_) #[true, true, true, true, true, true, false, true, false, false, true, false, false] rfl rfl (take_ofW HT_.out HW_.out (by kernel_rfl)) (fun _ _ _ h => h) (Or.inl ⟨by rfl, ?_⟩) hHeld ?_ ?_
                                    rotate_left
                                    · rintro w' ⟨s0, s1, s2, s3, s4, s5, s6, s7, s8, s9, s10, s11, s12, s13, s14, s15, s16, s17, s18, s19⟩
                                      go_simp
                                      with_reducible rfl
                                    rotate_left
                                    · simp only [Act.put, List.setIfInBounds_toArray, List.set_cons_zero, List.set_cons_succ, i64_w, i32_w]
                                      rfl
                                    refine take_ (i := 6) (N := some 86) (v := ?_) (a' := ?_) #[true, true, true, true, true, true, true, true, false, false, true, false, false] rfl rfl (take_ofW HT_.out HW_.out (by kernel_rfl)) (fun _ _ _ h => h) (Or.inl ⟨by rfl, ?_⟩) hHeld ?_ ?_
                                    rotate_left
                                    · rintro w' ⟨s0, s1, s2, s3, s4, s5, s6, s7, s8, s9, s10, s11, s12, s13, s14, s15, s16, s17, s18, s19⟩
                                      go_simp
                                      with_reducible rfl
                                    rotate_left
                                    · simp only [Act.put, List.setIfInBounds_toArray, List.set_cons_zero, List.set_cons_succ, i64_w, i32_w]
                                      rfl
                                    refine pure_ (i := 8) (N := some 88) (v := ?_) (a' := ?_) #[true, true, true, true, true, true, true, true, true, false, true, false, false] rfl rfl (any_of HT_.out (by kernel_rfl)) (fun _ _ _ h => h) (Or.inl ⟨by rfl, ?_⟩) ?_ ?_
                                    rotate_left
                                    · intro w'
                                      go_simp
                                      with_reducible rfl
                                    rotate_left
                                    · simp only [Act.put, List.setIfInBounds_toArray, List.set_cons_zero, List.set_cons_succ, i64_w, i32_w]
                                      rfl
                                    refine take_ (i := 9) (N := some 89) (v := ?_) (a' := ?_) #[true, true, true, true, true, true, true, true, true, true, true, false, false] rfl rfl (take_ofW HT_.out HW_.out (by kernel_rfl)) (fun _ _ _ h => h) (Or.inl ⟨by rfl, ?_⟩) hHeld ?_ ?_
                                    rotate_left
                                    · rintro w' ⟨s0, s1, s2, s3, s4, s5, s6, s7, s8, s9, s10, s11, s12, s13, s14, s15, s16, s17, s18, s19⟩
                                      go_simp
                                      with_reducible rfl
                                    rotate_left
                                    · simp only [Act.put, List.setIfInBounds_toArray, List.set_cons_zero, List.set_cons_succ, i64_w, i32_w]
                                      rfl
                                    refine one_ (i := 11) (N := some 91) #[true, true, true, true, true, true, true, true, true, true, true, true, false] rfl rfl (one_of HT_.out (by kernel_rfl)) (by decide) (fun K hK => ?_)
                                    refine goes_ Tryz.func14 (by kernel_rfl) rfl #[.agg #[.int .i64 ((rd_T25 l0_4 x54_2).f0), .string ((rd_T25 l0_4 x54_2).f1), .string ((rd_T25 l0_4 x54_2).f2), .slice A260_3 ((rd_T25 l0_4 x54_2).f3).length c260_3, .slice A260_4 ((rd_T25 l0_4 x54_2).f4).length c260_4], .agg #[.int .i64 ((rd_T25 l1_4 t259).f0), .string ((rd_T25 l1_4 t259).f1), .string ((rd_T25 l1_4 t259).f2), .slice A261_3 ((rd_T25 l1_4 t259).f3).length c261_3, .slice A261_4 ((rd_T25 l1_4 t259).f4).length c261_4], .bool a2] (by rfl) rfl rfl (by (try simp only [List.map_toArray, List.map_cons, List.map_nil]); first | done | rfl | (simp only [List.length_drop, List.length_take]; rfl)) ?_
                                    with_reducible refine (ih kj41 (by have := HJ3.out; have := HK2.out; have := HJ41.out; omega) ((rd_T25 l0_4 x54_2).f0) ((rd_T25 l0_4 x54_2).f1) ((rd_T25 l0_4 x54_2).f2) _ _ ((rd_T25 l0_4 x54_2).f3) _ _ ((rd_T25 l0_4 x54_2).f4) ((rd_T25 l1_4 t259).f0) ((rd_T25 l1_4 t259).f1) ((rd_T25 l1_4 t259).f2) _ _ ((rd_T25 l1_4 t259).f3) _ _ ((rd_T25 l1_4 t259).f4) a2 true _ ?side1 ?side2 ?side3 ?side4 ?side5 ?side6 ?side7 ?side8 A53.out).mono ?_
                                    (case side1 => repeat (first | exact (Kd.C_below HR260_3.out HB.out) | (with_reducible refine Kd.C_alloc ?_ _) | (with_reducible refine Kd.C_drewN ?_ _) | (with_reducible refine Kd.C_drew ?_)))
                                    (case side2 => exact HC260_3.out)
                                    (case side3 => repeat (first | exact (Kd.C_below HR260_4.out HB.out) | (with_reducible refine Kd.C_alloc ?_ _) | (with_reducible refine Kd.C_drewN ?_ _) | (with_reducible refine Kd.C_drew ?_)))
                                    (case side4 => exact HC260_4.out)
                                    (case side5 => repeat (first | exact (Kd.C_below HR261_3.out HB.out) | (with_reducible refine Kd.C_alloc ?_ _) | (with_reducible refine Kd.C_drewN ?_ _) | (with_reducible refine Kd.C_drew ?_)))
                                    (case side6 => exact HC261_3.out)
                                    (case side7 => repeat (first | exact (Kd.C_below HR261_4.out HB.out) | (with_reducible refine Kd.C_alloc ?_ _) | (with_reducible refine Kd.C_drewN ?_ _) | (with_reducible refine Kd.C_drew ?_)))
                                    (case side8 => exact HC261_4.out)
                                    rintro e w56 ⟨rfl, hb⟩
                                    refine ⟨_, rfl, ?_⟩
                                    have n0_ := Aside0.mk (blk_below (g := gb256) (o := .cells #[.int .i64 a0_0, .string a0_1, .string a0_2, .slice (some ad258) l0_3.length c0_3, .slice (some ad260) l0_4.length c0_4] 25 (0, 0)) (by (with_reducible repeat (first | refine blk_drewN ?_ _ | refine blk_drew ?_ | refine blk_alloc ?_ _)); exact BK256.out) hb)
                                    have n1_ := Aside0.mk (blk_below (g := gb257) (o := .cells #[.int .i64 a1_0, .string a1_1, .string a1_2, .slice A1_3 l1_3.length c1_3, .slice (some ad261) l1_4.length c1_4] 25 (0, 0)) (by (with_reducible repeat (first | refine blk_drewN ?_ _ | refine blk_drew ?_ | refine blk_alloc ?_ _)); exact BK257.out) hb)
                                    have n2_ := Aside0.mk (below_step (by repeat (first | (with_reducible first | exact HB.out | apply below_alloc | apply pw_below_drewN | apply below_drew1 | refine below_set ?_ GE256.out | refine below_set ?_ GE257.out) | exact HB.out)) hb)
                                    clear BK256
                                    clear BK257
                                    clear HB
                                    have BK256 := n0_
                                    have BK257 := n1_
                                    have HB := n2_
                                    clear n0_ n1_ n2_
                                    (try clear hb)
                                    (try clear hb2)
                                    (try clear hk)
                                    (try clear hi)
                                    refine hK.out _ _ ⟨(blk_cell BK256.out 0).trans rfl, (blk_cell BK256.out 1).trans rfl, (blk_cell BK256.out 2).trans rfl, (blk_cell BK256.out 3).trans rfl, (blk_cell BK256.out 4).trans rfl, (blk_cell BK257.out 0).trans rfl, (blk_cell BK257.out 1).trans rfl, (blk_cell BK257.out 2).trans rfl, (blk_cell BK257.out 3).trans rfl, (blk_cell BK257.out 4).trans rfl, ((HB.out.cell (World.block_lt_of_cell? w _ hw260_0)).trans hw260_0), ((HB.out.cell (World.block_lt_of_cell? w _ hw260_1)).trans hw260_1), ((HB.out.cell (World.block_lt_of_cell? w _ hw260_2)).trans hw260_2), ((HB.out.cell (World.block_lt_of_cell? w _ hw260_3)).trans hw260_3), ((HB.out.cell (World.block_lt_of_cell? w _ hw260_4)).trans hw260_4), ((HB.out.cell (World.block_lt_of_cell? w _ hw261_0)).trans hw261_0), ((HB.out.cell (World.block_lt_of_cell? w _ hw261_1)).trans hw261_1), ((HB.out.cell (World.block_lt_of_cell? w _ hw261_2)).trans hw261_2), ((HB.out.cell (World.block_lt_of_cell? w _ hw261_3)).trans hw261_3), ((HB.out.cell (World.block_lt_of_cell? w _ hw261_4)).trans hw261_4)⟩ (fun hHeld => ?_)
                                    clear hK K
                                    refine norm_ (a' := ?_) ?_ ?_
                                    rotate_left
                                    · show Act.put _ (some 91) _ = _
                                      simp only [Act.put, List.setIfInBounds_toArray, List.set_cons_zero, List.set_cons_succ, i64_w, i32_w]
                                      rfl
                                    refine pure_ (i := 12) (N := some 92) (v := ?_) (a' := ?_) #[true, true, true, true, true, true, true, true, true, true, true, true, true] rfl rfl (any_of HT_.out (by kernel_rfl)) (fun _ _ _ h => h) (Or.inl ⟨by rfl, ?_⟩) ?_ ?_
                                    rotate_left
                                    · intro w'
                                      go_simp
                                      with_reducible rfl
                                    rotate_left
                                    · simp only [Act.put, List.setIfInBounds_toArray, List.set_cons_zero, List.set_cons_succ, i64_w, i32_w]
                                      rfl
                                    refine done_ (done_of HT_.out (by kernel_rfl)) ?_
                                    try go_wp2
                                    go_roundg kj41
                                    case measure => have := HJ3.out; have := HK2.out; have := HJ41.out; omega
                                    case rel => exact ⟨(wrap64 (x54_2 + 1)), (by first | rfl | (simp; done) | (simp [*]; done)), H', ⟨by have := HJ3.out; have := HK2.out; have := HJ41.out; omega⟩, ⟨by (with_reducible repeat (first | refine blk_drewN ?_ _ | refine blk_drew ?_ | refine blk_alloc ?_ _)); exact BK256.out⟩, ⟨by (with_reducible repeat (first | refine blk_drewN ?_ _ | refine blk_drew ?_ | refine blk_alloc ?_ _)); exact BK257.out⟩, ⟨by repeat (first | (with_reducible first | exact HB.out | apply below_alloc | apply pw_below_drewN | apply below_drew1 | refine below_set ?_ GE256.out | refine below_set ?_ GE257.out) | exact HB.out)⟩⟩
                                  · replace c54 := Bool.eq_false_iff.mpr c54
                                    subst c54
                                    have H1 : (some false) = some r := by rw [if_neg (show ¬ (false = true) by decide)] at H; exact H
                                    clear H
                                    have H := H1
                                    clear H1
                                    obtain rfl := Option.some.inj H
                                    try go_wp2
                                    have n0_ := Aside0.mk (blk_drew BK256.out)
                                    have n1_ := Aside0.mk (blk_drew BK257.out)
                                    have n2_ := Aside0.mk (below_drew1 HB.out)
                                    clear BK256
                                    clear BK257
                                    clear HB
                                    have BK256 := n0_
                                    have BK257 := n1_
                                    have HB := n2_
                                    clear n0_ n1_ n2_
                                    have p260 : 0 ≤ (x54_2 : Int) := of_decide_eq_true (by first | (with_reducible assumption) | assumption)
                                    have q260 : x54_2 < (l0_4.length : Int) := of_decide_eq_true (by first | (with_reducible assumption) | assumption)
                                    obtain ⟨ad260, A260_3, c260_3, A260_4, c260_4, e260, hx260_0, hx260_1, hx260_2, hx260_3, hx260_4, hl260_3, hi260_3, hl260_4, hi260_4⟩ := at_T25 HR0_4.out x54_2 p260 q260
                                    have hw260_4 := hx260_4
                                    have hw260_3 := hx260_3
                                    have hw260_2 := hx260_2
                                    have hw260_1 := hx260_1
                                    have hw260_0 := hx260_0
                                    cases e260
                                    replace hx260_0 := (HB.out.cell (World.block_lt_of_cell? w _ hx260_0)).trans hx260_0
                                    replace hx260_1 := (HB.out.cell (World.block_lt_of_cell? w _ hx260_1)).trans hx260_1
                                    replace hx260_2 := (HB.out.cell (World.block_lt_of_cell? w _ hx260_2)).trans hx260_2
                                    replace hx260_3 := (HB.out.cell (World.block_lt_of_cell? w _ hx260_3)).trans hx260_3
                                    replace hx260_4 := (HB.out.cell (World.block_lt_of_cell? w _ hx260_4)).trans hx260_4
                                    have HR260_3 := Aside0.mk hi260_3
                                    have HC260_3 := Aside0.mk hl260_3
                                    clear hi260_3 hl260_3
                                    have HR260_4 := Aside0.mk hi260_4
                                    have HC260_4 := Aside0.mk hl260_4
                                    clear hi260_4 hl260_4
                                    replace p260 := eq_true p260
                                    replace q260 := eq_true q260
                                    have p261 : 0 ≤ (t259 : Int) := of_decide_eq_true (by first | (with_reducible assumption) | assumption)
                                    have q261 : t259 < (l1_4.length : Int) := of_decide_eq_true (by first | (with_reducible assumption) | assumption)
                                    obtain ⟨ad261, A261_3, c261_3, A261_4, c261_4, e261, hx261_0, hx261_1, hx261_2, hx261_3, hx261_4, hl261_3, hi261_3, hl261_4, hi261_4⟩ := at_T25 HR1_4.out t259 p261 q261
                                    have hw261_4 := hx261_4
                                    have hw261_3 := hx261_3
                                    have hw261_2 := hx261_2
                                    have hw261_1 := hx261_1
                                    have hw261_0 := hx261_0
                                    cases e261
                                    replace hx261_0 := (HB.out.cell (World.block_lt_of_cell? w _ hx261_0)).trans hx261_0
                                    replace hx261_1 := (HB.out.cell (World.block_lt_of_cell? w _ hx261_1)).trans hx261_1
                                    replace hx261_2 := (HB.out.cell (World.block_lt_of_cell? w _ hx261_2)).trans hx261_2
                                    replace hx261_3 := (HB.out.cell (World.block_lt_of_cell? w _ hx261_3)).trans hx261_3
                                    replace hx261_4 := (HB.out.cell (World.block_lt_of_cell? w _ hx261_4)).trans hx261_4
                                    have HR261_3 := Aside0.mk hi261_3
                                    have HC261_3 := Aside0.mk hl261_3
                                    clear hi261_3 hl261_3
                                    have HR261_4 := Aside0.mk hi261_4
                                    have HC261_4 := Aside0.mk hl261_4
                                    clear hi261_4 hl261_4
                                    replace p261 := eq_true p261
                                    replace q261 := eq_true q261
                                    refine start_ (n := 13) (S := fun w' => w'.cell? ⟨gb256, 0, none⟩ = some (.int .i64 a0_0) ∧ w'.cell? ⟨gb256, 1, none⟩ = some (.string a0_1) ∧ w'.cell? ⟨gb256, 2, none⟩ = some (.string a0_2) ∧ w'.cell? ⟨gb256, 3, none⟩ = some (.slice (some ad258) l0_3.length c0_3) ∧ w'.cell? ⟨gb256, 4, none⟩ = some (.slice (some ad260) l0_4.length c0_4) ∧ w'.cell? ⟨gb257, 0, none⟩ = some (.int .i64 a1_0) ∧ w'.cell? ⟨gb257, 1, none⟩ = some (.string a1_1) ∧ w'.cell? ⟨gb257, 2, none⟩ = some (.string a1_2) ∧ w'.cell? ⟨gb257, 3, none⟩ = some (.slice A1_3 l1_3.length c1_3) ∧ w'.cell? ⟨gb257, 4, none⟩ = some (.slice (some ad261) l1_4.length c1_4) ∧ w'.cell? (ad260.add ((x54_2).toNat * 5)) = some (.int .i64 ((rd_T25 l0_4 x54_2).f0)) ∧ w'.cell? ⟨(ad260.add ((x54_2).toNat * 5)).block, (ad260.add ((x54_2).toNat * 5)).off + 1, none⟩ = some (.string ((rd_T25 l0_4 x54_2).f1)) ∧ w'.cell? ⟨(ad260.add ((x54_2).toNat * 5)).block, (ad260.add ((x54_2).toNat * 5)).off + 2, none⟩ = some (.string ((rd_T25 l0_4 x54_2).f2)) ∧ w'.cell? ⟨(ad260.add ((x54_2).toNat * 5)).block, (ad260.add ((x54_2).toNat * 5)).off + 3, none⟩ = some (.slice A260_3 ((rd_T25 l0_4 x54_2).f3).length c260_3) ∧ w'.cell? ⟨(ad260.add ((x54_2).toNat * 5)).block, (ad260.add ((x54_2).toNat * 5)).off + 4, none⟩ = some (.slice A260_4 ((rd_T25 l0_4 x54_2).f4).length c260_4) ∧ w'.cell? (ad261.add ((t259).toNat * 5)) = some (.int .i64 ((rd_T25 l1_4 t259).f0)) ∧ w'.cell? ⟨(ad261.add ((t259).toNat * 5)).block, (ad261.add ((t259).toNat * 5)).off + 1, none⟩ = some (.string ((rd_T25 l1_4 t259).f1)) ∧ w'.cell? ⟨(ad261.add ((t259).toNat * 5)).block, (ad261.add ((t259).toNat * 5)).off + 2, none⟩ = some (.string ((rd_T25 l1_4 t259).f2)) ∧ w'.cell? ⟨(ad261.add ((t259).toNat * 5)).block, (ad261.add ((t259).toNat * 5)).off + 3, none⟩ = some (.slice A261_3 ((rd_T25 l1_4 t259).f3).length c261_3) ∧ w'.cell? ⟨(ad261.add ((t259).toNat * 5)).block, (ad261.add ((t259).toNat * 5)).off + 4, none⟩ = some (.slice A261_4 ((rd_T25 l1_4 t259).f4).length c261_4)) (ds := []) #[false, false, false, false, false, false, false, false, false, false, false, false, false] (by kernel_rfl) rfl rfl ⟨(blk_cell BK256.out 0).trans rfl, (blk_cell BK256.out 1).trans rfl, (blk_cell BK256.out 2).trans rfl, (blk_cell BK256.out 3).trans rfl, (blk_cell BK256.out 4).trans rfl, (blk_cell BK257.out 0).trans rfl, (blk_cell BK257.out 1).trans rfl, (blk_cell BK257.out 2).trans rfl, (blk_cell BK257.out 3).trans rfl, (blk_cell BK257.out 4).trans rfl, ((HB.out.cell (World.block_lt_of_cell? w _ hw260_0)).trans hw260_0), ((HB.out.cell (World.block_lt_of_cell? w _ hw260_1)).trans hw260_1), ((HB.out.cell (World.block_lt_of_cell? w _ hw260_2)).trans hw260_2), ((HB.out.cell (World.block_lt_of_cell? w _ hw260_3)).trans hw260_3), ((HB.out.cell (World.block_lt_of_cell? w _ hw260_4)).trans hw260_4), ((HB.out.cell (World.block_lt_of_cell? w _ hw261_0)).trans hw261_0), ((HB.out.cell (World.block_lt_of_cell? w _ hw261_1)).trans hw261_1), ((HB.out.cell (World.block_lt_of_cell? w _ hw261_2)).trans hw261_2), ((HB.out.cell (World.block_lt_of_cell? w _ hw261_3)).trans hw261_3), ((HB.out.cell (World.block_lt_of_cell? w _ hw261_4)).trans hw261_4)⟩ (fun hHeld => ?_); refine with_tabW spec_Same.tab11 spec_Same.bits11 (fun HT_ HW_ => ?_)
                                    generalize wc.drew = w57 at BK256 BK257 HB HR260_3 HR260_4 HR261_3 HR261_4 hx260_0 hx260_1 hx260_2 hx260_3 hx260_4 hx261_0 hx261_1 hx261_2 hx261_3 hx261_4 hHeld ⊢
                                    refine pure_ (i := 0) (N := some 80) (v := ?_) (a' := ?_) #[true, false, false, false, false, false, false, false, false, false, false, false, false] rfl rfl (any_of HT_.out (by kernel_rfl)) (fun _ _ _ h => h) (Or.inl ⟨by rfl, ?_⟩) ?_ ?_
                                    rotate_left
                                    · intro w'
                                      go_simp
                                      with_reducible rfl
                                    rotate_left
                                    · simp only [Act.put, List.setIfInBounds_toArray, List.set_cons_zero, List.set_cons_succ, i64_w, i32_w]
                                      rfl
                                    refine pure_ (i := 2) (N := some 82) (v := ?_) (a' := ?_) #[true, false, true, false, false, false, false, false, false, false, false, false, false] rfl rfl (any_of HT_.out (by kernel_rfl)) (fun _ _ _ h => h) (Or.inl ⟨by rfl, ?_⟩) ?_ ?_
                                    rotate_left
                                    · intro w'
                                      go_simp
                                      with_reducible rfl
                                    rotate_left
                                    · simp only [Act.put, List.setIfInBounds_toArray, List.set_cons_zero, List.set_cons_succ, i64_w, i32_w]
                                      rfl
                                    refine pure_ (i := 5) (N := some 85) (v := ?_) (a' := ?_) #[true, false, true, false, false, true, false, false, false, false, false, false, false] rfl rfl (any_of HT_.out (by kernel_rfl)) (fun _ _ _ h => h) (Or.inl ⟨by rfl, ?_⟩) ?_ ?_
                                    rotate_left
                                    · intro w'
                                      go_simp
                                      with_reducible rfl
                                    rotate_left
                                    · simp only [Act.put, List.setIfInBounds_toArray, List.set_cons_zero, List.set_cons_succ, i64_w, i32_w]
                                      rfl
                                    refine pure_ (i := 7) (N := some 87) (v := ?_) (a' := ?_) #[true, false, true, false, false, true, false, true, false, false, false, false, false] rfl rfl (any_of HT_.out (by kernel_rfl)) (fun _ _ _ h => h) (Or.inl ⟨by rfl, ?_⟩) ?_ ?_
                                    rotate_left
                                    · intro w'
                                      go_simp
                                      with_reducible rfl
                                    rotate_left
                                    · simp only [Act.put, List.setIfInBounds_toArray, List.set_cons_zero, List.set_cons_succ, i64_w, i32_w]
                                      rfl
                                    refine pure_ (i := 10) (N := some 90) (v := ?_) (a' := ?_) #[true, false, true, false, false, true, false, true, false, false, true, false, false] rfl rfl (any_of HT_.out (by kernel_rfl)) (fun _ _ _ h => h) (Or.inl ⟨by rfl, ?_⟩) ?_ ?_
                                    rotate_left
                                    · intro w'
                                      go_simp
                                      with_reducible rfl
                                    rotate_left
                                    · simp only [Act.put, List.setIfInBounds_toArray, List.set_cons_zero, List.set_cons_succ, i64_w, i32_w]
                                      rfl
                                    refine take_ (i := 1) (N := some 81) (v := ?_) (a' := ?_) #[true, true, true, false, false, true, false, true, false, false, true, false, false] rfl rfl (take_ofW HT_.out HW_.out (by kernel_rfl)) (fun _ _ _ h => h) (Or.inl ⟨by rfl, ?_⟩) hHeld ?_ ?_
                                    rotate_left
                                    · rintro w' ⟨s0, s1, s2, s3, s4, s5, s6, s7, s8, s9, s10, s11, s12, s13, s14, s15, s16, s17, s18, s19⟩
                                      go_simp
                                      with_reducible rfl
                                    rotate_left
                                    · simp only [Act.put, List.setIfInBounds_toArray, List.set_cons_zero, List.set_cons_succ, i64_w, i32_w]
                                      rfl
                                    refine pure_ (i := 3) (N := some 83) (v := ?_) (a' := ?_) #[true, true, true, true, false, true, false, true, false, false, true, false, false] rfl rfl (any_of HT_.out (by kernel_rfl)) (fun _ _ _ h => h) (Or.inl ⟨by rfl, ?_⟩) ?_ ?_
                                    rotate_left
                                    · intro w'
                                      go_simp
                                      with_reducible rfl
                                    rotate_left
                                    · simp only [Act.put, List.setIfInBounds_toArray, List.set_cons_zero, List.set_cons_succ, i64_w, i32_w]
                                      rfl
                                    refine take_ (i := 4) (N := some 84) (v := ?_) (a' := ?_) #[true, true, true, true, true, true, false, true, false, false, true, false, false] rfl rfl (take_ofW HT_.out HW_.out (by kernel_rfl)) (fun _ _ _ h => h) (Or.inl ⟨by rfl, ?_⟩) hHeld ?_ ?_
                                    rotate_left
                                    · rintro w' ⟨s0, s1, s2, s3, s4, s5, s6, s7, s8, s9, s10, s11, s12, s13, s14, s15, s16, s17, s18, s19⟩
                                      go_simp
                                      with_reducible rfl
                                    rotate_left
                                    · simp only [Act.put, List.setIfInBounds_toArray, List.set_cons_zero, List.set_cons_succ, i64_w, i32_w]
                                      rfl
                                    refine take_ (i := 6) (N := some 86) (v := ?_) (a' := ?_) #[true, true, true, true, true, true, true, true, false, false, true, false, false] rfl rfl (take_ofW HT_.out HW_.out (by kernel_rfl)) (fun _ _ _ h => h) (Or.inl ⟨by rfl, ?_⟩) hHeld ?_ ?_
                                    rotate_left
                                    · rintro w' ⟨s0, s1, s2, s3, s4, s5, s6, s7, s8, s9, s10, s11, s12, s13, s14, s15, s16, s17, s18, s19⟩
                                      go_simp
                                      with_reducible rfl
                                    rotate_left
                                    · simp only [Act.put, List.setIfInBounds_toArray, List.set_cons_zero, List.set_cons_succ, i64_w, i32_w]
                                      rfl
                                    refine pure_ (i := 8) (N := some 88) (v := ?_) (a' := ?_) #[true, true, true, true, true, true, true, true, true, false, true, false, false] rfl rfl (any_of HT_.out (by kernel_rfl)) (fun _ _ _ h => h) (Or.inl ⟨by rfl, ?_⟩) ?_ ?_
                                    rotate_left
                                    · intro w'
                                      go_simp
                                      with_reducible rfl
                                    rotate_left
                                    · simp only [Act.put, List.setIfInBounds_toArray, List.set_cons_zero, List.set_cons_succ, i64_w, i32_w]
                                      rfl
                                    refine take_ (i := 9) (N := some 89) (v := ?_) (a' := ?_) #[true, true, true, true, true, true, true, true, true, true, true, false, false] rfl rfl (take_ofW HT_.out HW_.out (by kernel_rfl)) (fun _ _ _ h => h) (Or.inl ⟨by rfl, ?_⟩) hHeld ?_ ?_
                                    rotate_left
                                    · rintro w' ⟨s0, s1, s2, s3, s4, s5, s6, s7, s8, s9, s10, s11, s12, s13, s14, s15, s16, s17, s18, s19⟩
                                      go_simp
                                      with_reducible rfl
                                    rotate_left
                                    · simp only [Act.put, List.setIfInBounds_toArray, List.set_cons_zero, List.set_cons_succ, i64_w, i32_w]
                                      rfl
                                    refine one_ (i := 11) (N := some 91) #[true, true, true, true, true, true, true, true, true, true, true, true, false] rfl rfl (one_of HT_.out (by kernel_rfl)) (by decide) (fun K hK => ?_)
                                    refine goes_ Tryz.func14 (by kernel_rfl) rfl #[.agg #[.int .i64 ((rd_T25 l0_4 x54_2).f0), .string ((rd_T25 l0_4 x54_2).f1), .string ((rd_T25 l0_4 x54_2).f2), .slice A260_3 ((rd_T25 l0_4 x54_2).f3).length c260_3, .slice A260_4 ((rd_T25 l0_4 x54_2).f4).length c260_4], .agg #[.int .i64 ((rd_T25 l1_4 t259).f0), .string ((rd_T25 l1_4 t259).f1), .string ((rd_T25 l1_4 t259).f2), .slice A261_3 ((rd_T25 l1_4 t259).f3).length c261_3, .slice A261_4 ((rd_T25 l1_4 t259).f4).length c261_4], .bool a2] (by rfl) rfl rfl (by (try simp only [List.map_toArray, List.map_cons, List.map_nil]); first | done | rfl | (simp only [List.length_drop, List.length_take]; rfl)) ?_
                                    with_reducible refine (ih kj41 (by have := HJ3.out; have := HK2.out; have := HJ41.out; omega) ((rd_T25 l0_4 x54_2).f0) ((rd_T25 l0_4 x54_2).f1) ((rd_T25 l0_4 x54_2).f2) _ _ ((rd_T25 l0_4 x54_2).f3) _ _ ((rd_T25 l0_4 x54_2).f4) ((rd_T25 l1_4 t259).f0) ((rd_T25 l1_4 t259).f1) ((rd_T25 l1_4 t259).f2) _ _ ((rd_T25 l1_4 t259).f3) _ _ ((rd_T25 l1_4 t259).f4) a2 false _ ?side1 ?side2 ?side3 ?side4 ?side5 ?side6 ?side7 ?side8 A53.out).mono ?_
                                    (case side1 => repeat (first | exact (Kd.C_below HR260_3.out HB.out) | (with_reducible refine Kd.C_alloc ?_ _) | (with_reducible refine Kd.C_drewN ?_ _) | (with_reducible refine Kd.C_drew ?_)))
                                    (case side2 => exact HC260_3.out)
                                    (case side3 => repeat (first | exact (Kd.C_below HR260_4.out HB.out) | (with_reducible refine Kd.C_alloc ?_ _) | (with_reducible refine Kd.C_drewN ?_ _) | (with_reducible refine Kd.C_drew ?_)))
                                    (case side4 => exact HC260_4.out)
                                    (case side5 => repeat (first | exact (Kd.C_below HR261_3.out HB.out) | (with_reducible refine Kd.C_alloc ?_ _) | (with_reducible refine Kd.C_drewN ?_ _) | (with_reducible refine Kd.C_drew ?_)))
                                    (case side6 => exact HC261_3.out)
                                    (case side7 => repeat (first | exact (Kd.C_below HR261_4.out HB.out) | (with_reducible refine Kd.C_alloc ?_ _) | (with_reducible refine Kd.C_drewN ?_ _) | (with_reducible refine Kd.C_drew ?_)))
                                    (case side8 => exact HC261_4.out)
                                    rintro e w58 ⟨rfl, hb⟩
                                    refine ⟨_, rfl, ?_⟩
                                    have n0_ := Aside0.mk (blk_below (g := gb256) (o := .cells #[.int .i64 a0_0, .string a0_1, .string a0_2, .slice (some ad258) l0_3.length c0_3, .slice (some ad260) l0_4.length c0_4] 25 (0, 0)) (by (with_reducible repeat (first | refine blk_drewN ?_ _ | refine blk_drew ?_ | refine blk_alloc ?_ _)); exact BK256.out) hb)
                                    have n1_ := Aside0.mk (blk_below (g := gb257) (o := .cells #[.int .i64 a1_0, .string a1_1, .string a1_2, .slice A1_3 l1_3.length c1_3, .slice (some ad261) l1_4.length c1_4] 25 (0, 0)) (by (with_reducible repeat (first | refine blk_drewN ?_ _ | refine blk_drew ?_ | refine blk_alloc ?_ _)); exact BK257.out) hb)
                                    have n2_ := Aside0.mk (below_step (by repeat (first | (with_reducible first | exact HB.out | apply below_alloc | apply pw_below_drewN | apply below_drew1 | refine below_set ?_ GE256.out | refine below_set ?_ GE257.out) | exact HB.out)) hb)
                                    clear BK256
                                    clear BK257
                                    clear HB
                                    have BK256 := n0_
                                    have BK257 := n1_
                                    have HB := n2_
                                    clear n0_ n1_ n2_
                                    (try clear hb)
                                    (try clear hb2)
                                    (try clear hk)
                                    (try clear hi)
                                    refine hK.out _ _ ⟨(blk_cell BK256.out 0).trans rfl, (blk_cell BK256.out 1).trans rfl, (blk_cell BK256.out 2).trans rfl, (blk_cell BK256.out 3).trans rfl, (blk_cell BK256.out 4).trans rfl, (blk_cell BK257.out 0).trans rfl, (blk_cell BK257.out 1).trans rfl, (blk_cell BK257.out 2).trans rfl, (blk_cell BK257.out 3).trans rfl, (blk_cell BK257.out 4).trans rfl, ((HB.out.cell (World.block_lt_of_cell? w _ hw260_0)).trans hw260_0), ((HB.out.cell (World.block_lt_of_cell? w _ hw260_1)).trans hw260_1), ((HB.out.cell (World.block_lt_of_cell? w _ hw260_2)).trans hw260_2), ((HB.out.cell (World.block_lt_of_cell? w _ hw260_3)).trans hw260_3), ((HB.out.cell (World.block_lt_of_cell? w _ hw260_4)).trans hw260_4), ((HB.out.cell (World.block_lt_of_cell? w _ hw261_0)).trans hw261_0), ((HB.out.cell (World.block_lt_of_cell? w _ hw261_1)).trans hw261_1), ((HB.out.cell (World.block_lt_of_cell? w _ hw261_2)).trans hw261_2), ((HB.out.cell (World.block_lt_of_cell? w _ hw261_3)).trans hw261_3), ((HB.out.cell (World.block_lt_of_cell? w _ hw261_4)).trans hw261_4)⟩ (fun hHeld => ?_)
                                    clear hK K
                                    refine norm_ (a' := ?_) ?_ ?_
                                    rotate_left
                                    · show Act.put _ (some 91) _ = _
                                      simp only [Act.put, List.setIfInBounds_toArray, List.set_cons_zero, List.set_cons_succ, i64_w, i32_w]
                                      rfl
                                    refine pure_ (i := 12) (N := some 92) (v := ?_) (a' := ?_) #[true, true, true, true, true, true, true, true, true, true, true, true, true] rfl rfl (any_of HT_.out (by kernel_rfl)) (fun _ _ _ h => h) (Or.inl ⟨by rfl, ?_⟩) ?_ ?_
                                    rotate_left
                                    · intro w'
                                      go_simp
                                      with_reducible rfl
                                    rotate_left
                                    · simp only [Act.put, List.setIfInBounds_toArray, List.set_cons_zero, List.set_cons_succ, i64_w, i32_w]
                                      rfl
                                    refine done_ (done_of HT_.out (by kernel_rfl)) ?_
                                    try go_wp2
                                    go_ret
                                    exact ⟨by first | rfl | (simp [errW_none, errW_some] <;> rfl) | (simp [*, errW_none, errW_some] <;> rfl), by repeat (first | (with_reducible first | exact HB.out | apply below_alloc | apply pw_below_drewN | apply below_drew1 | refine below_set ?_ GE256.out | refine below_set ?_ GE257.out) | exact HB.out)⟩
                                · rw [if_neg c52] at H
                                  exact absurd H (by simp)
                              · rw [if_neg c51] at H
                                exact absurd H (by simp)
                            · rw [if_neg c50] at H
                              exact absurd H (by simp)
                          · rw [if_neg c49] at H
                            exact absurd H (by simp)
                  · rw [if_neg c40] at H
                    exact absurd H (by simp)
                · rw [if_neg c39] at H
                  exact absurd H (by simp)
              · rw [if_neg c38] at H
                have c38b0 : (a0_0 == 2) = false := beq_eq_false_iff_ne.mpr c38
                have c38b1 : (a0_0 != 2) = true := bne_iff_ne.mpr c38
                by_cases c59 : 0 ≤ x54_2
                · rw [if_pos c59] at H
                  have c59b0 : decide (0 ≤ x54_2) = true := decide_eq_true c59
                  clear c59
                  by_cases c60 : x54_2 < (l0_4.length : Int)
                  · rw [if_pos c60] at H
                    have c60b0 : decide (x54_2 < (l0_4.length : Int)) = true := decide_eq_true c60
                    clear c60
                    by_cases c61 : x54_2 < (l1_4.length : Int)
                    · rw [if_pos c61] at H
                      have c61b0 : decide (x54_2 < (l1_4.length : Int)) = true := decide_eq_true c61
                      clear c61
                      replace H := Option.bind_eq_some_iff.mp H
                      obtain ⟨t265, A620, H⟩ := H
                      replace H : (if t265 = true then (spec_Same.l0 k2 a2 (l0_4.length : Int) (wrap64 (x54_2 + 1)) a0_0 a0_1 a0_2 l0_3 l0_4 a1_0 a1_1 a1_2 l1_3 l1_4) else (some false)) = some r := H
                      have A62 := Aside0.mk A620
                      clear A620
                      by_cases c63 : t265 = true
                      · subst c63
                        have H1 : (spec_Same.l0 k2 a2 (l0_4.length : Int) (wrap64 (x54_2 + 1)) a0_0 a0_1 a0_2 l0_3 l0_4 a1_0 a1_1 a1_2 l1_3 l1_4) = some r := by rw [if_pos rfl] at H; exact H
                        clear H
                        have H := H1
                        clear H1
                        have H' := Aside0.mk H
                        clear H
                        have hnb64 := NB256_257.out
                        have hnc64 := NB257_256.out
                        have hcz65_0 : wr.cell? ⟨gb256, 0, none⟩ = some (.int .i64 a0_0) := (blk_cell BK256.out 0).trans rfl
                        have hcz65_1 : wr.cell? ⟨gb256, 1, none⟩ = some (.string a0_1) := (blk_cell BK256.out 1).trans rfl
                        have hcz65_2 : wr.cell? ⟨gb256, 2, none⟩ = some (.string a0_2) := (blk_cell BK256.out 2).trans rfl
                        have hcz65_3 : wr.cell? ⟨gb256, 3, none⟩ = some (.slice A0_3 l0_3.length c0_3) := (blk_cell BK256.out 3).trans rfl
                        have hcz65_4 : wr.cell? ⟨gb256, 4, none⟩ = some (.slice A0_4 l0_4.length c0_4) := (blk_cell BK256.out 4).trans rfl
                        have hfz65_0 := blk_frozen BK256.out 0
                        have hfz65_1 := blk_frozen BK256.out 1
                        have hfz65_2 := blk_frozen BK256.out 2
                        have hfz65_3 := blk_frozen BK256.out 3
                        have hfz65_4 := blk_frozen BK256.out 4
                        try go_wp2
                        have n0_ := Aside0.mk (blk_drew BK256.out)
                        have n1_ := Aside0.mk (blk_drew BK257.out)
                        have n2_ := Aside0.mk (below_drew1 HB.out)
                        clear BK256
                        clear BK257
                        clear HB
                        have BK256 := n0_
                        have BK257 := n1_
                        have HB := n2_
                        clear n0_ n1_ n2_
                        have p263 : 0 ≤ (x54_2 : Int) := of_decide_eq_true (by first | (with_reducible assumption) | assumption)
                        have q263 : x54_2 < (l0_4.length : Int) := of_decide_eq_true (by first | (with_reducible assumption) | assumption)
                        obtain ⟨ad263, A263_3, c263_3, A263_4, c263_4, e263, hx263_0, hx263_1, hx263_2, hx263_3, hx263_4, hl263_3, hi263_3, hl263_4, hi263_4⟩ := at_T25 HR0_4.out x54_2 p263 q263
                        have hw263_4 := hx263_4
                        have hw263_3 := hx263_3
                        have hw263_2 := hx263_2
                        have hw263_1 := hx263_1
                        have hw263_0 := hx263_0
                        cases e263
                        replace hx263_0 := (HB.out.cell (World.block_lt_of_cell? w _ hx263_0)).trans hx263_0
                        replace hx263_1 := (HB.out.cell (World.block_lt_of_cell? w _ hx263_1)).trans hx263_1
                        replace hx263_2 := (HB.out.cell (World.block_lt_of_cell? w _ hx263_2)).trans hx263_2
                        replace hx263_3 := (HB.out.cell (World.block_lt_of_cell? w _ hx263_3)).trans hx263_3
                        replace hx263_4 := (HB.out.cell (World.block_lt_of_cell? w _ hx263_4)).trans hx263_4
                        have HR263_3 := Aside0.mk hi263_3
                        have HC263_3 := Aside0.mk hl263_3
                        clear hi263_3 hl263_3
                        have HR263_4 := Aside0.mk hi263_4
                        have HC263_4 := Aside0.mk hl263_4
                        clear hi263_4 hl263_4
                        replace p263 := eq_true p263
                        replace q263 := eq_true q263
                        have p264 : 0 ≤ (x54_2 : Int) := of_decide_eq_true (by first | (with_reducible assumption) | assumption)
                        have q264 : x54_2 < (l1_4.length : Int) := of_decide_eq_true (by first | (with_reducible assumption) | assumption)
                        obtain ⟨ad264, A264_3, c264_3, A264_4, c264_4, e264, hx264_0, hx264_1, hx264_2, hx264_3, hx264_4, hl264_3, hi264_3, hl264_4, hi264_4⟩ := at_T25 HR1_4.out x54_2 p264 q264
                        have hw264_4 := hx264_4
                        have hw264_3 := hx264_3
                        have hw264_2 := hx264_2
                        have hw264_1 := hx264_1
                        have hw264_0 := hx264_0
                        cases e264
                        replace hx264_0 := (HB.out.cell (World.block_lt_of_cell? w _ hx264_0)).trans hx264_0
                        replace hx264_1 := (HB.out.cell (World.block_lt_of_cell? w _ hx264_1)).trans hx264_1
                        replace hx264_2 := (HB.out.cell (World.block_lt_of_cell? w _ hx264_2)).trans hx264_2
                        replace hx264_3 := (HB.out.cell (World.block_lt_of_cell? w _ hx264_3)).trans hx264_3
                        replace hx264_4 := (HB.out.cell (World.block_lt_of_cell? w _ hx264_4)).trans hx264_4
                        have HR264_3 := Aside0.mk hi264_3
                        have HC264_3 := Aside0.mk hl264_3
                        clear hi264_3 hl264_3
                        have HR264_4 := Aside0.mk hi264_4
                        have HC264_4 := Aside0.mk hl264_4
                        clear hi264_4 hl264_4
                        replace p264 := eq_true p264
                        replace q264 := eq_true q264
                        refine start_ (n := 13) (S := fun w' => w'.cell? ⟨gb256, 0, none⟩ = some (.int .i64 a0_0) ∧ w'.cell? ⟨gb256, 1, none⟩ = some (.string a0_1) ∧ w'.cell? ⟨gb256, 2, none⟩ = some (.string a0_2) ∧ w'.cell? ⟨gb256, 3, none⟩ = some (.slice A0_3 l0_3.length c0_3) ∧ w'.cell? ⟨gb256, 4, none⟩ = some (.slice (some ad263) l0_4.length c0_4) ∧ w'.cell? ⟨gb257, 0, none⟩ = some (.int .i64 a1_0) ∧ w'.cell? ⟨gb257, 1, none⟩ = some (.string a1_1) ∧ w'.cell? ⟨gb257, 2, none⟩ = some (.string a1_2) ∧ w'.cell? ⟨gb257, 3, none⟩ = some (.slice A1_3 l1_3.length c1_3) ∧ w'.cell? ⟨gb257, 4, none⟩ = some (.slice (some ad264) l1_4.length c1_4) ∧ w'.cell? (ad263.add ((x54_2).toNat * 5)) = some (.int .i64 ((rd_T25 l0_4 x54_2).f0)) ∧ w'.cell? ⟨(ad263.add ((x54_2).toNat * 5)).block, (ad263.add ((x54_2).toNat * 5)).off + 1, none⟩ = some (.string ((rd_T25 l0_4 x54_2).f1)) ∧ w'.cell? ⟨(ad263.add ((x54_2).toNat * 5)).block, (ad263.add ((x54_2).toNat * 5)).off + 2, none⟩ = some (.string ((rd_T25 l0_4 x54_2).f2)) ∧ w'.cell? ⟨(ad263.add ((x54_2).toNat * 5)).block, (ad263.add ((x54_2).toNat * 5)).off + 3, none⟩ = some (.slice A263_3 ((rd_T25 l0_4 x54_2).f3).length c263_3) ∧ w'.cell? ⟨(ad263.add ((x54_2).toNat * 5)).block, (ad263.add ((x54_2).toNat * 5)).off + 4, none⟩ = some (.slice A263_4 ((rd_T25 l0_4 x54_2).f4).length c263_4) ∧ w'.cell? (ad264.add ((x54_2).toNat * 5)) = some (.int .i64 ((rd_T25 l1_4 x54_2).f0)) ∧ w'.cell? ⟨(ad264.add ((x54_2).toNat * 5)).block, (ad264.add ((x54_2).toNat * 5)).off + 1, none⟩ = some (.string ((rd_T25 l1_4 x54_2).f1)) ∧ w'.cell? ⟨(ad264.add ((x54_2).toNat * 5)).block, (ad264.add ((x54_2).toNat * 5)).off + 2, none⟩ = some (.string ((rd_T25 l1_4 x54_2).f2)) ∧ w'.cell? ⟨(ad264.add ((x54_2).toNat * 5)).block, (ad264.add ((x54_2).toNat * 5)).off + 3, none⟩ = some (.slice A264_3 ((rd_T25 l1_4 x54_2).f3).length c264_3) ∧ w'.cell? ⟨(ad264.add ((x54_2).toNat * 5)).block, (ad264.add ((x54_2).toNat * 5)).off + 4, none⟩ = some (.slice A264_4 ((rd_T25 l1_4 x54_2).f4).length c264_4)) (ds := []) #[false, false, false, false, false, false, false, false, false, false, false, false, false] (by kernel_rfl) rfl rfl ⟨(blk_cell BK256.out 0).trans rfl, (blk_cell BK256.out 1).trans rfl, (blk_cell BK256.out 2).trans rfl, (blk_cell BK256.out 3).trans rfl, (blk_cell BK256.out 4).trans rfl, (blk_cell BK257.out 0).trans rfl, (blk_cell BK257.out 1).trans rfl, (blk_cell BK257.out 2).trans rfl, (blk_cell BK257.out 3).trans rfl, (blk_cell BK257.out 4).trans rfl, ((HB.out.cell (World.block_lt_of_cell? w _ hw263_0)).trans hw263_0), ((HB.out.cell (World.block_lt_of_cell? w _ hw263_1)).trans hw263_1), ((HB.out.cell (World.block_lt_of_cell? w _ hw263_2)).trans hw263_2), ((HB.out.cell (World.block_lt_of_cell? w _ hw263_3)).trans hw263_3), ((HB.out.cell (World.block_lt_of_cell? w _ hw263_4)).trans hw263_4), ((HB.out.cell (World.block_lt_of_cell? w _ hw264_0)).trans hw264_0), ((HB.out.cell (World.block_lt_of_cell? w _ hw264_1)).trans hw264_1), ((HB.out.cell (World.block_lt_of_cell? w _ hw264_2)).trans hw264_2), ((HB.out.cell (World.block_lt_of_cell? w _ hw264_3)).trans hw264_3), ((HB.out.cell (World.block_lt_of_cell? w _ hw264_4)).trans hw264_4)⟩ (fun hHeld => ?_); refine with_tabW spec_Same.tab11 spec_Same.bits11 (fun HT_ HW_ => ?_)
                        generalize wr.drew = w66 at BK256 BK257 HB HR263_3 HR263_4 HR264_3 HR264_4 hx263_0 hx263_1 hx263_2 hx263_3 hx263_4 hx264_0 hx264_1 hx264_2 hx264_3 hx264_4 hHeld ⊢
                        refine pure_ (i := 0) (N := some 80) (v := ?_) (a' := ?_) #[true, false, false, false, false, false, false, false, false, false, false, false, false] rfl rfl (any_of HT_.out (by kernel_rfl)) (fun _ _ _ h => h) (Or.inl ⟨by rfl, ?_⟩) ?_ ?_
                        rotate_left
                        · intro w'
                          go_simp
                          with_reducible rfl
                        rotate_left
                        · simp only [Act.put, List.setIfInBounds_toArray, List.set_cons_zero, List.set_cons_succ, i64_w, i32_w]
                          rfl
                        refine pure_ (i := 2) (N := some 82) (v := ?_) (a' := ?_) #[true, false, true, false, false, false, false, false, false, false, false, false, false] rfl rfl (any_of HT_.out (by kernel_rfl)) (fun _ _ _ h => h) (Or.inl ⟨by rfl, ?_⟩) ?_ ?_
                        rotate_left
                        · intro w'
                          go_simp
                          with_reducible rfl
                        rotate_left
                        · simp only [Act.put, List.setIfInBounds_toArray, List.set_cons_zero, List.set_cons_succ, i64_w, i32_w]
                          rfl
                        refine pure_ (i := 5) (N := some 85) (v := ?_) (a' := ?_) #[true, false, true, false, false, true, false, false, false, false, false, false, false] rfl rfl (any_of HT_.out (by kernel_rfl)) (fun _ _ _ h => h) (Or.inl ⟨by rfl, ?_⟩) ?_ ?_
                        rotate_left
                        · intro w'
                          go_simp
                          with_reducible rfl
                        rotate_left
                        · simp only [Act.put, List.setIfInBounds_toArray, List.set_cons_zero, List.set_cons_succ, i64_w, i32_w]
                          rfl
                        refine pure_ (i := 7) (N := some 87) (v := ?_) (a' := ?_) #[true, false, true, false, false, true, false, true, false, false, false, false, false] rfl rfl (any_of HT_.out (by kernel_rfl)) (fun _ _ _ h => h) (Or.inl ⟨by rfl, ?_⟩) ?_ ?_
                        rotate_left
                        · intro w'
                          go_simp
                          with_reducible rfl
                        rotate_left
                        · simp only [Act.put, List.setIfInBounds_toArray, List.set_cons_zero, List.set_cons_succ, i64_w, i32_w]
                          rfl
                        refine pure_ (i := 10) (N := some 90) (v := ?_) (a' := ?_) #[true, false, true, false, false, true, false, true, false, false, true, false, false] rfl rfl (any_of HT_.out (by kernel_rfl)) (fun _ _ _ h => h) (Or.inl ⟨by rfl, ?_⟩) ?_ ?_
                        rotate_left
                        · intro w'
                          go_simp
                          with_reducible rfl
                        rotate_left
                        · simp only [Act.put, List.setIfInBounds_toArray, List.set_cons_zero, List.set_cons_succ, i64_w, i32_w]
                          rfl
                        refine take_ (i := 1) (N := some 81) (v := ?_) (a' := ?_) #[true, true, true, false, false, true, false, true, false, false, true, false, false] rfl rfl (take_ofW HT_.out HW_.out (by kernel_rfl)) (fun _ _ _ h => h) (Or.inl ⟨by rfl, ?_⟩) hHeld ?_ ?_
                        rotate_left
                        · rintro w' ⟨s0, s1, s2, s3, s4, s5, s6, s7, s8, s9, s10, s11, s12, s13, s14, s15, s16, s17, s18, s19⟩
                          go_simp
                          with_reducible rfl
                        rotate_left
                        · simp only [Act.put, List.setIfInBounds_toArray, List.set_cons_zero, List.set_cons_succ, i64_w, i32_w]
                          rfl
                        refine pure_ (i := 3) (N := some 83) (v := ?_) (a' := ?_) #[true, true, true, true, false, true, false, true, false, false, true, false, false] rfl rfl (any_of HT_.out (by kernel_rfl)) (fun _ _ _ h => h) (Or.inl ⟨by rfl, ?_⟩) ?_ ?_
                        rotate_left
                        · intro w'
                          go_simp
                          with_reducible rfl
                        rotate_left
                        · simp only [Act.put, List.setIfInBounds_toArray, List.set_cons_zero, List.set_cons_succ, i64_w, i32_w]
                          rfl
                        refine take_ (i := 4) (N := some 84) (v := ?_) (a' := ?_) #[true, true, true, true, true, true, false, true, false, false, true, false, false] rfl rfl (take_ofW HT_.out HW_.out (by kernel_rfl)) (fun _ _ _ h => h) (Or.inl ⟨by rfl, ?_⟩) hHeld ?_ ?_
                        rotate_left
                        · rintro w' ⟨s0, s1, s2, s3, s4, s5, s6, s7, s8, s9, s10, s11, s12, s13, s14, s15, s16, s17, s18, s19⟩
                          go_simp
                          with_reducible rfl
                        rotate_left
                        · simp only [Act.put, List.setIfInBounds_toArray, List.set_cons_zero, List.set_cons_succ, i64_w, i32_w]
                          rfl
                        refine take_ (i := 6) (N := some 86) (v := ?_) (a' := ?_) #[true, true, true, true, true, true, true, true, false, false, true, false, false] rfl rfl (take_ofW HT_.out HW_.out (by kernel_rfl)) (fun _ _ _ h => h) (Or.inl ⟨by rfl, ?_⟩) hHeld ?_ ?_
                        rotate_left
                        · rintro w' ⟨s0, s1, s2, s3, s4, s5, s6, s7, s8, s9, s10, s11, s12, s13, s14, s15, s16, s17, s18, s19⟩
                          go_simp
                          with_reducible rfl
                        rotate_left
                        · simp only [Act.put, List.setIfInBounds_toArray, List.set_cons_zero, List.set_cons_succ, i64_w, i32_w]
                          rfl
                        refine pure_ (i := 8) (N := some 88) (v := ?_) (a' := ?_) #[true, true, true, true, true, true, true, true, true, false, true, false, false] rfl rfl (any_of HT_.out (by kernel_rfl)) (fun _ _ _ h => h) (Or.inl ⟨by rfl, ?_⟩) ?_ ?_
                        rotate_left
                        · intro w'
                          go_simp
                          with_reducible rfl
                        rotate_left
                        · simp only [Act.put, List.setIfInBounds_toArray, List.set_cons_zero, List.set_cons_succ, i64_w, i32_w]
                          rfl
                        refine take_ (i := 9) (N := some 89) (v := ?_) (a' := ?_) #[true, true, true, true, true, true, true, true, true, true, true, false, false] rfl rfl (take_ofW HT_.out HW_.out (by kernel_rfl)) (fun _ _ _ h => h) (Or.inl ⟨by rfl, ?_⟩) hHeld ?_ ?_
                        rotate_left
                        · rintro w' ⟨s0, s1, s2, s3, s4, s5, s6, s7, s8, s9, s10, s11, s12, s13, s14, s15, s16, s17, s18, s19⟩
                          go_simp
                          with_reducible rfl
                        rotate_left
                        · simp only [Act.put, List.setIfInBounds_toArray, List.set_cons_zero, List.set_cons_succ, i64_w, i32_w]
                          rfl
                        refine one_ (i := 11) (N := some 91) #[true, true, true, true, true, true, true, true, true, true, true, true, false] rfl rfl (one_of HT_.out (by kernel_rfl)) (by decide) (fun K hK => ?_)
                        refine goes_ Tryz.func14 (by kernel_rfl) rfl #[.agg #[.int .i64 ((rd_T25 l0_4 x54_2).f0), .string ((rd_T25 l0_4 x54_2).f1), .string ((rd_T25 l0_4 x54_2).f2), .slice A263_3 ((rd_T25 l0_4 x54_2).f3).length c263_3, .slice A263_4 ((rd_T25 l0_4 x54_2).f4).length c263_4], .agg #[.int .i64 ((rd_T25 l1_4 x54_2).f0), .string ((rd_T25 l1_4 x54_2).f1), .string ((rd_T25 l1_4 x54_2).f2), .slice A264_3 ((rd_T25 l1_4 x54_2).f3).length c264_3, .slice A264_4 ((rd_T25 l1_4 x54_2).f4).length c264_4], .bool a2] (by rfl) rfl rfl (by (try simp only [List.map_toArray, List.map_cons, List.map_nil]); first | done | rfl | (simp only [List.length_drop, List.length_take]; rfl)) ?_
                        with_reducible refine (ih k2 (by have := HJ3.out; have := HK2.out; omega) ((rd_T25 l0_4 x54_2).f0) ((rd_T25 l0_4 x54_2).f1) ((rd_T25 l0_4 x54_2).f2) _ _ ((rd_T25 l0_4 x54_2).f3) _ _ ((rd_T25 l0_4 x54_2).f4) ((rd_T25 l1_4 x54_2).f0) ((rd_T25 l1_4 x54_2).f1) ((rd_T25 l1_4 x54_2).f2) _ _ ((rd_T25 l1_4 x54_2).f3) _ _ ((rd_T25 l1_4 x54_2).f4) a2 true _ ?side1 ?side2 ?side3 ?side4 ?side5 ?side6 ?side7 ?side8 A62.out).mono ?_
                        (case side1 => repeat (first | exact (Kd.C_below HR263_3.out HB.out) | (with_reducible refine Kd.C_alloc ?_ _) | (with_reducible refine Kd.C_drewN ?_ _) | (with_reducible refine Kd.C_drew ?_)))
                        (case side2 => exact HC263_3.out)
                        (case side3 => repeat (first | exact (Kd.C_below HR263_4.out HB.out) | (with_reducible refine Kd.C_alloc ?_ _) | (with_reducible refine Kd.C_drewN ?_ _) | (with_reducible refine Kd.C_drew ?_)))
                        (case side4 => exact HC263_4.out)
                        (case side5 => repeat (first | exact (Kd.C_below HR264_3.out HB.out) | (with_reducible refine Kd.C_alloc ?_ _) | (with_reducible refine Kd.C_drewN ?_ _) | (with_reducible refine Kd.C_drew ?_)))
                        (case side6 => exact HC264_3.out)
                        (case side7 => repeat (first | exact (Kd.C_below HR264_4.out HB.out) | (with_reducible refine Kd.C_alloc ?_ _) | (with_reducible refine Kd.C_drewN ?_ _) | (with_reducible refine Kd.C_drew ?_)))
                        (case side8 => exact HC264_4.out)
                        rintro e w67 ⟨rfl, hb⟩
                        refine ⟨_, rfl, ?_⟩
                        have n0_ := Aside0.mk (blk_below (g := gb256) (o := .cells #[.int .i64 a0_0, .string a0_1, .string a0_2, .slice A0_3 l0_3.length c0_3, .slice (some ad263) l0_4.length c0_4] 25 (0, 0)) (by (with_reducible repeat (first | refine blk_drewN ?_ _ | refine blk_drew ?_ | refine blk_alloc ?_ _)); exact BK256.out) hb)
                        have n1_ := Aside0.mk (blk_below (g := gb257) (o := .cells #[.int .i64 a1_0, .string a1_1, .string a1_2, .slice A1_3 l1_3.length c1_3, .slice (some ad264) l1_4.length c1_4] 25 (0, 0)) (by (with_reducible repeat (first | refine blk_drewN ?_ _ | refine blk_drew ?_ | refine blk_alloc ?_ _)); exact BK257.out) hb)
                        have n2_ := Aside0.mk (below_step (by repeat (first | (with_reducible first | exact HB.out | apply below_alloc | apply pw_below_drewN | apply below_drew1 | refine below_set ?_ GE256.out | refine below_set ?_ GE257.out) | exact HB.out)) hb)
                        clear BK256
                        clear BK257
                        clear HB
                        have BK256 := n0_
                        have BK257 := n1_
                        have HB := n2_
                        clear n0_ n1_ n2_
                        (try clear hb)
                        (try clear hb2)
                        (try clear hk)
                        (try clear hi)
                        refine hK.out _ _ ⟨(blk_cell BK256.out 0).trans rfl, (blk_cell BK256.out 1).trans rfl, (blk_cell BK256.out 2).trans rfl, (blk_cell BK256.out 3).trans rfl, (blk_cell BK256.out 4).trans rfl, (blk_cell BK257.out 0).trans rfl, (blk_cell BK257.out 1).trans rfl, (blk_cell BK257.out 2).trans rfl, (blk_cell BK257.out 3).trans rfl, (blk_cell BK257.out 4).trans rfl, ((HB.out.cell (World.block_lt_of_cell? w _ hw263_0)).trans hw263_0), ((HB.out.cell (World.block_lt_of_cell? w _ hw263_1)).trans hw263_1), ((HB.out.cell (World.block_lt_of_cell? w _ hw263_2)).trans hw263_2), ((HB.out.cell (World.block_lt_of_cell? w _ hw263_3)).trans hw263_3), ((HB.out.cell (World.block_lt_of_cell? w _ hw263_4)).trans hw263_4), ((HB.out.cell (World.block_lt_of_cell? w _ hw264_0)).trans hw264_0), ((HB.out.cell (World.block_lt_of_cell? w _ hw264_1)).trans hw264_1), ((HB.out.cell (World.block_lt_of_cell? w _ hw264_2)).trans hw264_2), ((HB.out.cell (World.block_lt_of_cell? w _ hw264_3)).trans hw264_3), ((HB.out.cell (World.block_lt_of_cell? w _ hw264_4)).trans hw264_4)⟩ (fun hHeld => ?_)
                        clear hK K
                        refine norm_ (a' := ?_) ?_ ?_
                        rotate_left
                        · show Act.put _ (some 91) _ = _
                          simp only [Act.put, List.setIfInBounds_toArray, List.set_cons_zero, List.set_cons_succ, i64_w, i32_w]
                          rfl
                        refine pure_ (i := 12) (N := some 92) (v := ?_) (a' := ?_) #[true, true, true, true, true, true, true, true, true, true, true, true, true] rfl rfl (any_of HT_.out (by kernel_rfl)) (fun _ _ _ h => h) (Or.inl ⟨by rfl, ?_⟩) ?_ ?_
                        rotate_left
                        · intro w'
                          go_simp
                          with_reducible rfl
                        rotate_left
                        · simp only [Act.put, List.setIfInBounds_toArray, List.set_cons_zero, List.set_cons_succ, i64_w, i32_w]
                          rfl
                        refine done_ (done_of HT_.out (by kernel_rfl)) ?_
                        try go_wp2
                        go_roundg k2
                        case measure => have := HJ3.out; have := HK2.out; omega
                        case rel => exact ⟨(wrap64 (x54_2 + 1)), (by first | rfl | (simp; done) | (simp [*]; done)), H', ⟨by have := HJ3.out; have := HK2.out; omega⟩, ⟨by (with_reducible repeat (first | refine blk_drewN ?_ _ | refine blk_drew ?_ | refine blk_alloc ?_ _)); exact BK256.out⟩, ⟨by (with_reducible repeat (first | refine blk_drewN ?_ _ | refine blk_drew ?_ | refine blk_alloc ?_ _)); exact BK257.out⟩, ⟨by repeat (first | (with_reducible first | exact HB.out | apply below_alloc | apply pw_below_drewN | apply below_drew1 | refine below_set ?_ GE256.out | refine below_set ?_ GE257.out) | exact HB.out)⟩⟩
                      · replace c63 := Bool.eq_false_iff.mpr c63
                        subst c63
                        have H1 : (some false) = some r := by rw [if_neg (show ¬ (false = true) by decide)] at H; exact H
                        clear H
                        have H := H1
                        clear H1
                        obtain rfl := Option.some.inj H
                        have hnb68 := NB256_257.out
                        have hnc68 := NB257_256.out
                        have hcz69_0 : wr.cell? ⟨gb256, 0, none⟩ = some (.int .i64 a0_0) := (blk_cell BK256.out 0).trans rfl
                        have hcz69_1 : wr.cell? ⟨gb256, 1, none⟩ = some (.string a0_1) := (blk_cell BK256.out 1).trans rfl
                        have hcz69_2 : wr.cell? ⟨gb256, 2, none⟩ = some (.string a0_2) := (blk_cell BK256.out 2).trans rfl
                        have hcz69_3 : wr.cell? ⟨gb256, 3, none⟩ = some (.slice A0_3 l0_3.length c0_3) := (blk_cell BK256.out 3).trans rfl
                        have hcz69_4 : wr.cell? ⟨gb256, 4, none⟩ = some (.slice A0_4 l0_4.length c0_4) := (blk_cell BK256.out 4).trans rfl
                        have hfz69_0 := blk_frozen BK256.out 0
                        have hfz69_1 := blk_frozen BK256.out 1
                        have hfz69_2 := blk_frozen BK256.out 2
                        have hfz69_3 := blk_frozen BK256.out 3
                        have hfz69_4 := blk_frozen BK256.out 4
                        try go_wp2
                        have n0_ := Aside0.mk (blk_drew BK256.out)
                        have n1_ := Aside0.mk (blk_drew BK257.out)
                        have n2_ := Aside0.mk (below_drew1 HB.out)
                        clear BK256
                        clear BK257
                        clear HB
                        have BK256 := n0_
                        have BK257 := n1_
                        have HB := n2_
                        clear n0_ n1_ n2_
                        have p263 : 0 ≤ (x54_2 : Int) := of_decide_eq_true (by first | (with_reducible assumption) | assumption)
                        have q263 : x54_2 < (l0_4.length : Int) := of_decide_eq_true (by first | (with_reducible assumption) | assumption)
                        obtain ⟨ad263, A263_3, c263_3, A263_4, c263_4, e263, hx263_0, hx263_1, hx263_2, hx263_3, hx263_4, hl263_3, hi263_3, hl263_4, hi263_4⟩ := at_T25 HR0_4.out x54_2 p263 q263
                        have hw263_4 := hx263_4
                        have hw263_3 := hx263_3
                        have hw263_2 := hx263_2
                        have hw263_1 := hx263_1
                        have hw263_0 := hx263_0
                        cases e263
                        replace hx263_0 := (HB.out.cell (World.block_lt_of_cell? w _ hx263_0)).trans hx263_0
                        replace hx263_1 := (HB.out.cell (World.block_lt_of_cell? w _ hx263_1)).trans hx263_1
                        replace hx263_2 := (HB.out.cell (World.block_lt_of_cell? w _ hx263_2)).trans hx263_2
                        replace hx263_3 := (HB.out.cell (World.block_lt_of_cell? w _ hx263_3)).trans hx263_3
                        replace hx263_4 := (HB.out.cell (World.block_lt_of_cell? w _ hx263_4)).trans hx263_4
                        have HR263_3 := Aside0.mk hi263_3
                        have HC263_3 := Aside0.mk hl263_3
                        clear hi263_3 hl263_3
                        have HR263_4 := Aside0.mk hi263_4
                        have HC263_4 := Aside0.mk hl263_4
                        clear hi263_4 hl263_4
                        replace p263 := eq_true p263
                        replace q263 := eq_true q263
                        have p264 : 0 ≤ (x54_2 : Int) := of_decide_eq_true (by first | (with_reducible assumption) | assumption)
                        have q264 : x54_2 < (l1_4.length : Int) := of_decide_eq_true (by first | (with_reducible assumption) | assumption)
                        obtain ⟨ad264, A264_3, c264_3, A264_4, c264_4, e264, hx264_0, hx264_1, hx264_2, hx264_3, hx264_4, hl264_3, hi264_3, hl264_4, hi264_4⟩ := at_T25 HR1_4.out x54_2 p264 q264
                        have hw264_4 := hx264_4
                        have hw264_3 := hx264_3
                        have hw264_2 := hx264_2
                        have hw264_1 := hx264_1
                        have hw264_0 := hx264_0
                        cases e264
                        replace hx264_0 := (HB.out.cell (World.block_lt_of_cell? w _ hx264_0)).trans hx264_0
                        replace hx264_1 := (HB.out.cell (World.block_lt_of_cell? w _ hx264_1)).trans hx264_1
                        replace hx264_2 := (HB.out.cell (World.block_lt_of_cell? w _ hx264_2)).trans hx264_2
                        replace hx264_3 := (HB.out.cell (World.block_lt_of_cell? w _ hx264_3)).trans hx264_3
                        replace hx264_4 := (HB.out.cell (World.block_lt_of_cell? w _ hx264_4)).trans hx264_4
                        have HR264_3 := Aside0.mk hi264_3
                        have HC264_3 := Aside0.mk hl264_3
                        clear hi264_3 hl264_3
                        have HR264_4 := Aside0.mk hi264_4
                        have HC264_4 := Aside0.mk hl264_4
                        clear hi264_4 hl264_4
                        replace p264 := eq_true p264
                        replace q264 := eq_true q264
                        refine start_ (n := 13) (S := fun w' => w'.cell? ⟨gb256, 0, none⟩ = some (.int .i64 a0_0) ∧ w'.cell? ⟨gb256, 1, none⟩ = some (.string a0_1) ∧ w'.cell? ⟨gb256, 2, none⟩ = some (.string a0_2) ∧ w'.cell? ⟨gb256, 3, none⟩ = some (.slice A0_3 l0_3.length c0_3) ∧ w'.cell? ⟨gb256, 4, none⟩ = some (.slice (some ad263) l0_4.length c0_4) ∧ w'.cell? ⟨gb257, 0, none⟩ = some (.int .i64 a1_0) ∧ w'.cell? ⟨gb257, 1, none⟩ = some (.string a1_1) ∧ w'.cell? ⟨gb257, 2, none⟩ = some (.string a1_2) ∧ w'.cell? ⟨gb257, 3, none⟩ = some (.slice A1_3 l1_3.length c1_3) ∧ w'.cell? ⟨gb257, 4, none⟩ = some (.slice (some ad264) l1_4.length c1_4) ∧ w'.cell? (ad263.add ((x54_2).toNat * 5)) = some (.int .i64 ((rd_T25 l0_4 x54_2).f0)) ∧ w'.cell? ⟨(ad263.add ((x54_2).toNat * 5)).block, (ad263.add ((x54_2).toNat * 5)).off + 1, none⟩ = some (.string ((rd_T25 l0_4 x54_2).f1)) ∧ w'.cell? ⟨(ad263.add ((x54_2).toNat * 5)).block, (ad263.add ((x54_2).toNat * 5)).off + 2, none⟩ = some (.string ((rd_T25 l0_4 x54_2).f2)) ∧ w'.cell? ⟨(ad263.add ((x54_2).toNat * 5)).block, (ad263.add ((x54_2).toNat * 5)).off + 3, none⟩ = some (.slice A263_3 ((rd_T25 l0_4 x54_2).f3).length c263_3) ∧ w'.cell? ⟨(ad263.add ((x54_2).toNat * 5)).block, (ad263.add ((x54_2).toNat * 5)).off + 4, none⟩ = some (.slice A263_4 ((rd_T25 l0_4 x54_2).f4).length c263_4) ∧ w'.cell? (ad264.add ((x54_2).toNat * 5)) = some (.int .i64 ((rd_T25 l1_4 x54_2).f0)) ∧ w'.cell? ⟨(ad264.add ((x54_2).toNat * 5)).block, (ad264.add ((x54_2).toNat * 5)).off + 1, none⟩ = some (.string ((rd_T25 l1_4 x54_2).f1)) ∧ w'.cell? ⟨(ad264.add ((x54_2).toNat * 5)).block, (ad264.add ((x54_2).toNat * 5)).off + 2, none⟩ = some (.string ((rd_T25 l1_4 x54_2).f2)) ∧ w'.cell? ⟨(ad264.add ((x54_2).toNat * 5)).block, (ad264.add ((x54_2).toNat * 5)).off + 3, none⟩ = some (.slice A264_3 ((rd_T25 l1_4 x54_2).f3).length c264_3) ∧ w'.cell? ⟨(ad264.add ((x54_2).toNat * 5)).block, (ad264.add ((x54_2).toNat * 5)).off + 4, none⟩ = some (.slice A264_4 ((rd_T25 l1_4 x54_2).f4).length c264_4)) (ds := []) #[false, false, false, false, false, false, false, false, false, false, false, false, false] (by kernel_rfl) rfl rfl ⟨(blk_cell BK256.out 0).trans rfl, (blk_cell BK256.out 1).trans rfl, (blk_cell BK256.out 2).trans rfl, (blk_cell BK256.out 3).trans rfl, (blk_cell BK256.out 4).trans rfl, (blk_cell BK257.out 0).trans rfl, (blk_cell BK257.out 1).trans rfl, (blk_cell BK257.out 2).trans rfl, (blk_cell BK257.out 3).trans rfl, (blk_cell BK257.out 4).trans rfl, ((HB.out.cell (World.block_lt_of_cell? w _ hw263_0)).trans hw263_0), ((HB.out.cell (World.block_lt_of_cell? w _ hw263_1)).trans hw263_1), ((HB.out.cell (World.block_lt_of_cell? w _ hw263_2)).trans hw263_2), ((HB.out.cell (World.block_lt_of_cell? w _ hw263_3)).trans hw263_3), ((HB.out.cell (World.block_lt_of_cell? w _ hw263_4)).trans hw263_4), ((HB.out.cell (World.block_lt_of_cell? w _ hw264_0)).trans hw264_0), ((HB.out.cell (World.block_lt_of_cell? w _ hw264_1)).trans hw264_1), ((HB.out.cell (World.block_lt_of_cell? w _ hw264_2)).trans hw264_2), ((HB.out.cell (World.block_lt_of_cell? w _ hw264_3)).trans hw264_3), ((HB.out.cell (World.block_lt_of_cell? w _ hw264_4)).trans hw264_4)⟩ (fun hHeld => ?_); refine with_tabW spec_Same.tab11 spec_Same.bits11 (fun HT_ HW_ => ?_)
                        generalize wr.drew = w70 at BK256 BK257 HB HR263_3 HR263_4 HR264_3 HR264_4 hx263_0 hx263_1 hx263_2 hx263_3 hx263_4 hx264_0 hx264_1 hx264_2 hx264_3 hx264_4 hHeld ⊢
                        refine pure_ (i := 0) (N := some 80) (v := ?_) (a' := ?_) #[true, false, false, false, false, false, false, false, false, false, false, false, false] rfl rfl (any_of HT_.out (by kernel_rfl)) (fun _ _ _ h => h) (Or.inl ⟨by rfl, ?_⟩) ?_ ?_
                        rotate_left
                        · intro w'
                          go_simp
                          with_reducible rfl
                        rotate_left
                        · simp only [Act.put, List.setIfInBounds_toArray, List.set_cons_zero, List.set_cons_succ, i64_w, i32_w]
                          rfl
                        refine pure_ (i := 2) (N := some 82) (v := ?_) (a' := ?_) #[true, false, true, false, false, false, false, false, false, false, false, false, false] rfl rfl (any_of HT_.out (by kernel_rfl)) (fun _ _ _ h => h) (Or.inl ⟨by rfl, ?_⟩) ?_ ?_
                        rotate_left
                        · intro w'
                          go_simp
                          with_reducible rfl
                        rotate_left
                        · simp only [Act.put, List.setIfInBounds_toArray, List.set_cons_zero, List.set_cons_succ, i64_w, i32_w]
                          rfl
                        refine pure_ (i := 5) (N := some 85) (v := ?_) (a' := ?_) #[true, false, true, false, false, true, false, false, false, false, false, false, false] rfl rfl (any_of HT_.out (by kernel_rfl)) (fun _ _ _ h => h) (Or.inl ⟨by rfl, ?_⟩) ?_ ?_
                        rotate_left
                        · intro w'
                          go_simp
                          with_reducible rfl
                        rotate_left
                        · simp only [Act.put, List.setIfInBounds_toArray, List.set_cons_zero, List.set_cons_succ, i64_w, i32_w]
                          rfl
                        refine pure_ (i := 7) (N := some 87) (v := ?_) (a' := ?_) #[true, false, true, false, false, true, false, true, false, false, false, false, false] rfl rfl (any_of HT_.out (by kernel_rfl)) (fun _ _ _ h => h) (Or.inl ⟨by rfl, ?_⟩) ?_ ?_
                        rotate_left
                        · intro w'
                          go_simp
                          with_reducible rfl
                        rotate_left
                        · simp only [Act.put, List.setIfInBounds_toArray, List.set_cons_zero, List.set_cons_succ, i64_w, i32_w]
                          rfl
                        refine pure_ (i := 10) (N := some 90) (v := ?_) (a' := ?_) #[true, false, true, false, false, true, false, true, false, false, true, false, false] rfl rfl (any_of HT_.out (by kernel_rfl)) (fun _ _ _ h => h) (Or.inl ⟨by rfl, ?_⟩) ?_ ?_
                        rotate_left
                        · intro w'
                          go_simp
                          with_reducible rfl
                        rotate_left
                        · simp only [Act.put, List.setIfInBounds_toArray, List.set_cons_zero, List.set_cons_succ, i64_w, i32_w]
                          rfl
                        refine take_ (i := 1) (N := some 81) (v := ?_) (a' := ?_) #[true, true, true, false, false, true, false, true, false, false, true, false, false] rfl rfl (take_ofW HT_.out HW_.out (by kernel_rfl)) (fun _ _ _ h => h) (Or.inl ⟨by rfl, ?_⟩) hHeld ?_ ?_
                        rotate_left
                        · rintro w' ⟨s0, s1, s2, s3, s4, s5, s6, s7, s8, s9, s10, s11, s12, s13, s14, s15, s16, s17, s18, s19⟩
                          go_simp
                          with_reducible rfl
                        rotate_left
                        · simp only [Act.put, List.setIfInBounds_toArray, List.set_cons_zero, List.set_cons_succ, i64_w, i32_w]
                          rfl
                        refine pure_ (i := 3) (N := some 83) (v := ?_) (a' := ?_) #[true, true, true, true, false, true, false, true, false, false, true, false, false] rfl rfl (any_of HT_.out (by kernel_rfl)) (fun _ _ _ h => h) (Or.inl ⟨by rfl, ?_⟩) ?_ ?_
                        rotate_left
                        · intro w'
                          go_simp
                          with_reducible rfl
                        rotate_left
                        · simp only [Act.put, List.setIfInBounds_toArray, List.set_cons_zero, List.set_cons_succ, i64_w, i32_w]
                          rfl
                        refine take_ (i := 4) (N := some 84) (v := ?_) (a' := ?_) #[true, true, true, true, true, true, false, true, false, false, true, false, false] rfl rfl (take_ofW HT_.out HW_.out (by kernel_rfl)) (fun _ _ _ h => h) (Or.inl ⟨by rfl, ?_⟩) hHeld ?_ ?_
                        rotate_left
                        · rintro w' ⟨s0, s1, s2, s3, s4, s5, s6, s7, s8, s9, s10, s11, s12, s13, s14, s15, s16, s17, s18, s19⟩
                          go_simp
                          with_reducible rfl
                        rotate_left
                        · simp only [Act.put, List.setIfInBounds_toArray, List.set_cons_zero, List.set_cons_succ, i64_w, i32_w]
                          rfl
                        refine take_ (i := 6) (N := some 86) (v := ?_) (a' := ?_) #[true, true, true, true, true, true, true, true, false, false, true, false, false] rfl rfl (take_ofW HT_.out HW_.out (by kernel_rfl)) (fun _ _ _ h => h) (Or.inl ⟨by rfl, ?_⟩) hHeld ?_ ?_
                        rotate_left
                        · rintro w' ⟨s0, s1, s2, s3, s4, s5, s6, s7, s8, s9, s10, s11, s12, s13, s14, s15, s16, s17, s18, s19⟩
                          go_simp
                          with_reducible rfl
                        rotate_left
                        · simp only [Act.put, List.setIfInBounds_toArray, List.set_cons_zero, List.set_cons_succ, i64_w, i32_w]
                          rfl
                        refine pure_ (i := 8) (N := some 88) (v := ?_) (a' := ?_) #[true, true, true, true, true, true, true, true, true, false, true, false, false] rfl rfl (any_of HT_.out (by kernel_rfl)) (fun _ _ _ h => h) (Or.inl ⟨by rfl, ?_⟩) ?_ ?_
                        rotate_left
                        · intro w'
                          go_simp
                          with_reducible rfl
                        rotate_left
                        · simp only [Act.put, List.setIfInBounds_toArray, List.set_cons_zero, List.set_cons_succ, i64_w, i32_w]
                          rfl
                        refine take_ (i := 9) (N := some 89) (v := ?_) (a' := ?_) #[true, true, true, true, true, true, true, true, true, true, true, false, false] rfl rfl (take_ofW HT_.out HW_.out (by kernel_rfl)) (fun _ _ _ h => h) (Or.inl ⟨by rfl, ?_⟩) hHeld ?_ ?_
                        rotate_left
                        · rintro w' ⟨s0, s1, s2, s3, s4, s5, s6, s7, s8, s9, s10, s11, s12, s13, s14, s15, s16, s17, s18, s19⟩
                          go_simp
                          with_reducible rfl
                        rotate_left
                        · simp only [Act.put, List.setIfInBounds_toArray, List.set_cons_zero, List.set_cons_succ, i64_w, i32_w]
                          rfl
                        refine one_ (i := 11) (N := some 91) #[true, true, true, true, true, true, true, true, true, true, true, true, false] rfl rfl (one_of HT_.out (by kernel_rfl)) (by decide) (fun K hK => ?_)
                        refine goes_ Tryz.func14 (by kernel_rfl) rfl #[.agg #[.int .i64 ((rd_T25 l0_4 x54_2).f0), .string ((rd_T25 l0_4 x54_2).f1), .string ((rd_T25 l0_4 x54_2).f2), .slice A263_3 ((rd_T25 l0_4 x54_2).f3).length c263_3, .slice A263_4 ((rd_T25 l0_4 x54_2).f4).length c263_4], .agg #[.int .i64 ((rd_T25 l1_4 x54_2).f0), .string ((rd_T25 l1_4 x54_2).f1), .string ((rd_T25 l1_4 x54_2).f2), .slice A264_3 ((rd_T25 l1_4 x54_2).f3).length c264_3, .slice A264_4 ((rd_T25 l1_4 x54_2).f4).length c264_4], .bool a2] (by rfl) rfl rfl (by (try simp only [List.map_toArray, List.map_cons, List.map_nil]); first | done | rfl | (simp only [List.length_drop, List.length_take]; rfl)) ?_
                        with_reducible refine (ih k2 (by have := HJ3.out; have := HK2.out; omega) ((rd_T25 l0_4 x54_2).f0) ((rd_T25 l0_4 x54_2).f1) ((rd_T25 l0_4 x54_2).f2) _ _ ((rd_T25 l0_4 x54_2).f3) _ _ ((rd_T25 l0_4 x54_2).f4) ((rd_T25 l1_4 x54_2).f0) ((rd_T25 l1_4 x54_2).f1) ((rd_T25 l1_4 x54_2).f2) _ _ ((rd_T25 l1_4 x54_2).f3) _ _ ((rd_T25 l1_4 x54_2).f4) a2 false _ ?side1 ?side2 ?side3 ?side4 ?side5 ?side6 ?side7 ?side8 A62.out).mono ?_
                        (case side1 => repeat (first | exact (Kd.C_below HR263_3.out HB.out) | (with_reducible refine Kd.C_alloc ?_ _) | (with_reducible refine Kd.C_drewN ?_ _) | (with_reducible refine Kd.C_drew ?_)))
                        (case side2 => exact HC263_3.out)
                        (case side3 => repeat (first | exact (Kd.C_below HR263_4.out HB.out) | (with_reducible refine Kd.C_alloc ?_ _) | (with_reducible refine Kd.C_drewN ?_ _) | (with_reducible refine Kd.C_drew ?_)))
                        (case side4 => exact HC263_4.out)
                        (case side5 => repeat (first | exact (Kd.C_below HR264_3.out HB.out) | (with_reducible refine Kd.C_alloc ?_ _) | (with_reducible refine Kd.C_drewN ?_ _) | (with_reducible refine Kd.C_drew ?_)))
                        (case side6 => exact HC264_3.out)
                        (case side7 => repeat (first | exact (Kd.C_below HR264_4.out HB.out) | (with_reducible refine Kd.C_alloc ?_ _) | (with_reducible refine Kd.C_drewN ?_ _) | (with_reducible refine Kd.C_drew ?_)))
                        (case side8 => exact HC264_4.out)
                        rintro e w71 ⟨rfl, hb⟩
                        refine ⟨_, rfl, ?_⟩
                        have n0_ := Aside0.mk (blk_below (g := gb256) (o := .cells #[.int .i64 a0_0, .string a0_1, .string a0_2, .slice A0_3 l0_3.length c0_3, .slice (some ad263) l0_4.length c0_4] 25 (0, 0)) (by (with_reducible repeat (first | refine blk_drewN ?_ _ | refine blk_drew ?_ | refine blk_alloc ?_ _)); exact BK256.out) hb)
                        have n1_ := Aside0.mk (blk_below (g := gb257) (o := .cells #[.int .i64 a1_0, .string a1_1, .string a1_2, .slice A1_3 l1_3.length c1_3, .slice (some ad264) l1_4.length c1_4] 25 (0, 0)) (by (with_reducible repeat (first | refine blk_drewN ?_ _ | refine blk_drew ?_ | refine blk_alloc ?_ _)); exact BK257.out) hb)
                        have n2_ := Aside0.mk (below_step (by repeat (first | (with_reducible first | exact HB.out | apply below_alloc | apply pw_below_drewN | apply below_drew1 | refine below_set ?_ GE256.out | refine below_set ?_ GE257.out) | exact HB.out)) hb)
                        clear BK256
                        clear BK257
                        clear HB
                        have BK256 := n0_
                        have BK257 := n1_
                        have HB := n2_
                        clear n0_ n1_ n2_
                        (try clear hb)
                        (try clear hb2)
                        (try clear hk)
                        (try clear hi)
                        refine hK.out _ _ ⟨(blk_cell BK256.out 0).trans rfl, (blk_cell BK256.out 1).trans rfl, (blk_cell BK256.out 2).trans rfl, (blk_cell BK256.out 3).trans rfl, (blk_cell BK256.out 4).trans rfl, (blk_cell BK257.out 0).trans rfl, (blk_cell BK257.out 1).trans rfl, (blk_cell BK257.out 2).trans rfl, (blk_cell BK257.out 3).trans rfl, (blk_cell BK257.out 4).trans rfl, ((HB.out.cell (World.block_lt_of_cell? w _ hw263_0)).trans hw263_0), ((HB.out.cell (World.block_lt_of_cell? w _ hw263_1)).trans hw263_1), ((HB.out.cell (World.block_lt_of_cell? w _ hw263_2)).trans hw263_2), ((HB.out.cell (World.block_lt_of_cell? w _ hw263_3)).trans hw263_3), ((HB.out.cell (World.block_lt_of_cell? w _ hw263_4)).trans hw263_4), ((HB.out.cell (World.block_lt_of_cell? w _ hw264_0)).trans hw264_0), ((HB.out.cell (World.block_lt_of_cell? w _ hw264_1)).trans hw264_1), ((HB.out.cell (World.block_lt_of_cell? w _ hw264_2)).trans hw264_2), ((HB.out.cell (World.block_lt_of_cell? w _ hw264_3)).trans hw264_3), ((HB.out.cell (World.block_lt_of_cell? w _ hw264_4)).trans hw264_4)⟩ (fun hHeld => ?_)
                        clear hK K
                        refine norm_ (a' := ?_) ?_ ?_
                        rotate_left
                        · show Act.put _ (some 91) _ = _
                          simp only [Act.put, List.setIfInBounds_toArray, List.set_cons_zero, List.set_cons_succ, i64_w, i32_w]
                          rfl
                        refine pure_ (i := 12) (N := some 92) (v := ?_) (a' := ?_) #[true, true, true, true, true, true, true, true, true, true, true, true, true] rfl rfl (any_of HT_.out (by kernel_rfl)) (fun _ _ _ h => h) (Or.inl ⟨by rfl, ?_⟩) ?_ ?_
                        rotate_left
                        · intro w'
                          go_simp
                          with_reducible rfl
                        rotate_left
                        · simp only [Act.put, List.setIfInBounds_toArray, List.set_cons_zero, List.set_cons_succ, i64_w, i32_w]
                          rfl
                        refine done_ (done_of HT_.out (by kernel_rfl)) ?_
                        try go_wp2
                        go_ret
                        exact ⟨by first | rfl | (simp [errW_none, errW_some] <;> rfl) | (simp [*, errW_none, errW_some] <;> rfl), by repeat (first | (with_reducible first | exact HB.out | apply below_alloc | apply pw_below_drewN | apply below_drew1 | refine below_set ?_ GE256.out | refine below_set ?_ GE257.out) | exact HB.out)⟩
                    · rw [if_neg c61] at H
                      exact absurd H (by simp)
                  · rw [if_neg c60] at H
                    exact absurd H (by simp)
                · rw [if_neg c59] at H
                  exact absurd H (by simp)
            · rw [if_neg c37] at H
              have c37b0 : decide (x54_2 < (l0_4.length : Int)) = false := decide_eq_false c37
              clear c37
              obtain rfl := Option.some.inj H
              go_wp2
              go_ret
              exact ⟨by first | rfl | (simp [errW_none, errW_some] <;> rfl) | (simp [*, errW_none, errW_some] <;> rfl), by repeat (first | (with_reducible first | exact HB.out | apply below_alloc | apply pw_below_drewN | apply below_drew1 | refine below_set ?_ GE256.out | refine below_set ?_ GE257.out) | exact HB.out)⟩
end Go.Proofs.YtghmajlfmoggfaaGreat.PFnMerge
