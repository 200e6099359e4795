import Derived.Test.YtghmajlfmoggfaaGreatMD
import Derived.Test.YtghmajlfmoggfaaGreatMC
import Derived.Test.YtghmajlfmoggfaaGreatMB2
set_option linter.unusedSimpArgs false
set_option linter.unusedVariables false
namespace Go.Proofs.YtghmajlfmoggfaaGreat
open Go.RowKit Go.Proofs.YtghmajlfmoggfaaGreatW.PrintWords Go.Proofs.YtghmajlfmoggfaaGreatW.PrintLast PFnMerge Go.Maps Go.Sort
abbrev wkV (V path mo : Value) (sb c : Nat) (infer : Bool) : Value := .agg #[V, .pointer none, .slice (some ⟨sb, 0, none⟩) 2 c, path, .bool infer, .bool false, mo]
abbrev fsV (name : ByteArray) (q : Option Addr) : Value := .agg #[.string noStr, .string name, .string noStr, .string noStr, .string noStr, .pointer q, .string noStr, .bool false, .int .u32 0]
theorem own_len {w : World} {base : Nat} {e : TypeId} {size n : Nat} {v : Value} {xs : List Value} (h : w.ownsRow base e size v n xs) : n ≤ maxLen := by
 rcases h.2 with ⟨rfl, rfl⟩ | ⟨g, cap, cur, rfl, _, _, h1, h2, _⟩
 ·exact Nat.zero_le _
 ·exact Nat.le_trans h1 h2
theorem PathApp.of_drew {w w' : World} {path path' : Value} {n : Nat} (h : PathApp w.drew w' path path' n) : PathApp w w' path path' n := ⟨⟨h.keep.os, h.keep.tape, h.keep.output, h.keep.size, h.keep.block⟩, h.shape, h.ok, h.at_⟩
theorem PathOk.lt {w : World} {path : Value} {n : Nat} (h : PathOk w path n) (k : Nat) (hk : path.ownBlock = some k) : k < w.heap.size := by
 obtain ⟨xs, h⟩ := h
 exact own_lt h k hk
theorem PtrQ.under {w w' : World} {q : Option Addr} (h : PtrQ w q) (hb : Below w.heap.size w w') : PtrQ w' q := by
 rcases h with h | ⟨r, cs, t, h1, h2⟩
 ·exact .inl h
 ·exact .inr ⟨r, cs, t, h1, (hb.block _ (lt_of_block h2)).trans h2⟩
end Go.Proofs.YtghmajlfmoggfaaGreat
namespace Go.Proofs.YtghmajlfmoggfaaGreat
open Go.RowKit Go.Proofs.YtghmajlfmoggfaaGreatW.PrintWords Go.Proofs.YtghmajlfmoggfaaGreatW.PrintLast PFnMerge
set_option maxRecDepth 20000 in
theorem walk38_map {V path mo : Value} {infer : Bool} {sb c : Nat} (J : Option Addr → World → Prop) (w : World)
  (hk : ∀ w', Below w.heap.size w w' → Calls Tryz.prog 45 #[wkV V path mo sb c infer] w' fun e w'' => e = .returned (.int .u32 4) ∧ Below w'.heap.size w' w'')
  (ha : ∀ w', Below w.heap.size w w' → Calls Tryz.prog 46 #[.int .u32 4, .slice (some ⟨sb, 0, none⟩) 2 c] w' fun e w'' => e = .returned .nilIface ∧ w' = w'')
  (hw : ∀ w', Below w.heap.size w w' → Calls Tryz.prog 47 #[wkV V path mo sb c infer] w' fun e w'' => ∃ q, e = .returned (.tuple #[.pointer q, .nilIface]) ∧ J q w'') :
  Calls Tryz.prog 38 #[wkV V path mo sb c infer] w fun e w' => ∃ q, e = .returned (.tuple #[.pointer q, .nilIface]) ∧ J q w' := by
 have HK := Lib.hid hk
 have HW := Lib.hid hw
 have HA := Lib.hid ha
 clear ha
 have hb0 := below_alloc (Below.refl w.heap.size w) (.cells #[V, .pointer none, .slice (some ⟨sb, 0, none⟩) 2 c, path, .bool infer, .bool false, mo] 66)
 have HX := Lib.hid (blk_new rfl (w := w) (.cells #[V, .pointer none, .slice (some ⟨sb, 0, none⟩) 2 c, path, .bool infer, .bool false, mo] 66))
 have HB := Lib.hid hb0
 obtain ⟨wb, hwb⟩ : ∃ wb, wb = w.heap.size := ⟨_, rfl⟩
 clear hk hw hb0
 go_enter Tryz.func38, Tryz.ntmps38
 go_wp2_with fail
 refine Calls.mono (schema44 _) ?_
 rintro e w1 ⟨rfl, hb1⟩
 have hx1 := (hb1.block w.heap.size (by simp)).trans HX.out
 have HB1 := Lib.hid (HB.out.trans (hb1.mono HB.out.size))
 have HX1 := Lib.hid hx1
 rw [← hwb] at hx1
 rw [← hwb]
 have HWB := Lib.hid hwb
 clear hb1 HX HB hwb
 have z1 := blk_frozen hx1 1
 have p1 : w1.cell? ⟨wb, 1, none⟩ = some (.pointer none) := (blk_cell hx1 1).trans rfl
 have hx2 := blk_set hx1 1 (.pointer none)
 simp only [List.setIfInBounds_toArray, List.set_cons_zero, List.set_cons_succ] at hx2
 have HB2 := Lib.hid (HB1.out.setCell (p := ⟨wb, 1, none⟩) (by show w.heap.size ≤ wb; rw [HWB.out]; exact Nat.le_refl _) (.pointer none))
 obtain ⟨w2, hw2⟩ : ∃ w2, w2 = w1.setCell ⟨wb, 1, none⟩ (.pointer none) := ⟨_, rfl⟩
 rw [← hw2] at hx2
 rw [← hw2] at HB2
 have p0 : w2.cell? ⟨wb, 0, none⟩ = some V := (blk_cell hx2 0).trans rfl
 have q1 : w2.cell? ⟨wb, 1, none⟩ = some (.pointer none) := (blk_cell hx2 1).trans rfl
 have p2 : w2.cell? ⟨wb, 2, none⟩ = some (.slice (some ⟨sb, 0, none⟩) 2 c) := (blk_cell hx2 2).trans rfl
 have p3 : w2.cell? ⟨wb, 3, none⟩ = some path := (blk_cell hx2 3).trans rfl
 have p4 : w2.cell? ⟨wb, 4, none⟩ = some (.bool infer) := (blk_cell hx2 4).trans rfl
 have p5 : w2.cell? ⟨wb, 5, none⟩ = some (.bool false) := (blk_cell hx2 5).trans rfl
 have p6 : w2.cell? ⟨wb, 6, none⟩ = some mo := (blk_cell hx2 6).trans rfl
 have HX2 := Lib.hid hx2
 rw [hw2] at p0 q1 p2 p3 p4 p5 p6
 clear hx1 hx2
 go_wp2_with fail
 rw [← hw2]
 clear p0 q1 p2 p3 p4 p5 p6 z1 p1
 refine Calls.mono (HK.out w2 HB2.out) ?_
 rintro e w3 ⟨rfl, hb3⟩
 have hx3 := (hb3.block wb (lt_of_block HX2.out)).trans HX2.out
 have p0 : w3.cell? ⟨wb, 0, none⟩ = some V := (blk_cell hx3 0).trans rfl
 have q1 : w3.cell? ⟨wb, 1, none⟩ = some (.pointer none) := (blk_cell hx3 1).trans rfl
 have p2 : w3.cell? ⟨wb, 2, none⟩ = some (.slice (some ⟨sb, 0, none⟩) 2 c) := (blk_cell hx3 2).trans rfl
 have p3 : w3.cell? ⟨wb, 3, none⟩ = some path := (blk_cell hx3 3).trans rfl
 have p4 : w3.cell? ⟨wb, 4, none⟩ = some (.bool infer) := (blk_cell hx3 4).trans rfl
 have p5 : w3.cell? ⟨wb, 5, none⟩ = some (.bool false) := (blk_cell hx3 5).trans rfl
 have p6 : w3.cell? ⟨wb, 6, none⟩ = some mo := (blk_cell hx3 6).trans rfl
 have HB3 := Lib.hid (HB2.out.trans (hb3.mono HB2.out.size))
 clear hx3 hb3 HX2 HB2 HB1 hw2
 go_wp2_with fail
 refine Calls.mono (HA.out _ HB3.out) ?_
 rintro e w4 ⟨rfl, rfl⟩
 go_wp2_with fail
 refine Calls.mono (HW.out _ HB3.out) ?_
 rintro e w5 ⟨q, rfl, hJ⟩
 have HJ := Lib.hid hJ
 clear hJ HW HK p0 q1 p2 p3 p4 p5 p6 HB3
 go_wp2_with fail
 go_ret2
 exact ⟨q, rfl, HJ.out⟩
set_option maxRecDepth 20000 in
theorem walk38_sc {V path mo : Value} {infer : Bool} {sb c : Nat} (J : Option Addr → World → Prop) (w : World)
  (hk : ∀ w', Below w.heap.size w w' → Calls Tryz.prog 45 #[wkV V path mo sb c infer] w' fun e w'' => e = .returned (.int .u32 8) ∧ Below w'.heap.size w' w'')
  (ha : ∀ w', Below w.heap.size w w' → Calls Tryz.prog 46 #[.int .u32 8, .slice (some ⟨sb, 0, none⟩) 2 c] w' fun e w'' => e = .returned .nilIface ∧ w' = w'')
  (hw : ∀ w', Below w.heap.size w w' → Calls Tryz.prog 51 #[wkV V path mo sb c infer] w' fun e w'' => ∃ q, e = .returned (.tuple #[.pointer q, .nilIface]) ∧ J q w'') :
  Calls Tryz.prog 38 #[wkV V path mo sb c infer] w fun e w' => ∃ q, e = .returned (.tuple #[.pointer q, .nilIface]) ∧ J q w' := by
 have HK := Lib.hid hk
 have HW := Lib.hid hw
 have HA := Lib.hid ha
 clear ha
 have hb0 := below_alloc (Below.refl w.heap.size w) (.cells #[V, .pointer none, .slice (some ⟨sb, 0, none⟩) 2 c, path, .bool infer, .bool false, mo] 66)
 have HX := Lib.hid (blk_new rfl (w := w) (.cells #[V, .pointer none, .slice (some ⟨sb, 0, none⟩) 2 c, path, .bool infer, .bool false, mo] 66))
 have HB := Lib.hid hb0
 obtain ⟨wb, hwb⟩ : ∃ wb, wb = w.heap.size := ⟨_, rfl⟩
 clear hk hw hb0
 go_enter Tryz.func38, Tryz.ntmps38
 go_wp2_with fail
 refine Calls.mono (schema44 _) ?_
 rintro e w1 ⟨rfl, hb1⟩
 have hx1 := (hb1.block w.heap.size (by simp)).trans HX.out
 have HB1 := Lib.hid (HB.out.trans (hb1.mono HB.out.size))
 have HX1 := Lib.hid hx1
 rw [← hwb] at hx1
 rw [← hwb]
 have HWB := Lib.hid hwb
 clear hb1 HX HB hwb
 have z1 := blk_frozen hx1 1
 have p1 : w1.cell? ⟨wb, 1, none⟩ = some (.pointer none) := (blk_cell hx1 1).trans rfl
 have hx2 := blk_set hx1 1 (.pointer none)
 simp only [List.setIfInBounds_toArray, List.set_cons_zero, List.set_cons_succ] at hx2
 have HB2 := Lib.hid (HB1.out.setCell (p := ⟨wb, 1, none⟩) (by show w.heap.size ≤ wb; rw [HWB.out]; exact Nat.le_refl _) (.pointer none))
 obtain ⟨w2, hw2⟩ : ∃ w2, w2 = w1.setCell ⟨wb, 1, none⟩ (.pointer none) := ⟨_, rfl⟩
 rw [← hw2] at hx2
 rw [← hw2] at HB2
 have p0 : w2.cell? ⟨wb, 0, none⟩ = some V := (blk_cell hx2 0).trans rfl
 have q1 : w2.cell? ⟨wb, 1, none⟩ = some (.pointer none) := (blk_cell hx2 1).trans rfl
 have p2 : w2.cell? ⟨wb, 2, none⟩ = some (.slice (some ⟨sb, 0, none⟩) 2 c) := (blk_cell hx2 2).trans rfl
 have p3 : w2.cell? ⟨wb, 3, none⟩ = some path := (blk_cell hx2 3).trans rfl
 have p4 : w2.cell? ⟨wb, 4, none⟩ = some (.bool infer) := (blk_cell hx2 4).trans rfl
 have p5 : w2.cell? ⟨wb, 5, none⟩ = some (.bool false) := (blk_cell hx2 5).trans rfl
 have p6 : w2.cell? ⟨wb, 6, none⟩ = some mo := (blk_cell hx2 6).trans rfl
 have HX2 := Lib.hid hx2
 rw [hw2] at p0 q1 p2 p3 p4 p5 p6
 clear hx1 hx2
 go_wp2_with fail
 rw [← hw2]
 clear p0 q1 p2 p3 p4 p5 p6 z1 p1
 refine Calls.mono (HK.out w2 HB2.out) ?_
 rintro e w3 ⟨rfl, hb3⟩
 have hx3 := (hb3.block wb (lt_of_block HX2.out)).trans HX2.out
 have p0 : w3.cell? ⟨wb, 0, none⟩ = some V := (blk_cell hx3 0).trans rfl
 have q1 : w3.cell? ⟨wb, 1, none⟩ = some (.pointer none) := (blk_cell hx3 1).trans rfl
 have p2 : w3.cell? ⟨wb, 2, none⟩ = some (.slice (some ⟨sb, 0, none⟩) 2 c) := (blk_cell hx3 2).trans rfl
 have p3 : w3.cell? ⟨wb, 3, none⟩ = some path := (blk_cell hx3 3).trans rfl
 have p4 : w3.cell? ⟨wb, 4, none⟩ = some (.bool infer) := (blk_cell hx3 4).trans rfl
 have p5 : w3.cell? ⟨wb, 5, none⟩ = some (.bool false) := (blk_cell hx3 5).trans rfl
 have p6 : w3.cell? ⟨wb, 6, none⟩ = some mo := (blk_cell hx3 6).trans rfl
 have HB3 := Lib.hid (HB2.out.trans (hb3.mono HB2.out.size))
 clear hx3 hb3 HX2 HB2 HB1 hw2
 go_wp2_with fail
 refine Calls.mono (HA.out _ HB3.out) ?_
 rintro e w4 ⟨rfl, rfl⟩
 go_wp2_with fail
 refine Calls.mono (HW.out _ HB3.out) ?_
 rintro e w5 ⟨q, rfl, hJ⟩
 have HJ := Lib.hid hJ
 clear hJ HW HK p0 q1 p2 p3 p4 p5 p6 HB3
 go_wp2_with fail
 go_ret2
 exact ⟨q, rfl, HJ.out⟩
end Go.Proofs.YtghmajlfmoggfaaGreat
