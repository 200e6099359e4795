import Derived.Deep.LoopGhost
import Derived.IntWalk
import Derived.Deep.RegionHeld3
import Derived.Deep.RegionWith
import Derived.BigQuiet
import Derived.Deep.QuietTactic
import Derived.Laws.StructEq
import Derived.Deep.RegionLaw
import Derived.LoopN
import Derived.Test.YtghmajlfmoggfaaGreatMA
set_option linter.unusedSimpArgs false
set_option linter.unusedVariables false
namespace Go.Proofs.YtghmajlfmoggfaaGreat
open Go.RowKit Go.Proofs.YtghmajlfmoggfaaGreatW.PrintWords Go.Proofs.YtghmajlfmoggfaaGreatW.PrintLast PFnMerge
def RNB (w : World) (r b : Nat) : Prop := w.heap[r]? = some (.cells #[nilS, .pointer (some ⟨b, 0, none⟩), .bool false, nilS] 81 (0, 0))
theorem RNB.cell1 {w : World} {r b : Nat} (h : RNB w r b) : w.cell? ⟨r, 1, none⟩ = some (.pointer (some ⟨b, 0, none⟩)) := (blk_cell h 1).trans rfl
theorem RNB.under {w w' : World} {r b : Nat} (h : RNB w r b) (hk : Below w.heap.size w w') : RNB w' r b := (hk.block r (blk_lt h)).trans h
section
variable {w : World} {b : Nat} {k : Int} {tag val : ByteArray} {C : Value}
theorem NodeB.c0 (h : NodeB w b k tag val C) : w.cell? ⟨b, 0, none⟩ = some (.int .u32 k) := (blk_cell h 0).trans rfl
theorem NodeB.c1 (h : NodeB w b k tag val C) : w.cell? ⟨b, 1, none⟩ = some (.int .u32 0) := (blk_cell h 1).trans rfl
theorem NodeB.c2 (h : NodeB w b k tag val C) : w.cell? ⟨b, 2, none⟩ = some (.string tag) := (blk_cell h 2).trans rfl
theorem NodeB.c3 (h : NodeB w b k tag val C) : w.cell? ⟨b, 3, none⟩ = some (.string val) := (blk_cell h 3).trans rfl
theorem NodeB.c6 (h : NodeB w b k tag val C) : w.cell? ⟨b, 6, none⟩ = some C := (blk_cell h 6).trans rfl
theorem NodeB.c7 (h : NodeB w b k tag val C) : w.cell? ⟨b, 7, none⟩ = some (.string noStr) := (blk_cell h 7).trans rfl
theorem NodeB.c8 (h : NodeB w b k tag val C) : w.cell? ⟨b, 8, none⟩ = some (.string noStr) := (blk_cell h 8).trans rfl
theorem NodeB.c9 (h : NodeB w b k tag val C) : w.cell? ⟨b, 9, none⟩ = some (.string noStr) := (blk_cell h 9).trans rfl
theorem NodeB.fz (h : NodeB w b k tag val C) (i : Nat) : w.frozen? ⟨b, i, none⟩ = false := blk_frozen h i
theorem NodeB.under {w' : World} (h : NodeB w b k tag val C) (hk : Below w.heap.size w w') : NodeB w' b k tag val C := (hk.block b (blk_lt h)).trans h
end
abbrev nullTag : ByteArray := ⟨#[33, 33, 110, 117, 108, 108]⟩
variable {r b : Nat} {k : Int} {tag val : ByteArray} {C : Value}
set_option maxHeartbeats 400000 in
theorem ynode_some (w : World) (hr : RNB w r b) (hb : NodeB w b k tag val C) (hk1 : (k == 1) = false) :
  Calls Tryz.prog 42 #[.pointer (some ⟨r, 0, none⟩)] w fun e w' => e = .returned (.pointer (some ⟨b, 0, none⟩)) ∧ w = w' := by
 have h1 := hr.cell1
 have h2 := hb.c0
 clear hr hb
 go_enter Tryz.func42, Tryz.ntmps42
 go_wp2
 go_ret
 exact ⟨rfl, rfl⟩
set_option maxHeartbeats 400000 in
theorem isNil_some (w : World) (hr : RNB w r b) (hb : NodeB w b k tag val C) (hk1 : (k == 1) = false) :
  Calls Tryz.prog 72 #[.pointer (some ⟨r, 0, none⟩)] w fun e w' => e = .returned (.bool false) ∧ w = w' := by
 go_enter Tryz.func72, Tryz.ntmps72
 go_wp2_with (go_at_call 42; refine (ynode_some _ hr hb hk1).mono ?_; rintro e w' ⟨rfl, rfl⟩)
 go_ret
 exact ⟨rfl, rfl⟩
set_option maxHeartbeats 400000 in
theorem isNil_nil (w : World) :
  Calls Tryz.prog 72 #[.pointer none] w fun e w' => e = .returned (.bool true) ∧ w = w' := by
 go_enter Tryz.func72, Tryz.ntmps72
 go_wp2
 go_ret
 exact ⟨rfl, rfl⟩
set_option maxHeartbeats 400000 in
theorem missing_no (w : World) (hr : RNB w r b) (hb : NodeB w b k tag val C) (hk1 : (k == 1) = false) (ht : (tag.toList == [33, 33, 110, 117, 108, 108]) = false) :
  Calls Tryz.prog 55 #[.pointer (some ⟨r, 0, none⟩)] w fun e w' => e = .returned (.bool false) ∧ w = w' := by
 have h2 := hb.c2
 go_enter Tryz.func55, Tryz.ntmps55
 go_wp2_with (first | (go_at_call 42; refine (ynode_some _ hr hb hk1).mono ?_; rintro e w' ⟨rfl, rfl⟩) | (go_at_call 72; refine (isNil_some _ hr hb hk1).mono ?_; rintro e w' ⟨rfl, rfl⟩))
 go_ret
 exact ⟨rfl, rfl⟩
set_option maxHeartbeats 400000 in
theorem missing_yes (w : World) (hr : RNB w r b) (hb : NodeB w b k nullTag val C) (hk1 : (k == 1) = false) :
  Calls Tryz.prog 55 #[.pointer (some ⟨r, 0, none⟩)] w fun e w' => e = .returned (.bool true) ∧ w = w' := by
 have h2 := hb.c2
 go_enter Tryz.func55, Tryz.ntmps55
 go_wp2_with (first | (go_at_call 42; refine (ynode_some _ hr hb hk1).mono ?_; rintro e w' ⟨rfl, rfl⟩) | (go_at_call 72; refine (isNil_some _ hr hb hk1).mono ?_; rintro e w' ⟨rfl, rfl⟩))
 go_ret
 exact ⟨by simp, rfl⟩
set_option maxHeartbeats 400000 in
theorem missing_nil (w : World) :
  Calls Tryz.prog 55 #[.pointer none] w fun e w' => e = .returned (.bool true) ∧ w = w' := by
 go_enter Tryz.func55, Tryz.ntmps55
 go_wp2_with (first | (go_at_call 72; refine (isNil_nil _).mono ?_; rintro e w' ⟨rfl, rfl⟩))
 go_ret
 exact ⟨rfl, rfl⟩
set_option maxHeartbeats 400000 in
theorem ynTagged (w : World) (hb : NodeB w b k tag val C) :
  Calls Tryz.prog 137 #[.pointer (some ⟨b, 0, none⟩)] w fun e w' => e = .returned (.bool (tag.toList == [33, 33, 110, 117, 108, 108])) ∧ w = w' := by
 have h2 := hb.c2
 go_enter Tryz.func137, Tryz.ntmps137
 go_wp2
 go_ret
 exact ⟨rfl, rfl⟩
set_option maxHeartbeats 400000 in
theorem tagged_any (w : World) (hr : RNB w r b) (hb : NodeB w b k tag val C) (hk1 : (k == 1) = false) :
  Calls Tryz.prog 164 #[.pointer (some ⟨r, 0, none⟩)] w fun e w' => e = .returned (.bool (tag.toList == [33, 33, 110, 117, 108, 108])) ∧ w = w' := by
 go_enter Tryz.func164, Tryz.ntmps164
 go_wp2_with (first | (go_at_call 42; refine (ynode_some _ hr hb hk1).mono ?_; rintro e w' ⟨rfl, rfl⟩) | (go_at_call 72; refine (isNil_some _ hr hb hk1).mono ?_; rintro e w' ⟨rfl, rfl⟩) | (go_at_call 137; refine (ynTagged _ hb).mono ?_; rintro e w' ⟨rfl, rfl⟩))
 go_ret
 exact ⟨rfl, rfl⟩
set_option maxHeartbeats 400000 in
theorem tagged_nil (w : World) :
  Calls Tryz.prog 164 #[.pointer none] w fun e w' => e = .returned (.bool false) ∧ w = w' := by
 go_enter Tryz.func164, Tryz.ntmps164
 go_wp2_with (first | (go_at_call 72; refine (isNil_nil _).mono ?_; rintro e w' ⟨rfl, rfl⟩))
 go_ret
 exact ⟨rfl, rfl⟩
set_option maxHeartbeats 400000 in
theorem content_some (w : World) (hr : RNB w r b) (hb : NodeB w b k tag val C) (hk1 : (k == 1) = false) :
  Calls Tryz.prog 79 #[.pointer (some ⟨r, 0, none⟩)] w fun e w' => e = .returned C ∧ w = w' := by
 have h2 := hb.c6
 go_enter Tryz.func79, Tryz.ntmps79
 go_wp2_with (first | (go_at_call 42; refine (ynode_some _ hr hb hk1).mono ?_; rintro e w' ⟨rfl, rfl⟩))
 go_ret
 exact ⟨rfl, rfl⟩
set_option maxHeartbeats 400000 in
theorem newRNode (w : World) :
  Calls Tryz.prog 39 #[.pointer (some ⟨b, 0, none⟩)] w fun e w' => e = .returned (.pointer (some ⟨w.heap.size, 0, none⟩)) ∧ w' = w.alloc (.cells #[nilS, .pointer (some ⟨b, 0, none⟩), .bool false, nilS] 81) := by
 go_enter Tryz.func39, Tryz.ntmps39
 go_wp2
 go_ret
 exact ⟨rfl, rfl⟩
set_option maxHeartbeats 400000 in
theorem errInv_map (w : World) (hr : RNB w r b) {A : Option Addr} {n c : Nat} (hb : NodeB w b 4 tag val (.slice A n c)) (ht : (tag.toList == [33, 33, 110, 117, 108, 108]) = false) (hn : ((n : Int) % 2 != 0) = false) (hn2 : (n : Int) ≤ 9223372036854775807) :
  Calls Tryz.prog 56 #[.pointer (some ⟨r, 0, none⟩), .int .u32 4] w fun e w' => e = .returned .nilIface ∧ w = w' := by
 have h0 := hb.c0
 have h6 := hb.c6
 go_enter Tryz.func56, Tryz.ntmps56
 go_wp2_with (first | (go_at_call 42; refine (ynode_some _ hr hb rfl).mono ?_; rintro e w' ⟨rfl, rfl⟩) | (go_at_call 55; refine (missing_no _ hr hb rfl ht).mono ?_; rintro e w' ⟨rfl, rfl⟩))
 go_ret
 exact ⟨rfl, rfl⟩
set_option maxHeartbeats 400000 in
theorem errInv_eq (w : World) (hr : RNB w r b) (hb : NodeB w b k tag val C) (hk1 : (k == 1) = false) (hk4 : (k == 4) = false) (ht : (tag.toList == [33, 33, 110, 117, 108, 108]) = false) :
  Calls Tryz.prog 56 #[.pointer (some ⟨r, 0, none⟩), .int .u32 k] w fun e w' => e = .returned .nilIface ∧ w = w' := by
 have h0 := hb.c0
 go_enter Tryz.func56, Tryz.ntmps56
 go_wp2_with (first | (go_at_call 42; refine (ynode_some _ hr hb hk1).mono ?_; rintro e w' ⟨rfl, rfl⟩) | (go_at_call 55; refine (missing_no _ hr hb hk1 ht).mono ?_; rintro e w' ⟨rfl, rfl⟩))
 go_ret
 exact ⟨rfl, rfl⟩
end Go.Proofs.YtghmajlfmoggfaaGreat
namespace Go.Proofs.YtghmajlfmoggfaaGreat
open Go.RowKit Go.Proofs.YtghmajlfmoggfaaGreatW.PrintWords Go.Proofs.YtghmajlfmoggfaaGreatW.PrintLast PFnMerge
theorem PRow.slice {w : World} {F : Nat → Prop} {C : Value} {ps : List Nat} (h : PRow w F C ps) : ∃ A c, C = .slice A ps.length c ∧ ps.length ≤ c ∧ c ≤ maxLen := by
 obtain ⟨_, _, h | ⟨g, cap, cur, rfl, _, _, h1, h2, _⟩⟩ := h
 ·obtain ⟨rfl, h0⟩ := h
  exact ⟨none, 0, by rw [h0], by omega, by unfold maxLen; omega⟩
 ·exact ⟨_, cap, rfl, h1, h2⟩
theorem PRow.cell {w : World} {F : Nat → Prop} {A : Option Addr} {n c : Nat} {ps : List Nat} (h : PRow w F (.slice A n c) ps) (i : Nat) (p : Nat) (hi : ps[i]? = some p) : ∃ g, A = some ⟨g, 0, none⟩ ∧ w.cell? ⟨g, i, none⟩ = some (.pointer (some ⟨p, 0, none⟩)) := by
 obtain ⟨_, hl, h | ⟨g, cap, cur, he, _, hg, h1, h2, hs, ht⟩⟩ := h
 ·obtain ⟨_, h0⟩ := h
  have : i < ps.length := (List.getElem?_eq_some_iff.1 hi).1
  omega
 ·injection he with hA hn hc
  subst hA
  refine ⟨g, rfl, ?_⟩
  have hlt : i < ps.length := (List.getElem?_eq_some_iff.1 hi).1
  rw [blk_cell hg i]
  have : (ps.map ptrV)[i]? = some (ptrV p) := by rw [List.getElem?_map, hi]; rfl
  rw [← ht, List.getElem?_take_of_lt (by omega)] at this
  rw [← Array.getElem?_toList]
  exact this
set_option maxHeartbeats 1000000 in
set_option maxRecDepth 20000 in
theorem visit100 {A : Option Addr} {n c m : Nat} (ps : List Nat) (hn : n = ps.length) (hm : n = 2 * m) (hc : n ≤ c) (hcm : c ≤ maxLen) (K : Nat) (caps : Array Value) (hK : ∀ args w, Sem.run Tryz.prog (callFunc K args) w = .ok (.enter K args) w) (I : Nat → World → Prop) (J : World → Prop)
  (hI : ∀ i w, I i w → ∃ F, PRow w F (.slice A n c) ps)
  (hcall : ∀ (i q : Nat) kb cb, q = 2 * i → ps[2 * i]? = some kb → ps[2 * i + 1]? = some cb → ∀ w, I i w →
   Calls Tryz.prog K (#[.pointer (some ⟨kb, 0, none⟩), .pointer (some ⟨cb, 0, none⟩), .int .i64 (q : Int)] ++ caps) w fun e w' => ∃ t, e = .returned (.bool t) ∧ Hid ((t = true → I (i + 1) w') ∧ (t = false → J w')))
  (hIdrew : ∀ i w, I i w → I i w.drew)
  (hend : ∀ w, I m w → J w) (w : World) (hw : I 0 w) :
  Calls Tryz.prog 100 #[.slice A n c, .func (.func K) #[] caps] w fun e w' => e = .returned (.tuple #[]) ∧ J w' := by
 have HI := Lib.hid hI
 have HC := Lib.hid hcall
 have HE := Lib.hid hend
 have HW := Lib.hid hw
 have HM := Lib.hid hm
 have HN := Lib.hid hn
 have HD := Lib.hid hIdrew
 clear hI hcall hend hw hm hn hIdrew
 unfold maxLen at hcm
 go_enter Tryz.func100, Tryz.ntmps100
 go_wp2_with fail
 go_loopg [4] m (fun k i wr => ∃ j q : Nat, Hid (q = 2 * j) ∧ j + k = m ∧ i = .int .i64 (q : Int) ∧ Hid (I j wr))
 case atStart => exact ⟨0, 0, Lib.hid rfl, by omega, rfl, HW⟩
 case round =>
  obtain ⟨j, q, hq, hj, rfl, hI⟩ := hrel
  by_cases hlt : 1 ≤ gk
  ·have hq2 : q + 1 < n := by have := hq.out; have := HM.out; omega
   obtain ⟨kb, hkb⟩ : ∃ kb, ps[q]? = some kb := ⟨_, List.getElem?_eq_getElem (by have := HN.out; omega)⟩
   obtain ⟨cb, hcb⟩ : ∃ cb, ps[q + 1]? = some cb := ⟨_, List.getElem?_eq_getElem (by have := HN.out; omega)⟩
   obtain ⟨F, hrow⟩ := HI.out _ _ hI.out
   obtain ⟨g, rfl, hc1⟩ := hrow.cell q kb hkb
   obtain ⟨g', hg', hc2⟩ := hrow.cell (q + 1) cb hcb
   obtain rfl : g = g' := by injection hg' with hg'; injection hg'
   have hcl := HC.out j q kb cb hq.out (by rw [← hq.out]; exact hkb) (by rw [← hq.out]; exact hcb)
   have HL := Lib.hid hcl
   clear hcl hg' hrow hkb hcb
   have hw1 : IntKind.i64.wrap ((q : Int) + 1) = (q : Int) + 1 := IntWalk.i64_in _ (by omega)
   have hx0 : (0 : Int) ≤ (q : Int) + 1 := by omega
   have hx1 : (q : Int) + 1 < (n : Int) := by omega
   have hy0 : (q : Int) < (n : Int) := by omega
   have hx2 : ((q : Int) + 1).toNat = q + 1 := by omega
   go_wp2_with fail
   go_region_with ((refine Calls.mono (HL.out _ (HD.out _ _ hI.out)) ?_); rintro e w1 ⟨t, rfl, ht⟩)
   all_goals
    rcases t with _ | _
    ·go_wp2
     first | go_end0 | refine bodyPost_ret (results_none rfl _ _ _) rfl ?_
     exact ⟨rfl, by first | exact ht.out.2 rfl | exact ht.out.2 trivial⟩
    ·go_wp2
     go_roundg (gk - 1)
     case measure => omega
     case rel => exact ⟨j + 1, q + 2, Lib.hid (by have := hq.out; omega), by omega, by go_num, Lib.hid (by first | exact ht.out.1 rfl | exact ht.out.1 trivial)⟩
  ·have hq2 : q = n := by have := hq.out; have := HM.out; omega
   have hx : ¬ (q : Int) < (n : Int) := by omega
   clear hq2
   go_wp2
   go_end0
   obtain rfl : gk = 0 := by omega
   exact ⟨rfl, HE.out _ (by have := hI.out; rwa [show j = m by omega] at this)⟩
theorem enterFn {f : FuncId} {fn : Func} {c : Code} (hf : Tryz.prog.funcs[f]? = some fn) (hname : (fn.name == "runtime.NumGoroutine") = false) (hb : fn.body = some c) (args : Array Value) (w : World) :
  Sem.run Tryz.prog (callFunc f args) w = .ok (.enter f args) w := by
 have h1 : fn.name ≠ "runtime.NumGoroutine" := by simpa using hname
 simp [callFunc, hf, h1, hb]
theorem enter101 (args : Array Value) (w : World) : Sem.run Tryz.prog (callFunc 101 args) w = .ok (.enter 101 args) w := enterFn Tryz.func101 (by kernel_rfl) rfl args w
theorem enter102 (args : Array Value) (w : World) : Sem.run Tryz.prog (callFunc 102 args) w = .ok (.enter 102 args) w := enterFn Tryz.func102 (by kernel_rfl) rfl args w
theorem enter80 (args : Array Value) (w : World) : Sem.run Tryz.prog (callFunc 80 args) w = .ok (.enter 80 args) w := enterFn Tryz.func80 (by kernel_rfl) rfl args w
theorem enter98 (args : Array Value) (w : World) : Sem.run Tryz.prog (callFunc 98 args) w = .ok (.enter 98 args) w := enterFn Tryz.func98 (by kernel_rfl) rfl args w
theorem enter199 (args : Array Value) (w : World) : Sem.run Tryz.prog (callFunc 199 args) w = .ok (.enter 199 args) w := enterFn Tryz.func199 (by kernel_rfl) rfl args w
set_option maxHeartbeats 400000 in
theorem clo102_ne {kb cb p3 p4 nb : Nat} {q : Int} {tag key name : ByteArray} {C : Value} (w : World) (hkb : NodeB w kb 8 tag key C)
  (h3 : w.cell? ⟨p3, 0, none⟩ = some (.slice (some ⟨nb, 0, none⟩) 1 1)) (hnb : w.cell? ⟨nb, 0, none⟩ = some (.string name)) (hne : (name.toList == key.toList) = false) :
  Calls Tryz.prog 102 #[.pointer (some ⟨kb, 0, none⟩), .pointer (some ⟨cb, 0, none⟩), .int .i64 q, .pointer (some ⟨p3, 0, none⟩), .pointer (some ⟨p4, 0, none⟩)] w fun e w' => e = .returned (.bool true) ∧ Below w.heap.size w w' := by
 have h2 := hkb.c3
 clear hkb
 go_enter Tryz.func102, Tryz.ntmps102
 go_wp2_with fail
 go_quiet (fail)
 go_wp2_with fail
 go_ret
 exact ⟨rfl, by repeat (first | exact Below.refl _ _ | apply below_alloc | apply pw_below_drewN | apply below_drew)⟩
set_option maxHeartbeats 400000 in
theorem clo102_eq {kb cb p3 p4 nb : Nat} {q : Int} {tag key name : ByteArray} {C : Value} (F : Nat) (caps : Array Value) (hF : ∀ args w, Sem.run Tryz.prog (callFunc F args) w = .ok (.enter F args) w) (J : World → Prop) (w : World) (hkb : NodeB w kb 8 tag key C)
  (h3 : w.cell? ⟨p3, 0, none⟩ = some (.slice (some ⟨nb, 0, none⟩) 1 1)) (hnb : w.cell? ⟨nb, 0, none⟩ = some (.string name)) (h4 : w.cell? ⟨p4, 0, none⟩ = some (.func (.func F) #[] caps)) (hne : (name.toList == key.toList) = true)
  (hcall : ∀ w1, Below w.heap.size w w1 → Calls Tryz.prog F (#[.pointer (some ⟨kb, 0, none⟩), .pointer (some ⟨cb, 0, none⟩)] ++ caps) w1 fun e w' => e = .returned (.tuple #[]) ∧ J w') :
  Calls Tryz.prog 102 #[.pointer (some ⟨kb, 0, none⟩), .pointer (some ⟨cb, 0, none⟩), .int .i64 q, .pointer (some ⟨p3, 0, none⟩), .pointer (some ⟨p4, 0, none⟩)] w fun e w' => e = .returned (.bool false) ∧ J w' := by
 have h2 := hkb.c3
 have HC := Lib.hid hcall
 clear hkb hcall
 go_enter Tryz.func102, Tryz.ntmps102
 go_wp2_with fail
 go_quiet (fail)
 go_wp2_with ((with_reducible refine Calls.mono (HC.out _ (by repeat (first | exact Below.refl _ _ | apply below_alloc | apply pw_below_drewN | apply below_drew))) ?_); rintro e w' ⟨rfl, hJ⟩)
 go_ret
 exact ⟨rfl, hJ⟩
set_option maxHeartbeats 400000 in
theorem clo101 {p3 : Nat} {a b : Value} {q : Int} (F : Nat) (caps : Array Value) (hF : ∀ args w, Sem.run Tryz.prog (callFunc F args) w = .ok (.enter F args) w) (J : World → Prop) (w : World)
  (h3 : w.cell? ⟨p3, 0, none⟩ = some (.func (.func F) #[] caps))
  (hcall : Calls Tryz.prog F (#[a, b] ++ caps) w fun e w' => e = .returned (.tuple #[]) ∧ J w') :
  Calls Tryz.prog 101 #[a, b, .int .i64 q, .pointer (some ⟨p3, 0, none⟩)] w fun e w' => e = .returned (.bool true) ∧ J w' := by
 have HC := Lib.hid hcall
 clear hcall
 go_enter Tryz.func101, Tryz.ntmps101
 go_wp2_with ((with_reducible refine Calls.mono (HC.out) ?_); rintro e w' ⟨rfl, hJ⟩)
 go_ret
 exact ⟨rfl, hJ⟩
theorem two_length (kids : List Kid) : (kids.flatMap Kid.two).length = 2 * kids.length := by
 induction kids with
 | nil => rfl
 | cons c r ih => rw [List.flatMap_cons, List.length_append, ih]; simp [Kid.two]; omega
theorem two_get (kids : List Kid) (i : Nat) : (kids.flatMap Kid.two)[2 * i]? = kids[i]?.map (·.kb) ∧ (kids.flatMap Kid.two)[2 * i + 1]? = kids[i]?.map (·.cb) := by
 induction kids generalizing i with
 | nil => simp
 | cons c r ih =>
  cases i with
  | zero => simp [List.flatMap_cons, Kid.two]
  | succ i =>
   have h1 : 2 * (i + 1) = 2 * i + 2 := by omega
   have h2 : 2 * (i + 1) + 1 = (2 * i + 1) + 2 := by omega
   rw [List.flatMap_cons, h1, show 2 * i + 2 + 1 = (2 * i + 1) + 2 from by omega]
   show (c.kb :: c.cb :: r.flatMap Kid.two)[2 * i + 2]? = _ ∧ (c.kb :: c.cb :: r.flatMap Kid.two)[2 * i + 1 + 2]? = _
   simp only [List.getElem?_cons_succ]
   exact ih i
theorem PRow.under {w w' : World} {F : Nat → Prop} {C : Value} {ps : List Nat} (h : PRow w F C ps) (hb : Below w.heap.size w w') : PRow w' F C ps := ⟨h.1, pw_own_below h.2 hb⟩
theorem bs_eq {a b : ByteArray} : (a.toList == b.toList) = (a == b) := (beq_toListBytes a b).symm
def hasKey (name : ByteArray) (c : Kid) : Bool := name.toList == c.key.toList
set_option maxHeartbeats 1000000 in
theorem find78 (F : Nat) (caps : Array Value) (hF : ∀ args w, Sem.run Tryz.prog (callFunc F args) w = .ok (.enter F args) w) (kids : List Kid) {A : Option Addr} {n c nb : Nat} {Fs : Nat → Prop} {name : ByteArray} (J : World → Prop) (w : World)
  (hn : n = (kids.flatMap Kid.two).length) (hrow : PRow w Fs (.slice A n c) (kids.flatMap Kid.two)) (hkeys : ∀ k ∈ kids, NodeB w k.kb 8 noStr k.key nilS) (hnb : w.cell? ⟨nb, 0, none⟩ = some (.string name))
  (hhit : ∀ kid, kids.find? (hasKey name) = some kid → ∀ w1, Below w.heap.size w w1 → Calls Tryz.prog F (#[.pointer (some ⟨kid.kb, 0, none⟩), .pointer (some ⟨kid.cb, 0, none⟩)] ++ caps) w1 fun e w' => e = .returned (.tuple #[]) ∧ J w')
  (hmiss : kids.find? (hasKey name) = none → ∀ w1, Below w.heap.size w w1 → J w1) :
  Calls Tryz.prog 78 #[.slice A n c, .func (.func F) #[] caps, .slice (some ⟨nb, 0, none⟩) 1 1] w fun e w' => e = .returned (.tuple #[]) ∧ J w' := by
 obtain ⟨A', c', he, hc, hcm⟩ := hrow.slice
 obtain ⟨rfl, hnn, rfl⟩ : A = A' ∧ n = (kids.flatMap Kid.two).length ∧ c = c' := by injection he with a b c; exact ⟨a, b, c⟩
 obtain ⟨W, hWe⟩ : ∃ W, W = (w.alloc (.cells #[.func (.func F) #[] caps] 130)).alloc (.cells #[.slice (some ⟨nb, 0, none⟩) 1 1] 22) := ⟨_, rfl⟩
 have hbW : Below w.heap.size w W := hWe ▸ below_alloc (below_alloc (Below.refl _ _) _) _
 have hkey : Calls Tryz.prog 100 #[.slice A n c, .func (.func 102) #[] #[.pointer (some ⟨w.heap.size + 1, 0, none⟩), .pointer (some ⟨w.heap.size, 0, none⟩)]] W fun e w' => e = .returned (.tuple #[]) ∧ J w' := by
  refine visit100 (kids.flatMap Kid.two) hn (hn.trans (two_length kids)) (by omega) hcm 102 _ enter102
   (fun i w' => Below W.heap.size W w' ∧ ∀ k ∈ kids.take i, hasKey name k = false) J (fun i w' h => ⟨Fs, (hrow.under hbW).under h.1⟩) ?_ (fun i w' h => ⟨below_drew h.1, h.2⟩) ?_ W ⟨Below.refl _ _, by simp⟩
  ·intro i q kb cb hq h1 h2 w' ⟨hb, hno⟩
   rw [(two_get kids i).1] at h1
   rw [(two_get kids i).2] at h2
   obtain ⟨kid, hk, rfl⟩ := Option.map_eq_some_iff.1 h1
   rw [hk] at h2
   obtain rfl : kid.cb = cb := by simpa using h2
   have hmem : kid ∈ kids := List.mem_of_getElem? hk
   have hbw : Below w.heap.size w w' := hbW.trans (hb.mono hbW.size)
   have hnode := (hkeys kid hmem).under hbw
   have h3 : w'.cell? ⟨w.heap.size + 1, 0, none⟩ = some (.slice (some ⟨nb, 0, none⟩) 1 1) := by
    rw [hb.cell (p := ⟨w.heap.size + 1, 0, none⟩) (by simp [hWe])]; simp [hWe]
   have h4 : w'.cell? ⟨w.heap.size, 0, none⟩ = some (.func (.func F) #[] caps) := by
    rw [hb.cell (p := ⟨w.heap.size, 0, none⟩) (by simp [hWe]; omega)]; simp [hWe]
   have hnb' : w'.cell? ⟨nb, 0, none⟩ = some (.string name) := (hbw.cell (World.block_lt_of_cell? w _ hnb)).trans hnb
   cases hkn : hasKey name kid with
   | false =>
    refine (clo102_ne w' hnode h3 hnb' hkn).mono ?_
    rintro e w2 ⟨rfl, hb2⟩
    refine ⟨true, rfl, Lib.hid ⟨fun _ => ⟨hb.trans (hb2.mono hb.size), fun k hk' => ?_⟩, fun h => by cases h⟩⟩
    rw [List.take_add_one, hk] at hk'
    rcases List.mem_append.1 hk' with hk' | hk'
    ·exact hno k hk'
    ·simp at hk'; subst hk'; exact hkn
   | true =>
    refine (clo102_eq F caps hF J w' hnode h3 hnb' h4 hkn (fun w1 hb1 => hhit kid ?_ w1 (hbw.trans (hb1.mono hbw.size)))).mono ?_
    ·rw [List.find?_eq_some_iff_append]
     refine ⟨hkn, kids.take i, kids.drop (i + 1), ?_, fun a ha => by rw [hno a ha]; rfl⟩
     have hlt : i < kids.length := (List.getElem?_eq_some_iff.1 hk).1
     have : kids[i] = kid := (List.getElem?_eq_some_iff.1 hk).2
     rw [← this, List.getElem_cons_drop, List.take_append_drop]
    ·rintro e w2 ⟨rfl, hJ⟩
     exact ⟨false, rfl, Lib.hid ⟨(fun h => by cases h), fun _ => hJ⟩⟩
  ·rintro w' ⟨hb, hno⟩
   refine hmiss ?_ w' (hbW.trans (hb.mono hbW.size))
   rw [List.find?_eq_none]
   intro k hk
   rw [List.take_length] at hno
   rw [hno k hk]
   decide
 rw [hWe] at hkey
 have HK := Lib.hid hkey
 clear hkey hhit hmiss hkeys hrow hF hnb hn he hbW hWe hnn
 go_enter Tryz.func78, Tryz.ntmps78
 go_wp2_with (go_at_call 100; (with_reducible refine Calls.mono (HK.out) ?_); rintro e w' ⟨rfl, hJ⟩)
 go_end0
 exact ⟨rfl, hJ⟩
theorem run_app {a : Act} {o : Oper} {W : World} {s x : Operand} {base : Nat} (hbase : base ≤ W.heap.size) (t e : Nat) (z : Value) (bytes : Nat) (ys : List Value)
  (ho : o.op = .call { callee := .builtin .append, args := #[s, x], argTypes := #[t, t] })
  (ht : Tryz.prog.underlying t = some (.slice e)) (hinfo : (Tryz.prog.info? e).map (fun i => (i.zero, i.size, i.bytes)) = some (some z, 1, bytes)) (hz : z.cells.size = 1) (hb0 : 0 < bytes)
  (v : Value) (n : Nat) (xs : List Value) (hs : a.eval s = v) (hx : a.eval x = .slice (some ⟨W.heap.size, 0, none⟩) ys.length ys.length) (h1 : ∀ u ∈ ys, u.oneCell' = true)
  (HO : W.ownsRow base e 1 v n xs) (hl : (n + ys.length) * bytes ≤ 140737488355328) :
  ∃ v1 w1, (execOp a.eval o).run Tryz.prog (W.alloc (.cells ys.toArray e)) = .ok (.value v1) w1 ∧ w1.ownsRow base e 1 v1 (n + ys.length) (xs ++ ys) ∧ W.grownBy w1 v.ownBlock ∧ (v1.ownBlock = v.ownBlock ∨ ∃ b, v1.ownBlock = some b ∧ W.heap.size ≤ b) := by
 obtain ⟨i0, hi, hzz⟩ := Option.map_eq_some_iff.1 hinfo
 simp only [Prod.mk.injEq] at hzz
 obtain ⟨hz0, hz1, hz2⟩ := hzz
 have hlen : n + ys.length ≤ 140737488355328 := Nat.le_trans (Nat.le_mul_of_pos_right _ hb0) hl
 obtain ⟨v1, w1, hr, hown, hg, _, hat⟩ := run_append_own_at (P := Tryz.prog) (W.alloc (.cells ys.toArray e)) base t o.type e i0 z 1 bytes ht hi hz0 hz1 hz2 hz Nat.one_pos v n xs (HO.alloc _) ⟨W.heap.size, 0, none⟩ ys.length ys.length ys (by simp)
  (by simpa using World.news_of_block (cs := ys.toArray) (t := e) (fr := (0, 0)) (heap_alloc_new W (.cells ys.toArray e))) h1 (by simp only [maxLen]; omega) hl (by simp; omega)
 refine ⟨v1, w1, ?_, hown, World.grownBy.trans (World.grownBy_alloc W _ _) hg, ?_⟩
 ·unfold execOp
  simp only [ho, resolve, invoke, builtin, Sem.run_bind, Sem.run_pure, Result.andThen_ok, List.map_toArray, List.map_cons, List.map_nil, hs, hx, hr]
 ·rcases hat with hat | hat
  ·exact .inl hat
  ·exact .inr ⟨_, hat, by simp⟩
theorem step_app {ops : Array Oper} {o : Oper} {a : Act} {Q : Exit → Act → World → Prop} {K : Act → World → Prop} {W : World} {s x : Operand} {base : Nat} (hbase : base ≤ W.heap.size) (t e : Nat) (z : Value) (bytes : Nat) (ys : List Value) (m : Nat) (hm : ys.length = m)
  (hw : Region.wanted o (yielded ops a.tmps) = true)
  (ho : o.op = .call { callee := .builtin .append, args := #[s, x], argTypes := #[t, t] })
  (ht : Tryz.prog.underlying t = some (.slice e)) (hinfo : (Tryz.prog.info? e).map (fun i => (i.zero, i.size, i.bytes)) = some (some z, 1, bytes)) (hz : z.cells.size = 1) (hb0 : 0 < bytes)
  (v : Value) (n : Nat) (xs : List Value) (hs : a.eval s = v) (hx : a.eval x = .slice (some ⟨W.heap.size, 0, none⟩) m m) (h1 : ∀ u ∈ ys, u.oneCell' = true)
  (HO : W.ownsRow base e 1 v n xs) (hl : (n + m) * bytes ≤ 140737488355328)
  (h : ∀ v1 w1, w1.ownsRow base e 1 v1 (n + m) (xs ++ ys) → W.grownBy w1 v.ownBlock → (v1.ownBlock = v.ownBlock ∨ ∃ b, v1.ownBlock = some b ∧ W.heap.size ≤ b) → K (a.put o.dst v1) w1) :
  if Region.wanted o (yielded ops a.tmps) = true then Oper.wp Tryz.prog o a (W.alloc (.cells ys.toArray e)) K Q else K (a.put o.dst undef) (W.alloc (.cells ys.toArray e))   := by
 subst hm
 rw [if_pos hw]
 obtain ⟨v1, w1, hr, h2, h3, h4⟩ := run_app hbase t e z bytes ys ho ht hinfo hz hb0 v n xs hs hx h1 HO hl
 unfold Oper.wp
 rw [hr]
 exact h v1 w1 h2 h3 h4
theorem list_app {ops : Array Oper} {rest : List Oper} {o : Oper} {a : Act} {Q : Exit → Act → World → Prop} {W : World} {s x : Operand} {base : Nat} (hbase : base ≤ W.heap.size) (t e : Nat) (z : Value) (bytes : Nat) (ys : List Value) (m : Nat) (hm : ys.length = m)
  (hgd : o.guard = none)
  (ho : o.op = .call { callee := .builtin .append, args := #[s, x], argTypes := #[t, t] })
  (ht : Tryz.prog.underlying t = some (.slice e)) (hinfo : (Tryz.prog.info? e).map (fun i => (i.zero, i.size, i.bytes)) = some (some z, 1, bytes)) (hz : z.cells.size = 1) (hb0 : 0 < bytes)
  (v : Value) (n : Nat) (xs : List Value) (hs : a.eval s = v) (hx : a.eval x = .slice (some ⟨W.heap.size, 0, none⟩) m m) (h1 : ∀ u ∈ ys, u.oneCell' = true)
  (HO : W.ownsRow base e 1 v n xs) (hl : (n + m) * bytes ≤ 140737488355328)
  (h : ∀ v1 w1, w1.ownsRow base e 1 v1 (n + m) (xs ++ ys) → W.grownBy w1 v.ownBlock → (v1.ownBlock = v.ownBlock ∨ ∃ b, v1.ownBlock = some b ∧ W.heap.size ≤ b) → wpList Tryz.prog ops Q rest (a.put o.dst v1) w1) :
  wpList Tryz.prog ops Q (o :: rest) a (W.alloc (.cells ys.toArray e))   := by
 subst hm
 obtain ⟨v1, w1, hr, h2, h3, h4⟩ := run_app hbase t e z bytes ys ho ht hinfo hz hb0 v n xs hs hx h1 HO hl
 exact Kd.event_run hgd hr (h v1 w1 h2 h3 h4)
theorem info69 : (Tryz.prog.info? 69).map (fun i => (i.zero, i.size, i.bytes)) = some (some (.pointer none), 1, 8) := by kernel_rfl
theorem info47 : (Tryz.prog.info? 47).map (fun i => (i.zero, i.size, i.bytes)) = some (some (.pointer none), 1, 8) := by kernel_rfl
structure MapAt (w : World) (b : Nat) (C : Value) (kids : List Kid) : Prop where
 node : NodeB w b 4 noStr noStr C
 row : ∃ F, PRow w F C (kids.flatMap Kid.two)
 keys : ∀ c ∈ kids, NodeB w c.kb 8 noStr c.key nilS
theorem MapAt.under {w w' : World} {b : Nat} {C : Value} {kids : List Kid} (h : MapAt w b C kids) (hb : Below w.heap.size w w') : MapAt w' b C kids :=
 ⟨h.node.under hb, by obtain ⟨F, hr⟩ := h.row; exact ⟨F, hr.under hb⟩, fun c hc => (h.keys c hc).under hb⟩
def MNB (w : World) (mb kr vr : Nat) : Prop := w.heap[mb]? = some (.cells #[.pointer (some ⟨kr, 0, none⟩), .pointer (some ⟨vr, 0, none⟩)] 96 (0, 0))
set_option maxHeartbeats 400000 in
theorem clo80 {kb cb p : Nat} {v : Value} (w : World) (hp : w.heap[p]? = some (.cells #[v] 93 (0, 0))) :
  Calls Tryz.prog 80 #[.pointer (some ⟨kb, 0, none⟩), .pointer (some ⟨cb, 0, none⟩), .pointer (some ⟨p, 0, none⟩)] w fun e w' =>
   e = .returned (.tuple #[]) ∧ ∃ mb kr vr, w'.heap[p]? = some (.cells #[.pointer (some ⟨mb, 0, none⟩)] 93 (0, 0)) ∧ MNB w' mb kr vr ∧ RNB w' kr kb ∧ RNB w' vr cb ∧ Keep (fun k => k = p) w w' := by
 have hc : w.cell? ⟨p, 0, none⟩ = some v := (blk_cell hp 0).trans rfl
 have hz : w.frozen? ⟨p, 0, none⟩ = false := blk_frozen hp 0
 have hlt : p < w.heap.size := blk_lt hp
 have HP := Lib.hid hp
 have hl1 : p < w.heap.size + 1 := by omega
 have hl2 : p < w.heap.size + 1 + 1 := by omega
 clear hp
 go_enter Tryz.func80, Tryz.ntmps80
 go_wp2_with (go_at_call 39; (with_reducible refine Calls.mono (newRNode _) ?_); rintro e w' ⟨rfl, rfl⟩)
 go_end0
 have hp' := blk_set HP.out 0 (.pointer (some ⟨w.heap.size + 1 + 1, 0, none⟩))
 have hsz := size_set w ⟨p, 0, none⟩ (.pointer (some ⟨w.heap.size + 1 + 1, 0, none⟩))
 refine ⟨rfl, w.heap.size + 1 + 1, w.heap.size, w.heap.size + 1, ?_, ?_, ?_, ?_, ?_⟩
 ·exact blk_old _ (blk_old _ (blk_old _ hp'))
 ·exact blk_new (by simp [hsz]) _
 ·exact blk_old _ (blk_old _ (blk_new (by simp [hsz]) _))
 ·exact blk_old _ (blk_new (by simp [hsz]) _)
 ·exact (((Keep.setCell (Keep.refl (fun k => k = p) w) _ _ (fun _ => rfl)).alloc _).alloc _).alloc _
set_option maxRecDepth 100000 in
def KeepT (ts : List Nat) (w w' : World) : Prop := ∀ (k : Nat) (cs : Array Value) (t : Nat), w.heap[k]? = some (.cells cs t (0, 0)) → t ∉ ts → w'.heap[k]? = some (.cells cs t (0, 0))
set_option maxHeartbeats 400000 in
theorem clo98 {kb p B : Nat} {cv v : Value} {tag key : ByteArray} {C : Value} {n : Nat} {xs : List Value} (w : World) (hkb : NodeB w kb 8 tag key C) (hp : w.heap[p]? = some (.cells #[v] 22 (0, 0))) (hB : B ≤ w.heap.size) (hpB : B ≤ p) (hv : w.ownsRow B 9 1 v n xs) (hx : (n + 1) * 16 ≤ 140737488355328) :
  Calls Tryz.prog 98 #[.pointer (some ⟨kb, 0, none⟩), cv, .pointer (some ⟨p, 0, none⟩)] w fun e w' =>
   e = .returned (.tuple #[]) ∧ ∃ v1, w'.heap[p]? = some (.cells #[v1] 22 (0, 0)) ∧ w'.ownsRow B 9 1 v1 (n + 1) (xs ++ [.string key]) ∧ Below B w w' ∧ KeepT [22, 9] w w' := by
 have hc : w.cell? ⟨p, 0, none⟩ = some v := (blk_cell hp 0).trans rfl
 have hz : w.frozen? ⟨p, 0, none⟩ = false := blk_frozen hp 0
 have hlt : p < w.heap.size := blk_lt hp
 have h2 := hkb.c3
 have HP := Lib.hid hp
 have HV := Lib.hid hv
 clear hp hkb hv
 go_enter Tryz.func98, Tryz.ntmps98
 go_wp2_with fail
 go_region_law ((refine step_app (by exact hB) 22 9 (.string ⟨#[]⟩) 16 [.string key] 1 rfl (by rfl) (by rfl) Tryz.underlying22 info9 rfl (by omega) v n xs (by rfl) (by rfl) (by simp [Value.oneCell']) (own_drew HV.out) hx ?_); intro v1 w1 hown1 hg1 hat1; obtain ⟨A1, c1, rfl⟩ := own_slice hown1; have hp1 : w1.heap[p]? = some (.cells #[v] 22 (0, 0)) := (hg1.block p hlt (own_ne HV.out HP.out (by decide))).trans HP.out; have hc1 : w1.cell? ⟨p, 0, none⟩ = some v := (blk_cell hp1 0).trans rfl; have hz1 : w1.frozen? ⟨p, 0, none⟩ = false := blk_frozen hp1 0; have HP1 := Lib.hid hp1; clear hp1; have HO1 := Lib.hid hown1; have HG1 := Lib.hid hg1; clear hown1 hg1 hat1)
 all_goals go_end0
 all_goals
  refine ⟨rfl, .slice A1 (n + 1) c1, blk_set HP1.out 0 _, own_setCell HO1.out (own_ne HO1.out HP1.out (by decide)) _, ?_, ?_⟩
  ·exact ((below_drew (Below.refl _ _)).grown HG1.out hB fun k hk => own_base HV.out k hk).setCell hpB _
  ·intro k cs t hk hn
   have hk1 : w1.heap[k]? = some (.cells cs t (0, 0)) := (HG1.out.block k (blk_lt hk) (own_ne HV.out hk (fun e => hn (by simp [← e])))).trans hk
   refine blk_else _ (fun e => ?_) hk1
   subst e
   have hp1 := HP1.out
   rw [hk1] at hp1
   injection hp1 with hp1
   injection hp1 with _ hp1
   exact hn (by simp [hp1])
theorem KeepT.box {ts : List Nat} {w w' : World} (h : KeepT ts w w') {k : Nat} {cs : Array Value} {t : Nat} (hb : w.heap[k]? = some (.cells cs t (0, 0))) (hn : t ∉ ts := by decide) : w'.heap[k]? = some (.cells cs t (0, 0)) := h k cs t hb hn
set_option maxHeartbeats 1000000 in
theorem field_some {r b : Nat} {C : Value} {kids : List Kid} {name : ByteArray} (w : World) (hr : RNB w r b) (hm : MapAt w b C kids) :
  Calls Tryz.prog 59 #[.pointer (some ⟨r, 0, none⟩), .string name] w fun e w' => Below w.heap.size w w' ∧
   (kids.find? (hasKey name) = none → e = .returned (.pointer none)) ∧
   (∀ kid, kids.find? (hasKey name) = some kid → ∃ mb kr vr, e = .returned (.pointer (some ⟨mb, 0, none⟩)) ∧ MNB w' mb kr vr ∧ RNB w' kr kid.kb ∧ RNB w' vr kid.cb) := by
 obtain ⟨F, hrow⟩ := hm.row
 obtain ⟨A, c, rfl, hc, hcm⟩ := hrow.slice
 have h0 := hm.node.c0
 obtain ⟨n, hn⟩ : ∃ n, n = (kids.flatMap Kid.two).length := ⟨_, rfl⟩
 rw [← hn] at hc
 have HB := Lib.hid hm.node
 obtain ⟨W, hW⟩ : ∃ W, W = (w.alloc (.cells #[.pointer none] 93)).alloc (.cells #[.string name] 9) := ⟨_, rfl⟩
 have hbW : Below w.heap.size w W := hW ▸ below_alloc (below_alloc (Below.refl _ _) _) _
 have hp : W.heap[w.heap.size]? = some (.cells #[.pointer none] 93 (0, 0)) := by rw [hW]; exact blk_old _ (blk_new rfl _)
 have hnb : W.cell? ⟨w.heap.size + 1, 0, none⟩ = some (.string name) := by rw [hW]; simp
 have hfind := find78 80 #[.pointer (some ⟨w.heap.size, 0, none⟩)] enter80 kids (A := A) (n := n) (c := c) (nb := w.heap.size + 1) (Fs := F) (name := name)
  (fun w' => ∃ v : Value, w'.heap[w.heap.size]? = some (.cells #[v] 93 (0, 0)) ∧ Below w.heap.size w w' ∧ (kids.find? (hasKey name) = none → v = .pointer none) ∧
   ∀ kid, kids.find? (hasKey name) = some kid → ∃ mb kr vr, v = .pointer (some ⟨mb, 0, none⟩) ∧ MNB w' mb kr vr ∧ RNB w' kr kid.kb ∧ RNB w' vr kid.cb) W hn
  (by rw [hn]; exact hrow.under hbW) (fun k hk => (hm.keys k hk).under hbW) hnb
  (fun kid hkid w1 hb1 => by
   refine (clo80 w1 (p := w.heap.size) (v := .pointer none) ((hb1.block _ (blk_lt hp)).trans hp)).mono ?_
   rintro e w2 ⟨rfl, mb, kr, vr, h1, h2, h3, h4, h5⟩
   refine ⟨rfl, _, h1, ?_, fun h => ?_, fun kid' hk' => ?_⟩
   ·exact hbW.trans ((hb1.mono hbW.size).trans (h5.below (Nat.le_trans hbW.size hb1.size) (fun k _ e => by omega)))
   ·rw [hkid] at h; cases h
   ·rw [hkid] at hk'; injection hk' with hk'; subst hk'
    exact ⟨mb, kr, vr, rfl, h2, h3, h4⟩)
  (fun hno w1 hb1 => ⟨_, (hb1.block _ (blk_lt hp)).trans hp, hbW.trans (hb1.mono hbW.size), fun _ => rfl, fun kid h => by rw [hno] at h; cases h⟩)
 rw [hW] at hfind
 have HF := Lib.hid hfind
 have HR := Lib.hid hr
 rw [← hn] at HB
 clear hfind hbW hp hnb hW hm hrow hn hr
 go_enter Tryz.func59, Tryz.ntmps59
 go_wp2_with (first | (go_at_call 42; (with_reducible refine Calls.mono (ynode_some _ HR.out HB.out rfl) ?_); rintro e w' ⟨rfl, rfl⟩) | (go_at_call 79; (with_reducible refine Calls.mono (content_some _ (HR.out.under (below_alloc (Below.refl _ _) _)) (HB.out.under (below_alloc (Below.refl _ _) _)) rfl) ?_); rintro e w' ⟨rfl, rfl⟩) | (go_at_call 78; (with_reducible refine Calls.mono (HF.out) ?_); rintro e w' ⟨rfl, v, hv, hJ⟩; have hcv := (blk_cell hv 0).trans (show (#[v] : Array Value)[0]? = some v from rfl); have HJ := Lib.hid hJ; clear hJ hv))
 go_ret
 obtain ⟨h1, h2, h3⟩ := HJ.out
 refine ⟨h1, fun h => by rw [h2 h]; rfl, fun kid hk => ?_⟩
 obtain ⟨mb, kr, vr, rfl, h⟩ := h3 kid hk
 exact ⟨mb, kr, vr, rfl, h⟩
set_option maxHeartbeats 1000000 in
theorem all78 (F : Nat) (caps : Array Value) (hF : ∀ args w, Sem.run Tryz.prog (callFunc F args) w = .ok (.enter F args) w) (kids : List Kid) {A : Option Addr} {n c : Nat} (I : Nat → World → Prop) (w : World)
  (hn : n = (kids.flatMap Kid.two).length) (hc : n ≤ c) (hcm : c ≤ maxLen) (hrow : ∀ i w', I i w' → ∃ Fs, PRow w' Fs (.slice A n c) (kids.flatMap Kid.two))
  (h0 : ∀ w1, Below w.heap.size w w1 → I 0 w1) (hdrew : ∀ i w', I i w' → I i w'.drew)
  (hcall : ∀ i kid, kids[i]? = some kid → ∀ w1, I i w1 → Calls Tryz.prog F (#[.pointer (some ⟨kid.kb, 0, none⟩), .pointer (some ⟨kid.cb, 0, none⟩)] ++ caps) w1 fun e w' => e = .returned (.tuple #[]) ∧ I (i + 1) w' ∧ KeepT [22, 9] w1 w') :
  Calls Tryz.prog 78 #[.slice A n c, .func (.func F) #[] caps, .slice none 0 0] w fun e w' => e = .returned (.tuple #[]) ∧ I kids.length w' := by
 obtain ⟨W, hWe⟩ : ∃ W, W = (w.alloc (.cells #[.func (.func F) #[] caps] 130)).alloc (.cells #[.slice none 0 0] 22) := ⟨_, rfl⟩
 have hbW : Below w.heap.size w W := hWe ▸ below_alloc (below_alloc (Below.refl _ _) _) _
 have hfn : W.heap[w.heap.size]? = some (.cells #[.func (.func F) #[] caps] 130 (0, 0)) := by rw [hWe]; exact blk_old _ (blk_new rfl _)
 have hkey : Calls Tryz.prog 100 #[.slice A n c, .func (.func 101) #[] #[.pointer (some ⟨w.heap.size, 0, none⟩)]] W fun e w' => e = .returned (.tuple #[]) ∧ I kids.length w' := by
  refine visit100 (kids.flatMap Kid.two) hn (hn.trans (two_length kids)) hc hcm 101 _ enter101
   (fun i w' => I i w' ∧ w'.heap[w.heap.size]? = some (.cells #[.func (.func F) #[] caps] 130 (0, 0))) (fun w' => I kids.length w') (fun i w' h => hrow i w' h.1) ?_ (fun i w' h => ⟨hdrew i w' h.1, h.2⟩) (fun w' h => h.1) W ⟨h0 W hbW, hfn⟩
  intro i q kb cb hq h1 h2 w' ⟨hI, hb⟩
  rw [(two_get kids i).1] at h1
  rw [(two_get kids i).2] at h2
  obtain ⟨kid, hk, rfl⟩ := Option.map_eq_some_iff.1 h1
  rw [hk] at h2
  obtain rfl : kid.cb = cb := by simpa using h2
  refine (clo101 F caps hF (fun w2 => I (i + 1) w2 ∧ w2.heap[w.heap.size]? = some (.cells #[.func (.func F) #[] caps] 130 (0, 0))) w' ((blk_cell hb 0).trans rfl) ((hcall i kid hk w' hI).mono ?_)).mono ?_
  ·rintro e w2 ⟨rfl, h3, h4⟩
   exact ⟨rfl, h3, h4.box hb⟩
  ·rintro e w2 ⟨rfl, h3⟩
   exact ⟨true, rfl, Lib.hid ⟨fun _ => h3, fun h => by cases h⟩⟩
 rw [hWe] at hkey
 have HK := Lib.hid hkey
 clear hkey hcall hrow hF hn hbW hWe h0 hdrew hfn
 go_enter Tryz.func78, Tryz.ntmps78
 go_wp2_with (go_at_call 100; (with_reducible refine Calls.mono (HK.out) ?_); rintro e w' ⟨rfl, hJ⟩)
 go_end0
 exact ⟨rfl, hJ⟩
abbrev strs (l : List ByteArray) : List Value := l.map Value.string
set_option maxHeartbeats 1000000 in
theorem fields_some {r b : Nat} {C : Value} {kids : List Kid} (w : World) (hr : RNB w r b) (hm : MapAt w b C kids) (hlen : kids.length ≤ 1000000) :
  Calls Tryz.prog 74 #[.pointer (some ⟨r, 0, none⟩)] w fun e w' => ∃ v, e = .returned (.tuple #[v, .nilIface]) ∧ Below w.heap.size w w' ∧ w'.ownsRow w.heap.size 9 1 v kids.length (strs (kids.map (·.key))) := by
 obtain ⟨F, hrow⟩ := hm.row
 obtain ⟨A, c, rfl, hc, hcm⟩ := hrow.slice
 obtain ⟨n, hn⟩ : ∃ n, n = (kids.flatMap Kid.two).length := ⟨_, rfl⟩
 have hn2 : n = 2 * kids.length := hn.trans (two_length kids)
 rw [← hn] at hc
 have hnode := hm.node
 rw [← hn] at hnode
 have HB := Lib.hid hnode
 obtain ⟨W, hW⟩ : ∃ W, W = w.alloc (.cells #[.slice none 0 0] 22) := ⟨_, rfl⟩
 have hbW : Below w.heap.size w W := hW ▸ below_alloc (Below.refl _ _) _
 have hp : W.heap[w.heap.size]? = some (.cells #[.slice none 0 0] 22 (0, 0)) := by rw [hW]; exact blk_new rfl _
 have hall := all78 98 #[.pointer (some ⟨w.heap.size, 0, none⟩)] enter98 kids (A := A) (n := n) (c := c)
  (fun i w' => Below w.heap.size w w' ∧ ∃ v, w'.heap[w.heap.size]? = some (.cells #[v] 22 (0, 0)) ∧ w'.ownsRow w.heap.size 9 1 v i (strs ((kids.take i).map (·.key)))) W hn hc hcm
  (fun i w' h => ⟨F, by rw [hn]; exact hrow.under h.1⟩)
  (fun w1 hb1 => ⟨hbW.trans (hb1.mono hbW.size), _, (hb1.block _ (blk_lt hp)).trans hp, own_nil _ _ _ _⟩)
  (fun i w' h => ⟨below_drew h.1, by obtain ⟨v, h1, h2⟩ := h.2; exact ⟨v, h1, own_drew h2⟩⟩)
  (fun i kid hk w1 ⟨hb1, v, h1, h2⟩ => by
   have hlt : i < kids.length := (List.getElem?_eq_some_iff.1 hk).1
   refine (clo98 w1 ((hm.keys kid (List.mem_of_getElem? hk)).under hb1) h1 hb1.size (Nat.le_refl _) h2 (by omega)).mono ?_
   rintro e w2 ⟨rfl, v1, h3, h4, h5, h6⟩
   refine ⟨rfl, ⟨hb1.trans h5, v1, h3, ?_⟩, h6⟩
   have : strs ((kids.take (i + 1)).map (·.key)) = strs ((kids.take i).map (·.key)) ++ [.string kid.key] := by
    rw [List.take_add_one, hk]; simp [strs]
   rw [this]; exact h4)
 rw [hW] at hall
 have HF := Lib.hid hall
 have HR := Lib.hid hr
 have hev : ((n : Int) % 2 != 0) = false := by rw [bne_eq_false_iff_eq]; omega
 have hnm : (n : Int) ≤ 9223372036854775807 := by unfold maxLen at hcm; omega
 have HE := Lib.hid (errInv_map w hr hnode (by decide +kernel) hev hnm)
 have HL := Lib.hid (show (kids.take kids.length) = kids from List.take_length)
 clear hall hbW hp hW hm hrow hn hr hn2 hnode hev hlen hc hcm
 go_enter Tryz.func74, Tryz.ntmps74
 go_wp2_with (first | (go_at_call 56; (with_reducible refine Calls.mono HE.out ?_); rintro e w' ⟨rfl, rfl⟩) | (go_at_call 79; (with_reducible refine Calls.mono (content_some _ (HR.out.under (below_alloc (Below.refl _ _) _)) (HB.out.under (below_alloc (Below.refl _ _) _)) rfl) ?_); rintro e w' ⟨rfl, rfl⟩) | (go_at_call 78; (with_reducible refine Calls.mono (HF.out) ?_); rintro e w' ⟨rfl, hb2, v, hv, hJ⟩; have hcv := (blk_cell hv 0).trans (show (#[v] : Array Value)[0]? = some v from rfl); have HJ := Lib.hid hJ; have HB2 := Lib.hid hb2; clear hJ hv hb2))
 go_ret2
 exact ⟨v, rfl, HB2.out, by have := HJ.out; rwa [HL.out] at this⟩
set_option maxRecDepth 20000 in
set_option maxHeartbeats 1000000 in
theorem pipe1 {r b fb T K : Nat} {k : Int} {tag val : ByteArray} {C x x' : Value} (J : Option Addr → World → Prop) (w : World) (hr : RNB w r b) (hb : NodeB w b k tag val C) (hk1 : (k == 1) = false) (hf : w.cell? ⟨fb, 0, none⟩ = some (.iface T x))
  (hm : ∀ w, Sem.run Tryz.prog (method 345 T x "Filter") w = .ok (K, x') w) (hK : ∀ args w, Sem.run Tryz.prog (callFunc K args) w = .ok (.enter K args) w)
  (hcall : Calls Tryz.prog K #[x', .pointer (some ⟨r, 0, none⟩)] w fun e w' => ∃ q, e = .returned (.tuple #[.pointer q, .nilIface]) ∧ J q w') :
  Calls Tryz.prog 62 #[.pointer (some ⟨r, 0, none⟩), .slice (some ⟨fb, 0, none⟩) 1 1] w fun e w' => ∃ q, e = .returned (.tuple #[.pointer q, .nilIface]) ∧ J q w' := by
 have h1 := hr.cell1
 have h2 := hb.c0
 have HC := Lib.hid hcall
 clear hr hb hcall
 go_enter Tryz.func62, Tryz.ntmps62
 go_wp2_with fail
 refine wp_loop_rounds 2 ?_
 rw [rounds_succ]
 go_wp2_with fail
 refine Calls.mono HC.out ?_
 rintro e w1 ⟨q, rfl, hJ⟩
 have HJ := Lib.hid hJ
 clear hJ HC hm hK hf h1 h2
 rcases q with _ | a
 ·go_wp2_with fail
  go_ret2
  exact ⟨none, rfl, HJ.out⟩
 ·go_wp2_with fail
  rw [rounds_succ]
  go_wp2_with fail
  go_ret2
  exact ⟨some a, rfl, HJ.out⟩
theorem enter195 (args : Array Value) (w : World) : Sem.run Tryz.prog (callFunc 195 args) w = .ok (.enter 195 args) w := enterFn Tryz.func195 (by kernel_rfl) rfl args w
theorem meth195 (a0 a1 a2 a3 a4 a5 : Value) (w : World) : Sem.run Tryz.prog (method 345 168 (.agg #[a0, a1, a2, a3, a4, a5]) "Filter") w = .ok (195, .agg #[a0, a1, a2, a3, a4, a5]) w := by kernel_rfl
set_option maxHeartbeats 1000000 in
theorem clo199 {kb cb p2 p3 p4 : Nat} {v : Value} (w : World) (h2 : w.cell? ⟨p2, 0, none⟩ = some (.bool false)) (hp : w.heap[p4]? = some (.cells #[v] 47 (0, 0))) :
  Calls Tryz.prog 199 #[.pointer (some ⟨kb, 0, none⟩), .pointer (some ⟨cb, 0, none⟩), .pointer (some ⟨p2, 0, none⟩), .pointer (some ⟨p3, 0, none⟩), .pointer (some ⟨p4, 0, none⟩)] w fun e w' =>
   e = .returned (.tuple #[]) ∧ ∃ vr, w'.heap[p4]? = some (.cells #[.pointer (some ⟨vr, 0, none⟩)] 47 (0, 0)) ∧ RNB w' vr cb ∧ Keep (fun k => k = p4) w w' := by
 have hc : w.cell? ⟨p4, 0, none⟩ = some v := (blk_cell hp 0).trans rfl
 have hz : w.frozen? ⟨p4, 0, none⟩ = false := blk_frozen hp 0
 have hlt : p4 < w.heap.size := blk_lt hp
 have hl1 : p4 < w.heap.size + 1 := by omega
 have HP := Lib.hid hp
 have hcq : ∀ n o, ((w.drewN n).alloc o).cell? ⟨p4, 0, none⟩ = some v := fun n o => (World.cell?_alloc_past (w := w.drewN n) o p4 0 hlt).trans hc
 have hzq : ∀ n o, ((w.drewN n).alloc o).frozen? ⟨p4, 0, none⟩ = false := fun n o => (World.frozen?_alloc_past (w := w.drewN n) o p4 0 hlt).trans hz
 clear hp
 go_enter Tryz.func199, Tryz.ntmps199
 go_wp2_with fail
 go_quiet (fail)
 go_wp2_with (go_at_call 39; (with_reducible refine Calls.mono (newRNode _) ?_); rintro e w' ⟨rfl, rfl⟩)
 go_end0
 refine ⟨rfl, w.heap.size, ?_, ?_, ?_⟩
 ·exact blk_set (blk_old (w := w.drewN nq) _ HP.out) 0 _
 ·exact blk_else _ (by show w.heap.size ≠ p4; omega) (blk_new (w := w.drewN nq) rfl _)
 ·exact Keep.setCell (((Keep.refl (fun k => k = p4) w).drewN nq).alloc _) ⟨p4, 0, none⟩ _ (fun _ => rfl)
def Found (kids : List Kid) (name : ByteArray) (q : Option Addr) (w : World) : Prop :=
 (kids.find? (hasKey name) = none → q = none) ∧ ∀ kid, kids.find? (hasKey name) = some kid → ∃ vr, q = some ⟨vr, 0, none⟩ ∧ RNB w vr kid.cb
set_option maxRecDepth 20000 in
set_option maxHeartbeats 2000000 in
theorem match_key {r b : Nat} {C : Value} {kids : List Kid} {kd name : ByteArray} (w : World) (hr : RNB w r b) (hm : MapAt w b C kids) (hne : name.toList.isEmpty = false) :
  Calls Tryz.prog 195 #[.agg #[.string kd, .string name, .pointer none, .string noStr, .string noStr, .pointer none], .pointer (some ⟨r, 0, none⟩)] w fun e w' => ∃ q, e = .returned (.tuple #[.pointer q, .nilIface]) ∧ Below w.heap.size w w' ∧ Found kids name q w' := by
 obtain ⟨F, hrow⟩ := hm.row
 obtain ⟨A, c, rfl, hc, hcm⟩ := hrow.slice
 obtain ⟨n, hn⟩ : ∃ n, n = (kids.flatMap Kid.two).length := ⟨_, rfl⟩
 have hn2 : n = 2 * kids.length := hn.trans (two_length kids)
 have hnode := hm.node
 rw [← hn] at hnode hc
 have HB := Lib.hid hnode
 have HR := Lib.hid hr
 have hev : ((n : Int) % 2 != 0) = false := by rw [bne_eq_false_iff_eq]; omega
 have hnm : (n : Int) ≤ 9223372036854775807 := by unfold maxLen at hcm; omega
 have hne' : (!name.toList.isEmpty) = true := by rw [hne]; rfl
 obtain ⟨w1, hw1⟩ : ∃ w1, w1 = w.alloc (.cells #[.string kd, .string name, .pointer none, .string noStr, .string noStr, .pointer none] 168) := ⟨_, rfl⟩
 have hb1 : Below w.heap.size w w1 := hw1 ▸ below_alloc (Below.refl _ _) _
 have HE := Lib.hid (errInv_map w1 (hr.under hb1) (hnode.under hb1) (by decide +kernel) hev hnm)
 have HMi := Lib.hid (missing_no w1 (hr.under hb1) (hnode.under hb1) rfl (by decide +kernel))
 obtain ⟨w3, hw3⟩ : ∃ w3, w3 = ((((w.alloc (.cells #[.string kd, .string name, .pointer none, .string noStr, .string noStr, .pointer none] 168)).alloc (.cells #[.pointer none] 47)).alloc (.cells #[.bool false] 4)).alloc (.cells #[.string name] 9)).drew := ⟨_, rfl⟩
 have hb3 : Below w.heap.size w w3 := hw3 ▸ below_drew (below_alloc (below_alloc (below_alloc (below_alloc (Below.refl _ _) _) _) _) _)
 have hp4 : w3.heap[w.heap.size + 1]? = some (.cells #[.pointer none] 47 (0, 0)) := by rw [hw3]; exact blk_drew (blk_old _ (blk_old _ (blk_new (by simp) _)))
 have hp2 : w3.heap[w.heap.size + 1 + 1]? = some (.cells #[.bool false] 4 (0, 0)) := by rw [hw3]; exact blk_drew (blk_old _ (blk_new (by simp) _))
 have hp5 : w3.heap[w.heap.size]? = some (.cells #[.string kd, .string name, .pointer none, .string noStr, .string noStr, .pointer none] 168 (0, 0)) := by rw [hw3]; exact blk_drew (blk_old _ (blk_old _ (blk_old _ (blk_new (by simp) _))))
 have hnb : w3.cell? ⟨w.heap.size + 1 + 1 + 1, 0, none⟩ = some (.string name) := by rw [hw3]; exact (blk_cell (blk_drew (blk_new (by simp) _)) 0).trans rfl
 have hfind := find78 199 #[.pointer (some ⟨w.heap.size + 1 + 1, 0, none⟩), .pointer (some ⟨w.heap.size, 0, none⟩), .pointer (some ⟨w.heap.size + 1, 0, none⟩)] enter199 kids (A := A) (n := n) (c := c) (nb := w.heap.size + 1 + 1 + 1) (Fs := F) (name := name)
  (fun w' => Below w.heap.size w w' ∧ w'.heap[w.heap.size]? = some (.cells #[.string kd, .string name, .pointer none, .string noStr, .string noStr, .pointer none] 168 (0, 0)) ∧ ∃ q, w'.heap[w.heap.size + 1]? = some (.cells #[.pointer q] 47 (0, 0)) ∧ Found kids name q w') w3 hn
  (by rw [hn]; exact hrow.under hb3) (fun k hk => (hm.keys k hk).under hb3) hnb
  (fun kid hkid w4 hb4 => by
   have hp2' := (hb4.block _ (blk_lt hp2)).trans hp2
   refine (clo199 w4 (p4 := w.heap.size + 1) (v := .pointer none) ((blk_cell hp2' 0).trans rfl) ((hb4.block _ (blk_lt hp4)).trans hp4)).mono ?_
   rintro e w5 ⟨rfl, vr, h1, h2, h5⟩
   have hb5 := hb3.trans (hb4.mono hb3.size)
   refine ⟨rfl, hb5.trans (h5.below hb5.size (fun k _ e => by omega)), ?_, _, h1, ?_, ?_⟩
   ·exact h5.at_ ((hb4.block _ (blk_lt hp5)).trans hp5) (by show ¬ (w.heap.size = w.heap.size + 1); omega)
   ·intro h; rw [hkid] at h; cases h
   ·intro kid' hk'; rw [hkid] at hk'; injection hk' with hk'; subst hk'
    exact ⟨vr, rfl, h2⟩)
  (fun hno w4 hb4 => ⟨hb3.trans (hb4.mono hb3.size), (hb4.block _ (blk_lt hp5)).trans hp5, none, (hb4.block _ (blk_lt hp4)).trans hp4, fun _ => rfl, fun kid h => by rw [hno] at h; cases h⟩)
 rw [hw3] at hfind
 have HF := Lib.hid hfind
 go_enter Tryz.func195, Tryz.ntmps195
 rw [hw1] at HE HMi
 clear hm hrow hn hn2 hev hnm hc hcm hnode hr hb1 hw1 hw3 hb3 hfind hp4 hp2 hp5 hnb
 go_wp2_with (first | (go_at_call 55; (with_reducible refine Calls.mono HMi.out ?_); rintro e w' ⟨rfl, rfl⟩) | (go_at_call 56; (with_reducible refine Calls.mono HE.out ?_); rintro e w' ⟨rfl, rfl⟩))
 go_region_with (first | (go_at_call 79; (with_reducible refine Calls.mono (content_some _ (HR.out.under ?b1) (HB.out.under ?b2) rfl) ?_); (case b1 => repeat (first | exact Below.refl _ _ | apply below_alloc | apply below_drew)); (case b2 => repeat (first | exact Below.refl _ _ | apply below_alloc | apply below_drew)); rintro e w' ⟨rfl, rfl⟩) | (go_at_call 78; (with_reducible refine Calls.mono (HF.out) ?_); rintro e w' ⟨rfl, hb5, h168, q, h47, hfd⟩; have hc47 := (blk_cell h47 0).trans (show (#[.pointer q] : Array Value)[0]? = some (.pointer q) from rfl); have hc168 := (blk_cell h168 5).trans (show (#[.string kd, .string name, .pointer none, .string noStr, .string noStr, .pointer none] : Array Value)[5]? = some (.pointer none) from rfl); have HB5 := Lib.hid hb5; have HFd := Lib.hid hfd; clear hb5 h168 h47 hfd))
 all_goals
  rcases q with _ | q
  ·go_wp2_with fail
   go_ret2
   exact ⟨none, rfl, HB5.out, HFd.out⟩
  ·go_wp2_with fail
   go_ret2
   exact ⟨some q, rfl, HB5.out, HFd.out⟩
set_option maxHeartbeats 400000 in
theorem get112 {name : ByteArray} (w : World) :
  Calls Tryz.prog 112 #[.string name] w fun e w' => e = .returned (.agg #[.string noStr, .string name, .pointer none, .string noStr, .string noStr, .pointer none]) ∧ Below w.heap.size w w' := by
 go_enter Tryz.func112, Tryz.ntmps112
 go_wp2
 refine bodyPost_ret (v := .agg #[.string noStr, .string name, .pointer none, .string noStr, .string noStr, .pointer none]) (by simp [results, Tryz.results112, go_sem]) rfl ⟨rfl, ?_⟩
 exact below_alloc (Below.refl _ _) _
abbrev patchKey : ByteArray := ⟨#[36, 112, 97, 116, 99, 104]⟩
set_option maxRecDepth 20000 in
set_option maxHeartbeats 1000000 in
theorem det169 {r b : Nat} {C : Value} {kids : List Kid} (w : World) (hr : RNB w r b) (hm : MapAt w b C kids) (hno : kids.find? (hasKey patchKey) = none) :
  Calls Tryz.prog 169 #[.pointer (some ⟨r, 0, none⟩)] w fun e w' => e = .returned (.tuple #[.int .i64 3, .nilIface]) ∧ Below w.heap.size w w' := by
 have HR := Lib.hid hr
 have HM := Lib.hid hm
 have HN := Lib.hid hno
 clear hr hm hno
 go_enter Tryz.func169, Tryz.ntmps169
 go_wp2_with fail
 refine (get112 _).mono ?_
 rintro e w1 ⟨rfl, hb1⟩
 have HB1 := Lib.hid hb1
 clear hb1
 go_wp2_with fail
 have hb2 : Below w.heap.size w (w1.alloc (.cells #[.iface 168 (.agg #[.string noStr, .string patchKey, .pointer none, .string noStr, .string noStr, .pointer none])] 135)) := below_alloc HB1.out _
 have hp := pipe1 (fun q w' => Below w.heap.size w w' ∧ Found kids patchKey q w') (w1.alloc (.cells #[.iface 168 (.agg #[.string noStr, .string patchKey, .pointer none, .string noStr, .string noStr, .pointer none])] 135)) (HR.out.under hb2) (HM.out.node.under hb2) rfl
  (fb := w1.heap.size) ((blk_cell (blk_new rfl _) 0).trans rfl) (meth195 _ _ _ _ _ _) enter195 ((match_key _ (HR.out.under hb2) (HM.out.under hb2) (by decide +kernel)).mono fun e w' ⟨q, he, hb, hf⟩ => ⟨q, he, hb2.trans (hb.mono hb2.size), hf⟩)
 refine hp.mono ?_
 rintro e w3 ⟨q, rfl, hb3, hf3⟩
 obtain rfl : q = none := hf3.1 HN.out
 have HB3 := Lib.hid hb3
 clear hb3 hf3 hp hb2
 go_wp2_with fail
 go_ret2
 exact ⟨rfl, HB3.out⟩
set_option maxHeartbeats 400000 in
theorem det166_map {r b : Nat} {C : Value} {kids : List Kid} (w : World) (hr : RNB w r b) (hm : MapAt w b C kids) (hno : kids.find? (hasKey patchKey) = none) :
  Calls Tryz.prog 166 #[.pointer (some ⟨r, 0, none⟩)] w fun e w' => e = .returned (.tuple #[.int .i64 3, .nilIface]) ∧ Below w.heap.size w w' := by
 have h0 := hm.node.c0
 have HC := Lib.hid (det169 w hr hm hno)
 have HY := Lib.hid (ynode_some w hr hm.node rfl)
 clear hr hm hno
 go_enter Tryz.func166, Tryz.ntmps166
 go_wp2_with (first | (go_at_call 42; (with_reducible refine Calls.mono HY.out ?_); rintro e w' ⟨rfl, rfl⟩) | (go_at_call 169; (with_reducible refine Calls.mono HC.out ?_); rintro e w' ⟨rfl, hb⟩))
 go_ret2
 exact ⟨rfl, hb⟩
set_option maxHeartbeats 400000 in
theorem det166_nil (w : World) :
  Calls Tryz.prog 166 #[.pointer none] w fun e w' => e = .returned (.tuple #[.int .i64 3, .nilIface]) ∧ w = w' := by
 go_enter Tryz.func166, Tryz.ntmps166
 go_wp2_with fail
 go_ret2
 exact ⟨rfl, rfl⟩
end Go.Proofs.YtghmajlfmoggfaaGreat
