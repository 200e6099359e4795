import Derived.Defers
import Derived.Recover
import Derived.Test.YtghmajlfmoggfaaGreatMG3
set_option linter.unusedSimpArgs false
set_option linter.unusedVariables false
namespace Go.Proofs.YtghmajlfmoggfaaGreat
open Go.RowKit Go.Proofs.YtghmajlfmoggfaaGreatW.PrintWords Go.Proofs.YtghmajlfmoggfaaGreatW.PrintLast PFnMerge
theorem catch37 (p : Addr) (w : World) : CallsD Tryz.prog 37 #[.pointer (some p)] .returning w fun e u' w' => e = .returned (.tuple #[]) ∧ u' = .returning ∧ w' = w := by
  refine callsD_of_wpS Tryz.func37 rfl fun c₀ cs hu => ?_
  apply wpS_seq
  apply wpS_region
  simp [wpOpsS, go_sem, recoverD, hu, Tryz.ntmps37, Exit.thenS]
  refine wpS_cond (t := false) (by simp [Act.eval, Array.replicate]) ?_
  simp only [Bool.false_eq_true, if_false]
  refine wpS_of_wp (wp_skip ?_)
  cases c₀
  simp_all [bodyPostS, results, Tryz.results37]
set_option maxRecDepth 20000 in
set_option maxHeartbeats 4000000 in
theorem tried27 (w : World) (cap : Array Value) (R : World → Prop) (hf : Calls Tryz.prog 28 cap (w.alloc (.cells #[.bool false] 4)) fun e w' => e = .returned (.bool true) ∧ R w') (hk : ∀ w', R w' → w'.heap[w.heap.size]? = some (.cells #[.bool false] 4 (0, 0))) :
    Calls Tryz.prog 27 #[.func (.func 28) #[] cap] w fun e w' => e = .returned (.bool true) ∧ ∃ w1, R w1 ∧ w' = w1.setCell ⟨w.heap.size, 0, none⟩ (.bool true) := by
  have hmf : ∀ (fn : Fn) (first cap : Array Value) (w : World), (Instr.makeFunc fn first cap).run Tryz.prog w = .ok (.func fn first cap) w := fun _ _ _ _ => rfl
  have H := Lib.hid (And.intro hf hk)
  clear hf hk
  go_enter_defers Tryz.func27, Tryz.ntmps27
  go_wp2_with fail
  refine H.out.1.mono ?_
  rintro e w' ⟨rfl, hr⟩
  have HR := Lib.hid hr
  have c0 : w'.cell? ⟨w.heap.size, 0, none⟩ = some (.bool false) := (blk_cell (H.out.2 w' hr) 0).trans rfl
  have z0 : w'.frozen? ⟨w.heap.size, 0, none⟩ = false := blk_frozen (H.out.2 w' hr) 0
  clear hr
  go_wp2_with fail
  refine leaves_cons (f := 37) (args := #[.pointer (some ⟨w.heap.size, 0, none⟩)]) (by simp) (by simp [go_sem]) ?_
  refine (catch37 _ _).mono ?_
  rintro e u' w'' ⟨rfl, rfl, rfl⟩
  have c1 : (w'.setCell ⟨w.heap.size, 0, none⟩ (.bool true)).cell? ⟨w.heap.size, 0, none⟩ = some (.bool true) := (blk_cell (blk_set (H.out.2 w' HR.out) 0 (.bool true)) 0).trans rfl
  refine ⟨.bool true, by simp [results, Tryz.results27, go_sem, c1], rfl, w', HR.out, rfl⟩
end Go.Proofs.YtghmajlfmoggfaaGreat
namespace Go.Proofs.YtghmajlfmoggfaaGreat
open Go.RowKit Go.Proofs.YtghmajlfmoggfaaGreatW.PrintWords Go.Proofs.YtghmajlfmoggfaaGreatW.PrintLast PFnMerge
def RightC (x : S25) : Prop := ∀ (w : World) (A3 A4 : Option Addr) (c3 c4 : Nat), NdR w x A3 c3 A4 c4 → Calls Tryz.prog 36 #[ndV x A3 c3 A4 c4] w fun e w' => YesQ w e w'
structure TakC (d : Nat) (x : S25) : Prop where
  ne : (x.f0 == 0) = false
  wf : WfN d x
  right : RightC x
theorem TreeB.tak {x : S25} (h : TreeB 6 x) : TakC 6 x := ⟨h.1.kind_ne, h.tree.wf, fun w A3 A4 c3 c4 hr => right36 w x h A3 A4 c3 c4 hr⟩
set_option maxRecDepth 20000 in
set_option maxHeartbeats 4000000 in
theorem taken26q (w : World) (x : S25) {d : Nat} (hx : TakC d x) (A3 A4 : Option Addr) (c3 c4 : Nat) (h : NdR w x A3 c3 A4 c4) : Calls Tryz.prog 26 #[ndV x A3 c3 A4 c4] w fun e w' => YesQ w e w' := by
  have hb1 := below_alloc (Below.refl w.heap.size w) (.cells #[.int .i64 x.f0, .string x.f1, .string x.f2, .slice A3 x.f3.length c3, .slice A4 x.f4.length c4] 25)
  have HB := Lib.hid hb1
  have H := Lib.hid (And.intro h hx)
  have hkk := hx.ne
  clear hb1 h hx
  go_enter Tryz.func26, Tryz.ntmps26
  go_wp2_with fail
  refine (H.out.2.right _ A3 A4 c3 c4 (H.out.1.below HB.out)).mono ?_
  rintro e w' ⟨rfl, hb⟩
  have HB2 := Lib.hid hb
  clear hb
  go_wp2_with fail
  exact bodyPost_ret (v := .bool true) (by simp [results, Tryz.results26, go_sem]) rfl ⟨rfl, HB.out.trans (HB2.out.mono HB.out.size)⟩
set_option maxRecDepth 20000 in
set_option maxHeartbeats 4000000 in
theorem rnodeOf30q (w : World) (d : Nat) (x : S25) (hx : (x.f0 == 0) = false) (hwf : WfN d x) (A3 A4 : Option Addr) (c3 c4 : Nat) (h : NdR w x A3 c3 A4 c4) : Calls Tryz.prog 30 #[ndV x A3 c3 A4 c4] w fun e w' => RnQ x w e w' := by
  have hb1 := below_alloc (Below.refl w.heap.size w) (.cells #[.int .i64 x.f0, .string x.f1, .string x.f2, .slice A3 x.f3.length c3, .slice A4 x.f4.length c4] 25)
  have HB := Lib.hid hb1
  have H := Lib.hid (And.intro h hwf)
  have hkk := hx
  clear hb1 h hx hwf
  go_enter Tryz.func30, Tryz.ntmps30
  go_wp2_with fail
  refine (treeOf40 d x H.out.2 _ A3 A4 c3 c4 (Kd.C_below H.out.1.keys HB.out) H.out.1.kcap (Kd.C_below H.out.1.items HB.out) H.out.1.icap).mono ?_
  rintro e w' ⟨b, rfl, hrp, hb⟩
  have HR := Lib.hid (And.intro hrp hb)
  clear hrp hb
  go_wp2_with fail
  refine (newRNode w' (b := b)).mono ?_
  rintro e w'' ⟨rfl, rfl⟩
  go_wp2_with fail
  refine bodyPost_ret (v := .pointer (some ⟨w'.heap.size, 0, none⟩)) (by simp [results, Tryz.results30, go_sem]) rfl ⟨_, b, rfl, blk_new rfl _, ?_, ?_⟩
  · exact (HR.out.1.under (below_alloc (Below.refl _ _) _)).mono fun k hk => by have := HB.out.size; simp at hk this; omega
  · exact below_alloc (HB.out.trans (HR.out.2.mono HB.out.size)) _
end Go.Proofs.YtghmajlfmoggfaaGreat
namespace Go.Proofs.YtghmajlfmoggfaaGreat
open Go.RowKit Go.Proofs.YtghmajlfmoggfaaGreatW.PrintWords Go.Proofs.YtghmajlfmoggfaaGreatW.PrintLast PFnMerge
def MeR (R : S25 → Prop) (bo : Nat) (w : World) (e : Ending) (w' : World) : Prop := e = .returned (.bool true) ∧ ∃ ym A3 c3 A4 c4, R ym ∧ w'.heap[bo]? = some (.cells #[.int .i64 ym.f0, .string ym.f1, .string ym.f2, .slice A3 ym.f3.length c3, .slice A4 ym.f4.length c4] 25 (0, 0)) ∧ NdG w' (fun k => w.heap.size ≤ k) ym A3 c3 A4 c4 ∧ Keep (fun k => k = bo) w w'
end Go.Proofs.YtghmajlfmoggfaaGreat
namespace Go.Proofs.YtghmajlfmoggfaaGreat
open Go.RowKit Go.Proofs.YtghmajlfmoggfaaGreatW.PrintWords Go.Proofs.YtghmajlfmoggfaaGreatW.PrintLast PFnMerge
def M2R (R : S25 → Prop) (w : World) (e : Ending) (w' : World) : Prop := ∃ ym A3 c3 A4 c4, e = .returned (.tuple #[ndV ym A3 c3 A4 c4, .bool true]) ∧ R ym ∧ NdR w' ym A3 c3 A4 c4 ∧ Below w.heap.size w w'
structure MBq (w : World) (cx cy : Array Value) (infer ahead : Bool) (W : World) : Prop where
  below : Below w.heap.size w W
  bx : W.heap[w.heap.size]? = some (.cells cx 25 (0, 0))
  by_ : W.heap[w.heap.size + 1]? = some (.cells cy 25 (0, 0))
  bi : W.heap[w.heap.size + 1 + 1]? = some (.cells #[.bool infer] 4 (0, 0))
  ba : W.heap[w.heap.size + 1 + 1 + 1]? = some (.cells #[.bool ahead] 4 (0, 0))
  br : W.heap[w.heap.size + 1 + 1 + 1 + 1]? = some (.cells #[.int .i64 0, .string noStr, .string noStr, nilS, nilS] 25 (0, 0))
  bo : W.heap[w.heap.size + 1 + 1 + 1 + 1 + 1]? = some (.cells #[.int .i64 0, .string noStr, .string noStr, nilS, nilS] 25 (0, 0))
theorem MBq.under {w : World} {cx cy : Array Value} {infer ahead : Bool} {W W' : World} (h : MBq w cx cy infer ahead W) (hb : Below W.heap.size W W') : MBq w cx cy infer ahead W' :=
  ⟨h.below.trans (hb.mono h.below.size), (hb.block _ (lt_of_block h.bx)).trans h.bx, (hb.block _ (lt_of_block h.by_)).trans h.by_, (hb.block _ (lt_of_block h.bi)).trans h.bi, (hb.block _ (lt_of_block h.ba)).trans h.ba, (hb.block _ (lt_of_block h.br)).trans h.br, (hb.block _ (lt_of_block h.bo)).trans h.bo⟩
end Go.Proofs.YtghmajlfmoggfaaGreat
