/-
  LISTS OF MAPS THAT HAVE NAMES ARE MERGED BY THEM WHERE THIS IS INFERRED: FOR EVERY INPUT laws.FnInfer RETURNS true. No condition beyond the statement's own.
-/
import Derived.Test.YtghmajlfmoggfaaGreatRows
import Derived.Test.YtghmajlfmoggfaaGreatML2
import Derived.WalkKit
import Derived.ProofKit
import Derived.OpenShut
import Derived.ShutString
import Derived.ChangeOld
import Derived.Below
import Derived.SizedLaws
set_option linter.unusedSimpArgs false
set_option linter.unusedVariables false
namespace Go.Proofs.YtghmajlfmoggfaaGreat.fnInfer
open Go.ChangeShapes Go.WideShapes Go.ChangeAt Go.RowKit
theorem own : ownKnob Tryz.prog.godebug = none := by kernel_rfl
theorem laidOut : laidOutB Tryz.prog = true := by kernel_rfl
set_option maxRecDepth 100000 in
theorem node_of {H : Type} {enc : TypeId × Value → H} {W : World} {v : Value} {d : DataW H} {p : List MemPlace} {r : Reach} {b0 : Nat} (hv : Value.okWide Tryz.prog W r b0 25 v) (h : DataW.Trod enc Tryz.prog W 0 (fun _ => true) true 25 v d p) :
    ∃ (x : PFnMerge.S25) (A3 : Option Addr) (c3 : Nat) (A4 : Option Addr) (c4 : Nat), v = ndV x A3 c3 A4 c4 ∧ NdR W x A3 c3 A4 c4 ∧ Bnd x := by
  obtain ⟨cs, rfl, _⟩ := okWide_struct Tryz.underlying25 hv
  obtain ⟨fuel, hf⟩ := h
  obtain ⟨x, A3, c3, A4, c4, hcs, hnd, hb⟩ := open25 fuel hf
  refine ⟨x, A3, c3, A4, c4, ?_, hnd, hb⟩
  have h1 : cs.toList = [.int .i64 x.f0, .string x.f1, .string x.f2, .slice A3 x.f3.length c3, .slice A4 x.f4.length c4] := hcs
  rw [show cs = #[.int .i64 x.f0, .string x.f1, .string x.f2, .slice A3 x.f3.length c3, .slice A4 x.f4.length c4] from Array.ext' h1]
set_option maxRecDepth 100000 in
theorem lifted (os : Os) (started : os.Started) (H : Type) (enc : TypeId × Value → H) :
    ReturnsInHanded {} Tryz.checked os 3 .any (Rows.fnInferSpec.pre6 enc Tryz.prog Tryz.f3 Rows.fnInferRow.domain false) (Rows.fnInferSpec.post enc Tryz.prog Tryz.f3 false true false false) := by
  refine returnsInHanded_of_change_sized (C := Tryz.checked) own started (by kernel_rfl) Tryz.func3
    (ChangeSpec.witness6 (enc := enc) (C := Tryz.checked) false ⟨#[], #[.agg #[.int .i64 0, .string ByteArray.empty, .string ByteArray.empty, .slice none 0 0, .slice none 0 0], .agg #[.int .i64 0, .string ByteArray.empty, .string ByteArray.empty, .slice none 0 0, .slice none 0 0]], []⟩ 8 (by kernel_rfl) (by kernel_rfl) (by kernel_rfl) (by kernel_rfl)) ?_
  intro W base args ds gs before hval0 hW hcnd hsz0 _
  have hval : ∀ (j : Nat) t v, Tryz.f3.params[j]? = some t → args[j]? = some v → Value.okWide Tryz.prog W .any base t v := hval0
  have hW' := hW
  obtain ⟨p, q, hA0, hV, rfl, hfz, hnd⟩ := hW
  have hA : DataW.TrodAll enc Tryz.prog W 0 (fun _ => true) true Tryz.f3.params.toList args.toList ds p := hA0
  rw [Tryz.params3] at hA hval
  obtain ⟨v0, vs0, d0, ds0, p0, q0, hargs, rfl, rfl, h0, r0⟩ := trodAll_cons hA
  obtain ⟨v1, vs1, d1, ds1, p1, q1, rfl, rfl, rfl, h1, r1⟩ := trodAll_cons r0
  obtain ⟨rfl, rfl, rfl⟩ := trodAll_nil r1
  obtain rfl : args = #[v0, v1] := by cases args; simp_all
  obtain ⟨rfl, rfl⟩ := trodVars_none hV
  have lt0 : ∀ x ∈ p0, x.block < W.heap.size := by obtain ⟨m, hm⟩ := h0; exact DataW.trod_lt m _ _ _ hm
  have lt1 : ∀ x ∈ p1, x.block < W.heap.size := by obtain ⟨m, hm⟩ := h1; exact DataW.trod_lt m _ _ _ hm
  obtain ⟨x, A3, c3, A4, c4, rfl, hx, hbx⟩ := node_of (hval 0 25 v0 rfl rfl) h0
  obtain ⟨y, B3, e3, B4, e4, rfl, hy, hby⟩ := node_of (hval 1 25 v1 rfl rfl) h1
  clear hA0 hval0 hsz0
  refine (fnInfer3 W x y hbx hby A3 A4 B3 B4 c3 c4 e3 e4 hx hy).mono fun e W' ⟨he, bel⟩ => ?_
  subst he
  exact ⟨_, rfl, _, _, _, [], _, [], hW', trodAll_mk1 (shut_bool Tryz.underlying4 _), (trodAll_cons_mk (Below.trod laidOut (by kernel_rfl) (of_decide_eq_true (by kernel_rfl)) h0 bel lt0) (trodAll_cons_mk (Below.trod laidOut (by kernel_rfl) (of_decide_eq_true (by kernel_rfl)) h1 bel lt1) trodAll_mk0)), rfl, bel.frame _, fun h => by cases h⟩
theorem over : Rows.fnInferRow.holds Tryz.pinned (OpenSpec.ofChange Rows.fnInferSpec) :=
  OpenClaim.holds_of_wide 3 Tryz.f3 rfl rfl rfl rfl rfl rfl rfl ⟨rfl, rfl, rfl, rfl, rfl⟩ rfl rfl rfl rfl rfl (by kernel_rfl) Tryz.func3 (by kernel_rfl)
    (of_decide_eq_true (by kernel_rfl)) (by unfold Func.isWrapper; first | (rw [if_pos (by decide +kernel)]; kernel_rfl) | (rw [if_neg (by decide +kernel)]; exact ⟨rfl, rfl⟩))
    (fun os started H enc _ => lifted os started H enc)
theorem proved : Rows.FnInferSaid := over
#print axioms proved
end Go.Proofs.YtghmajlfmoggfaaGreat.fnInfer
namespace Go.Proofs.YtghmajlfmoggfaaGreat
/-- The row, under a short name, for the claim. -/
theorem fnInfer_holds : Rows.FnInferSaid := fnInfer.proved
end Go.Proofs.YtghmajlfmoggfaaGreat
