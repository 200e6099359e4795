import Derived.Test.YtghmajlfmoggfaaGreatMS4
set_option linter.unusedSimpArgs false
set_option linter.unusedVariables false
namespace Go.Proofs.YtghmajlfmoggfaaGreat
open Go.RowKit Go.Proofs.YtghmajlfmoggfaaGreatW.PrintWords Go.Proofs.YtghmajlfmoggfaaGreatW.PrintLast PFnMerge
section
variable {w W W' w1 : World} {PP : Nat → Prop} {bx bv br cs : Array Value} {o3 : Option (Value × List ByteArray)} {o4 : Option (Value × List S25)} {og : Option (Nat × Array Value)} {v v1 : Value} {l3 l3' : List ByteArray} {l4 l4' : List S25} {g : Nat}
theorem keep_put5 (W : World) (g : Nat) (v0 v1 v2 v3 v4 : Value) : Keep (fun k => k = g) W (put5 W g v0 v1 v2 v3 v4) :=
  (((((Keep.refl (fun k => k = g) W).setCell ⟨g, 0, none⟩ v0 fun _ => rfl).setCell ⟨g, 1, none⟩ v1 fun _ => rfl).setCell ⟨g, 2, none⟩ v2 fun _ => rfl).setCell ⟨g, 3, none⟩ v3 fun _ => rfl).setCell ⟨g, 4, none⟩ v4 fun _ => rfl
end
end Go.Proofs.YtghmajlfmoggfaaGreat
