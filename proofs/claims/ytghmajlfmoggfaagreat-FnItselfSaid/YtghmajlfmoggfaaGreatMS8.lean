import Derived.Test.YtghmajlfmoggfaaGreatMS7
import Derived.Test.YtghmajlfmoggfaaGreatMS5
set_option linter.unusedSimpArgs false
set_option linter.unusedVariables false
namespace Go.Proofs.YtghmajlfmoggfaaGreat
open Go.RowKit Go.Proofs.YtghmajlfmoggfaaGreatW.PrintWords Go.Proofs.YtghmajlfmoggfaaGreatW.PrintLast PFnMerge
theorem fld_mk {x : S25} {i : Nat} {key : ByteArray} {v : S25} (h1 : x.f3[i]? = some key) (h2 : x.f4[i]? = some v) : fld x key v := by
  unfold fld
  exact List.mem_of_getElem? (i := i) (List.getElem?_zip_eq_some.2 ⟨h1, h2⟩)
theorem idx_lt {α : Type} {l : List α} {i : Nat} {a : α} (h : l[i]? = some a) : i < l.length := (List.getElem?_eq_some_iff.1 h).1
end Go.Proofs.YtghmajlfmoggfaaGreat
