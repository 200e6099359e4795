import Derived.Test.YtghmajlfmoggfaaGreatMS7
import Derived.Test.YtghmajlfmoggfaaGreatMS5
set_option linter.unusedSimpArgs false
set_option linter.unusedVariables false
namespace Go.Proofs.YtghmajlfmoggfaaGreat
open Go.RowKit Go.Proofs.YtghmajlfmoggfaaGreatW.PrintWords Go.Proofs.YtghmajlfmoggfaaGreatW.PrintLast PFnMerge
theorem fld_mk {x : S25} {i : Nat} {key : ByteArray} {v : S25} (h1 : x.f3[i]? = some key) (h2 : x.f4[i]? = some v) : fld x key v := by
 unfold fld
 exact List.mem_of_getElem? (i := i) (List.getElem?_zip_eq_some.2 ⟨h1, h2⟩)
theorem idx_lt {α : Type} {l : List α} {i : Nat} {a : α} (h : l[i]? = some a) : i < l.length := (List.getElem?_eq_some_iff.1 h).1
theorem mem_take_succ {l : List ByteArray} {j : Nat} {key k : ByteArray} (h : l[j]? = some key) : k ∈ l.take (j + 1) ↔ k ∈ l.take j ∨ k = key := by
 rw [take_succ h, List.mem_append, List.mem_singleton]
theorem TreeP.not_null : ∀ {d : Nat} {x : S25}, TreeP d x → (x.f2.toList == [33, 33, 110, 117, 108, 108]) = false
 | 0, _, h => h.elim
 | d + 1, x, h => by
  rcases h with ⟨_, _, _, h⟩ | ⟨_, _, h, _⟩ | ⟨_, _, h, _⟩
  ·exact h.tag_ne.1
  ·rw [h, ByteArray.toList_eq]; rfl
  ·rw [h, ByteArray.toList_eq]; rfl
end Go.Proofs.YtghmajlfmoggfaaGreat
