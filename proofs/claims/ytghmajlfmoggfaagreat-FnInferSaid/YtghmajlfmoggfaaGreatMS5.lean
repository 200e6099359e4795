import Derived.Test.YtghmajlfmoggfaaGreatMS4
import Derived.Test.YtghmajlfmoggfaaGreatMG2
set_option linter.unusedSimpArgs false
set_option linter.unusedVariables false
namespace Go.Proofs.YtghmajlfmoggfaaGreat
open Go.RowKit Go.Proofs.YtghmajlfmoggfaaGreatW.PrintWords Go.Proofs.YtghmajlfmoggfaaGreatW.PrintLast PFnMerge
theorem sum_le_of_mem {α : Type} (f : α → Nat) {l : List α} {z : α} (h : z ∈ l) : f z ≤ (l.map f).sum := by
 induction l with
 | nil => cases h
 | cons a l ih =>
  rw [List.map_cons, List.sum_cons]
  rcases List.mem_cons.1 h with h | h
  ·rw [h]; omega
  ·have := ih h; omega
theorem len_le_sum {α : Type} (f : α → Nat) {l : List α} (h : ∀ z ∈ l, 1 ≤ f z) : l.length ≤ (l.map f).sum := by
 induction l with
 | nil => simp
 | cons a l ih =>
  rw [List.map_cons, List.sum_cons, List.length_cons]
  have h1 := h a (by simp)
  have h2 := ih fun z hz => h z (by simp [hz])
  omega
theorem TreeP.pos : ∀ {d : Nat} {x : S25}, TreeP d x → 1 ≤ nodesN d x
 | 0, _, h => h.elim
 | d + 1, x, _ => by rw [nodesN]; omega
def TreeB (d : Nat) (x : S25) : Prop := TreeP d x ∧ nodesN d x ≤ 60
theorem TreeB.item {d : Nat} {x : S25} (h : TreeB (d + 1) x) : ∀ z ∈ x.f4, TreeB d z := fun z hz => by
 refine ⟨h.1.item z hz, ?_⟩
 have h1 := sum_le_of_mem (nodesN d) hz
 have h2 := h.2
 rw [nodesN] at h2
 omega
theorem TreeB.len : ∀ {d : Nat} {x : S25}, TreeB d x → x.f4.length ≤ 60
 | 0, _, h => h.1.elim
 | d + 1, x, h => by
  have h1 := len_le_sum (nodesN d) fun z hz => (h.1.item z hz).pos
  have h2 := h.2
  rw [nodesN] at h2
  omega
theorem fld_at' {x : S25} {key : ByteArray} {v : S25} (h : fld x key v) : ∃ i : Nat, x.f3[i]? = some key ∧ x.f4[i]? = some v := by
 obtain ⟨i, hi⟩ := List.getElem?_of_mem h
 exact ⟨i, List.getElem?_zip_eq_some.1 hi⟩
structure AK (w : World) (cs ds : Array Value) (wr : World) : Prop where
 below : Below w.heap.size w wr
 boxa : wr.heap[w.heap.size]? = some (.cells cs 25 (0, 0))
 boxb : wr.heap[w.heap.size + 1]? = some (.cells ds 25 (0, 0))
theorem AK.under {w : World} {cs ds : Array Value} {wr wr' : World} (h : AK w cs ds wr) (hb : Below wr.heap.size wr wr') : AK w cs ds wr' :=
 ⟨h.below.trans (hb.mono h.below.size), (hb.block _ (lt_of_block h.boxa)).trans h.boxa, (hb.block _ (lt_of_block h.boxb)).trans h.boxb⟩
end Go.Proofs.YtghmajlfmoggfaaGreat
