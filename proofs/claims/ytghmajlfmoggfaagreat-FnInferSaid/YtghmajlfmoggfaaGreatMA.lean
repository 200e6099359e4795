import Derived.WalkSpells
import Derived.WalkLawsBesides
import Derived.Lib.Hide
import Derived.Test.YtghmajlfmoggfaaGreatMX0
set_option linter.unusedSimpArgs false
set_option linter.unusedVariables false
namespace Go.Proofs.YtghmajlfmoggfaaGreat
open Go.RowKit Go.Proofs.YtghmajlfmoggfaaGreatW.PrintWords Go.Proofs.YtghmajlfmoggfaaGreatW.PrintLast
/-- Which operations of a region are done: the bits of a number. -/
def bl (n k : Nat) : Array Bool := (Array.range n).map fun i => k.testBit i
theorem np : (∀ (a : Act) (v : Value), a.put none v = a) ∧ (∀ (t : Array Value) (ds : List Deferred) (d : Tmp) (v : Value), Act.put { tmps := t, defers := ds } (some d) v = { tmps := t.setIfInBounds d v, defers := ds }) ∧ (∀ (l : List Value) (i : Nat) (a : Value), l.toArray.setIfInBounds i a = (l.set i a).toArray) ∧ (∀ (a b : Value) (l : List Value), (a :: l).set 0 b = b :: l) ∧ (∀ (a b : Value) (l : List Value) (n : Nat), (a :: l).set (n + 1) b = a :: l.set n b) ∧ (∀ x : Int, IntKind.i64.wrap x = wrap64 x) ∧ (∀ x : Int, IntKind.i32.wrap x = wrap32 x) := ⟨fun _ _ => rfl, fun _ _ _ _ => rfl, fun _ _ _ => by simp, fun _ _ _ => rfl, fun _ _ _ _ => rfl, i64_w, i32_w⟩
section
open Go.RowKit Go.Proofs.YtghmajlfmoggfaaGreatW.PrintWords Go.Proofs.YtghmajlfmoggfaaGreatW.PrintLast
variable {P : Program} {ops : Array Oper} {Q : Exit → Act → World → Prop} {md : Region.Mode} {S : World → Prop} {ds : List Nat} {oi : Oper} {v : Value} {fuel : Nat} {l : Array Bool} {a a' : Act} {w : World}
theorem pu (i : Nat) (N : Option Tmp) (l' : Array Bool) (h : wpAnyLast P md ops Q S ds fuel l' a' w) (hi : ops[i]? = some oi := by rfl) (hN : oi.dst = N := by rfl) (hc : anyB md ops l l' i = true := by kernel_rfl)
    (hQ : ∀ c a w, Q (.panic c) (a.put oi.dst v) w → Q (.panic c) a w := by exact fun _ _ _ h => h) (hy : Yields P ops oi v a := by (refine Or.inl ⟨by rfl, ?_⟩; intro w'; go_simp; with_reducible rfl)) (ha : a.put N v = a' := by first | (simp only [np]; rfl) | rfl) :
    wpAnyLast P md ops Q S ds (fuel + 1) l a w := pure_ l' hi hN hc hQ hy ha h
theorem pd (i : Nat) (N : Option Tmp) (l' : Array Bool) (h : wpAnyLast P md ops Q S ds fuel l' a' w) (hi : ops[i]? = some oi := by rfl) (hN : oi.dst = N := by rfl) (hc : anyB md ops l l' i = true := by kernel_rfl)
    (hQ : ∀ c a w, Q (.panic c) (a.put oi.dst undef) w → Q (.panic c) a w := by exact fun _ _ _ h => h) (hy : Yields P ops oi undef a := by exact Or.inr ⟨by rfl, rfl⟩) (ha : a.put N undef = a' := by first | (simp only [np]; rfl) | rfl) :
    wpAnyLast P md ops Q S ds (fuel + 1) l a w := pure_ l' hi hN hc hQ hy ha h
theorem tk (i : Nat) (N : Option Tmp) (l' : Array Bool) (hS : S w) (h : wpAnyLast P md ops Q S ds fuel l' a' w) (hi : ops[i]? = some oi := by rfl) (hN : oi.dst = N := by rfl) (hc : takeB md ops ds l l' i = true := by kernel_rfl)
    (hQ : ∀ c a w, Q (.panic c) (a.put oi.dst v) w → Q (.panic c) a w := by exact fun _ _ _ h => h) (hy : YieldsIf P ops S oi v a := by (refine Or.inl ⟨by rfl, ?_⟩; intro w' hS'; repeat (have hA' := And.left hS'; replace hS' := And.right hS'); go_simp; with_reducible rfl)) (ha : a.put N v = a' := by first | (simp only [np]; rfl) | rfl) :
    wpAnyLast P md ops Q S ds (fuel + 1) l a w := take_ l' hi hN hc hQ hy hS ha h
theorem tk1 (i : Nat) (N : Option Tmp) (l' : Array Bool) (hS : S w) (h : wpAnyLast P md ops Q S ds fuel l' a' w) (hi : ops[i]? = some oi := by rfl) (hN : oi.dst = N := by rfl) (hc : takeB md ops ds l l' i = true := by kernel_rfl)
    (hQ : ∀ c a w, Q (.panic c) (a.put oi.dst v) w → Q (.panic c) a w := by exact fun _ _ _ h => h) (hy : YieldsIf P ops S oi v a := by (refine Or.inl ⟨by rfl, ?_⟩; intro w' hS'; go_simp; with_reducible rfl)) (ha : a.put N v = a' := by first | (simp only [np]; rfl) | rfl) :
    wpAnyLast P md ops Q S ds (fuel + 1) l a w := take_ l' hi hN hc hQ hy hS ha h
theorem nr (N : Option Tmp) (h : wpAnyLast P md ops Q S ds fuel l a' w) (ha : a.put N v = a' := by first | (simp only [np]; rfl) | rfl) : wpAnyLast P md ops Q S ds fuel l (a.put N v) w := norm_ ha h
theorem on_ (i : Nat) (N : Option Tmp) (l' : Array Bool)
    (h : ∀ K : Act → World → Prop, Shut (∀ a' w', S w' → (S w' → wpAnyLast P md ops Q S ds fuel l' a' w') → K a' w') → if Region.wanted oi (yielded ops a.tmps) = true then Oper.wp P oi a w K Q else K (a.put N undef) w)
    (hi : ops[i]? = some oi := by rfl) (hN : oi.dst = N := by rfl) (hc : readyB md ops l l' i = true := by kernel_rfl) (hd : i ∉ ds := by decide) : wpAnyLast P md ops Q S ds (fuel + 1) l a w := one_ l' hi hN hc hd h
theorem ls_ (i : Nat) (N : Option Tmp) (l' : Array Bool)
    (h : ∀ K : Act → World → Prop, Shut (∀ a' w', wpAnyLast P md ops Q S ds fuel l' a' w' → K a' w') → if Region.wanted oi (yielded ops a.tmps) = true then Oper.wp P oi a w K Q else K (a.put N undef) w)
    (hi : ops[i]? = some oi := by rfl) (hN : oi.dst = N := by rfl) (hc : readyB md ops l l' i = true := by kernel_rfl) (hd : i ∈ ds := by decide) : wpAnyLast P md ops Q S ds (fuel + 1) l a w := last_ l' hi hN hc hd h
theorem gs_ {N : Option Tmp} {K : Act → World → Prop} {f : FuncId} {fn : Func} {bs : Array Operand} {ts : Array TypeId} (hf : P.funcs[f]? = some fn) (args : Array Value) (h : Calls P f args w fun e w' => ∃ v, e = .returned v ∧ K (a.put N v) w')
    (hname : (fn.name == "runtime.NumGoroutine") = false := by kernel_rfl) (hb : fn.body.isSome = true := by rfl) (hw : Region.wanted oi (yielded ops a.tmps) = true := by rfl) (hN : oi.dst = N := by rfl) (hop : oi.op = .call { callee := .value (.func f), args := bs, argTypes := ts } := by rfl) (hargs : bs.map a.eval = args := by (simp only [List.map_toArray, List.map_cons, List.map_nil]; rfl)) :
    if Region.wanted oi (yielded ops a.tmps) = true then Oper.wp P oi a w K Q else K (a.put N undef) w := goes_ hf hname hb args hw hN hop hargs h
end
theorem cl5 {W : World} {b : Nat} {t : TypeId} {a0 a1 a2 a3 a4 : Value} (h : W.heap[b]? = some (.cells #[a0, a1, a2, a3, a4] t (0, 0))) : W.cell? ⟨b, 0, none⟩ = some a0 ∧ W.cell? ⟨b, 1, none⟩ = some a1 ∧ W.cell? ⟨b, 2, none⟩ = some a2 ∧ W.cell? ⟨b, 3, none⟩ = some a3 ∧ W.cell? ⟨b, 4, none⟩ = some a4 := ⟨(Go.Proofs.YtghmajlfmoggfaaGreatW.PrintWords.blk_cell h 0).trans rfl, (Go.Proofs.YtghmajlfmoggfaaGreatW.PrintWords.blk_cell h 1).trans rfl, (Go.Proofs.YtghmajlfmoggfaaGreatW.PrintWords.blk_cell h 2).trans rfl, (Go.Proofs.YtghmajlfmoggfaaGreatW.PrintWords.blk_cell h 3).trans rfl, (Go.Proofs.YtghmajlfmoggfaaGreatW.PrintWords.blk_cell h 4).trans rfl⟩
theorem fz5 {W : World} {b : Nat} {t : TypeId} {cs : Array Value} (h : W.heap[b]? = some (.cells cs t (0, 0))) : W.frozen? ⟨b, 0, none⟩ = false ∧ W.frozen? ⟨b, 1, none⟩ = false ∧ W.frozen? ⟨b, 2, none⟩ = false ∧ W.frozen? ⟨b, 3, none⟩ = false ∧ W.frozen? ⟨b, 4, none⟩ = false := ⟨Go.Proofs.YtghmajlfmoggfaaGreatW.PrintWords.blk_frozen h 0, Go.Proofs.YtghmajlfmoggfaaGreatW.PrintWords.blk_frozen h 1, Go.Proofs.YtghmajlfmoggfaaGreatW.PrintWords.blk_frozen h 2, Go.Proofs.YtghmajlfmoggfaaGreatW.PrintWords.blk_frozen h 3, Go.Proofs.YtghmajlfmoggfaaGreatW.PrintWords.blk_frozen h 4⟩
theorem he1 {w w' : World} (hb : Below w.heap.size w w') {a : Addr} {v : Value} (h : w.cell? a = some v) : w'.cell? a = some v := (hb.cell (World.block_lt_of_cell? _ _ h)).trans h
theorem he3 {w w' : World} (hb : Below w.heap.size w w') {a0 a1 a2 : Addr} {v0 v1 v2 : Value} (h : w.cell? a0 = some v0 ∧ w.cell? a1 = some v1 ∧ w.cell? a2 = some v2) : w'.cell? a0 = some v0 ∧ w'.cell? a1 = some v1 ∧ w'.cell? a2 = some v2 := ⟨he1 hb h.1, he1 hb h.2.1, he1 hb h.2.2⟩
theorem he4 {w w' : World} (hb : Below w.heap.size w w') {a0 a1 a2 a3 : Addr} {v0 v1 v2 v3 : Value} (h : w.cell? a0 = some v0 ∧ w.cell? a1 = some v1 ∧ w.cell? a2 = some v2 ∧ w.cell? a3 = some v3) : w'.cell? a0 = some v0 ∧ w'.cell? a1 = some v1 ∧ w'.cell? a2 = some v2 ∧ w'.cell? a3 = some v3 := ⟨he1 hb h.1, he1 hb h.2.1, he1 hb h.2.2.1, he1 hb h.2.2.2⟩
theorem he6 {w w' : World} (hb : Below w.heap.size w w') {a0 a1 a2 a3 a4 a5 : Addr} {v0 v1 v2 v3 v4 v5 : Value} (h : w.cell? a0 = some v0 ∧ w.cell? a1 = some v1 ∧ w.cell? a2 = some v2 ∧ w.cell? a3 = some v3 ∧ w.cell? a4 = some v4 ∧ w.cell? a5 = some v5) : w'.cell? a0 = some v0 ∧ w'.cell? a1 = some v1 ∧ w'.cell? a2 = some v2 ∧ w'.cell? a3 = some v3 ∧ w'.cell? a4 = some v4 ∧ w'.cell? a5 = some v5 := ⟨he1 hb h.1, he1 hb h.2.1, he1 hb h.2.2.1, he1 hb h.2.2.2.1, he1 hb h.2.2.2.2.1, he1 hb h.2.2.2.2.2⟩
theorem he7 {w w' : World} (hb : Below w.heap.size w w') {a0 a1 a2 a3 a4 a5 a6 : Addr} {v0 v1 v2 v3 v4 v5 v6 : Value} (h : w.cell? a0 = some v0 ∧ w.cell? a1 = some v1 ∧ w.cell? a2 = some v2 ∧ w.cell? a3 = some v3 ∧ w.cell? a4 = some v4 ∧ w.cell? a5 = some v5 ∧ w.cell? a6 = some v6) : w'.cell? a0 = some v0 ∧ w'.cell? a1 = some v1 ∧ w'.cell? a2 = some v2 ∧ w'.cell? a3 = some v3 ∧ w'.cell? a4 = some v4 ∧ w'.cell? a5 = some v5 ∧ w'.cell? a6 = some v6 := ⟨he1 hb h.1, he1 hb h.2.1, he1 hb h.2.2.1, he1 hb h.2.2.2.1, he1 hb h.2.2.2.2.1, he1 hb h.2.2.2.2.2.1, he1 hb h.2.2.2.2.2.2⟩
theorem he10 {w w' : World} (hb : Below w.heap.size w w') {a0 a1 a2 a3 a4 a5 a6 a7 a8 a9 : Addr} {v0 v1 v2 v3 v4 v5 v6 v7 v8 v9 : Value} (h : w.cell? a0 = some v0 ∧ w.cell? a1 = some v1 ∧ w.cell? a2 = some v2 ∧ w.cell? a3 = some v3 ∧ w.cell? a4 = some v4 ∧ w.cell? a5 = some v5 ∧ w.cell? a6 = some v6 ∧ w.cell? a7 = some v7 ∧ w.cell? a8 = some v8 ∧ w.cell? a9 = some v9) : w'.cell? a0 = some v0 ∧ w'.cell? a1 = some v1 ∧ w'.cell? a2 = some v2 ∧ w'.cell? a3 = some v3 ∧ w'.cell? a4 = some v4 ∧ w'.cell? a5 = some v5 ∧ w'.cell? a6 = some v6 ∧ w'.cell? a7 = some v7 ∧ w'.cell? a8 = some v8 ∧ w'.cell? a9 = some v9 := ⟨he1 hb h.1, he1 hb h.2.1, he1 hb h.2.2.1, he1 hb h.2.2.2.1, he1 hb h.2.2.2.2.1, he1 hb h.2.2.2.2.2.1, he1 hb h.2.2.2.2.2.2.1, he1 hb h.2.2.2.2.2.2.2.1, he1 hb h.2.2.2.2.2.2.2.2.1, he1 hb h.2.2.2.2.2.2.2.2.2⟩
theorem he11 {w w' : World} (hb : Below w.heap.size w w') {a0 a1 a2 a3 a4 a5 a6 a7 a8 a9 a10 : Addr} {v0 v1 v2 v3 v4 v5 v6 v7 v8 v9 v10 : Value} (h : w.cell? a0 = some v0 ∧ w.cell? a1 = some v1 ∧ w.cell? a2 = some v2 ∧ w.cell? a3 = some v3 ∧ w.cell? a4 = some v4 ∧ w.cell? a5 = some v5 ∧ w.cell? a6 = some v6 ∧ w.cell? a7 = some v7 ∧ w.cell? a8 = some v8 ∧ w.cell? a9 = some v9 ∧ w.cell? a10 = some v10) : w'.cell? a0 = some v0 ∧ w'.cell? a1 = some v1 ∧ w'.cell? a2 = some v2 ∧ w'.cell? a3 = some v3 ∧ w'.cell? a4 = some v4 ∧ w'.cell? a5 = some v5 ∧ w'.cell? a6 = some v6 ∧ w'.cell? a7 = some v7 ∧ w'.cell? a8 = some v8 ∧ w'.cell? a9 = some v9 ∧ w'.cell? a10 = some v10 := ⟨he1 hb h.1, he1 hb h.2.1, he1 hb h.2.2.1, he1 hb h.2.2.2.1, he1 hb h.2.2.2.2.1, he1 hb h.2.2.2.2.2.1, he1 hb h.2.2.2.2.2.2.1, he1 hb h.2.2.2.2.2.2.2.1, he1 hb h.2.2.2.2.2.2.2.2.1, he1 hb h.2.2.2.2.2.2.2.2.2.1, he1 hb h.2.2.2.2.2.2.2.2.2.2⟩
theorem he12 {w w' : World} (hb : Below w.heap.size w w') {a0 a1 a2 a3 a4 a5 a6 a7 a8 a9 a10 a11 : Addr} {v0 v1 v2 v3 v4 v5 v6 v7 v8 v9 v10 v11 : Value} (h : w.cell? a0 = some v0 ∧ w.cell? a1 = some v1 ∧ w.cell? a2 = some v2 ∧ w.cell? a3 = some v3 ∧ w.cell? a4 = some v4 ∧ w.cell? a5 = some v5 ∧ w.cell? a6 = some v6 ∧ w.cell? a7 = some v7 ∧ w.cell? a8 = some v8 ∧ w.cell? a9 = some v9 ∧ w.cell? a10 = some v10 ∧ w.cell? a11 = some v11) : w'.cell? a0 = some v0 ∧ w'.cell? a1 = some v1 ∧ w'.cell? a2 = some v2 ∧ w'.cell? a3 = some v3 ∧ w'.cell? a4 = some v4 ∧ w'.cell? a5 = some v5 ∧ w'.cell? a6 = some v6 ∧ w'.cell? a7 = some v7 ∧ w'.cell? a8 = some v8 ∧ w'.cell? a9 = some v9 ∧ w'.cell? a10 = some v10 ∧ w'.cell? a11 = some v11 := ⟨he1 hb h.1, he1 hb h.2.1, he1 hb h.2.2.1, he1 hb h.2.2.2.1, he1 hb h.2.2.2.2.1, he1 hb h.2.2.2.2.2.1, he1 hb h.2.2.2.2.2.2.1, he1 hb h.2.2.2.2.2.2.2.1, he1 hb h.2.2.2.2.2.2.2.2.1, he1 hb h.2.2.2.2.2.2.2.2.2.1, he1 hb h.2.2.2.2.2.2.2.2.2.2.1, he1 hb h.2.2.2.2.2.2.2.2.2.2.2⟩
theorem he15 {w w' : World} (hb : Below w.heap.size w w') {a0 a1 a2 a3 a4 a5 a6 a7 a8 a9 a10 a11 a12 a13 a14 : Addr} {v0 v1 v2 v3 v4 v5 v6 v7 v8 v9 v10 v11 v12 v13 v14 : Value} (h : w.cell? a0 = some v0 ∧ w.cell? a1 = some v1 ∧ w.cell? a2 = some v2 ∧ w.cell? a3 = some v3 ∧ w.cell? a4 = some v4 ∧ w.cell? a5 = some v5 ∧ w.cell? a6 = some v6 ∧ w.cell? a7 = some v7 ∧ w.cell? a8 = some v8 ∧ w.cell? a9 = some v9 ∧ w.cell? a10 = some v10 ∧ w.cell? a11 = some v11 ∧ w.cell? a12 = some v12 ∧ w.cell? a13 = some v13 ∧ w.cell? a14 = some v14) : w'.cell? a0 = some v0 ∧ w'.cell? a1 = some v1 ∧ w'.cell? a2 = some v2 ∧ w'.cell? a3 = some v3 ∧ w'.cell? a4 = some v4 ∧ w'.cell? a5 = some v5 ∧ w'.cell? a6 = some v6 ∧ w'.cell? a7 = some v7 ∧ w'.cell? a8 = some v8 ∧ w'.cell? a9 = some v9 ∧ w'.cell? a10 = some v10 ∧ w'.cell? a11 = some v11 ∧ w'.cell? a12 = some v12 ∧ w'.cell? a13 = some v13 ∧ w'.cell? a14 = some v14 := ⟨he1 hb h.1, he1 hb h.2.1, he1 hb h.2.2.1, he1 hb h.2.2.2.1, he1 hb h.2.2.2.2.1, he1 hb h.2.2.2.2.2.1, he1 hb h.2.2.2.2.2.2.1, he1 hb h.2.2.2.2.2.2.2.1, he1 hb h.2.2.2.2.2.2.2.2.1, he1 hb h.2.2.2.2.2.2.2.2.2.1, he1 hb h.2.2.2.2.2.2.2.2.2.2.1, he1 hb h.2.2.2.2.2.2.2.2.2.2.2.1, he1 hb h.2.2.2.2.2.2.2.2.2.2.2.2.1, he1 hb h.2.2.2.2.2.2.2.2.2.2.2.2.2.1, he1 hb h.2.2.2.2.2.2.2.2.2.2.2.2.2.2⟩
theorem he16 {w w' : World} (hb : Below w.heap.size w w') {a0 a1 a2 a3 a4 a5 a6 a7 a8 a9 a10 a11 a12 a13 a14 a15 : Addr} {v0 v1 v2 v3 v4 v5 v6 v7 v8 v9 v10 v11 v12 v13 v14 v15 : Value} (h : w.cell? a0 = some v0 ∧ w.cell? a1 = some v1 ∧ w.cell? a2 = some v2 ∧ w.cell? a3 = some v3 ∧ w.cell? a4 = some v4 ∧ w.cell? a5 = some v5 ∧ w.cell? a6 = some v6 ∧ w.cell? a7 = some v7 ∧ w.cell? a8 = some v8 ∧ w.cell? a9 = some v9 ∧ w.cell? a10 = some v10 ∧ w.cell? a11 = some v11 ∧ w.cell? a12 = some v12 ∧ w.cell? a13 = some v13 ∧ w.cell? a14 = some v14 ∧ w.cell? a15 = some v15) : w'.cell? a0 = some v0 ∧ w'.cell? a1 = some v1 ∧ w'.cell? a2 = some v2 ∧ w'.cell? a3 = some v3 ∧ w'.cell? a4 = some v4 ∧ w'.cell? a5 = some v5 ∧ w'.cell? a6 = some v6 ∧ w'.cell? a7 = some v7 ∧ w'.cell? a8 = some v8 ∧ w'.cell? a9 = some v9 ∧ w'.cell? a10 = some v10 ∧ w'.cell? a11 = some v11 ∧ w'.cell? a12 = some v12 ∧ w'.cell? a13 = some v13 ∧ w'.cell? a14 = some v14 ∧ w'.cell? a15 = some v15 := ⟨he1 hb h.1, he1 hb h.2.1, he1 hb h.2.2.1, he1 hb h.2.2.2.1, he1 hb h.2.2.2.2.1, he1 hb h.2.2.2.2.2.1, he1 hb h.2.2.2.2.2.2.1, he1 hb h.2.2.2.2.2.2.2.1, he1 hb h.2.2.2.2.2.2.2.2.1, he1 hb h.2.2.2.2.2.2.2.2.2.1, he1 hb h.2.2.2.2.2.2.2.2.2.2.1, he1 hb h.2.2.2.2.2.2.2.2.2.2.2.1, he1 hb h.2.2.2.2.2.2.2.2.2.2.2.2.1, he1 hb h.2.2.2.2.2.2.2.2.2.2.2.2.2.1, he1 hb h.2.2.2.2.2.2.2.2.2.2.2.2.2.2.1, he1 hb h.2.2.2.2.2.2.2.2.2.2.2.2.2.2.2⟩
end Go.Proofs.YtghmajlfmoggfaaGreat
namespace Go.Proofs.YtghmajlfmoggfaaGreat
open Go.RowKit Go.Proofs.YtghmajlfmoggfaaGreatW.PrintWords Go.Proofs.YtghmajlfmoggfaaGreatW.PrintLast PFnMerge
structure Keep (T : Nat → Prop) (w w' : World) : Prop where
 os : w'.os = w.os
 tape : w'.tape = w.tape
 output : w'.output = w.output
 size : w.heap.size ≤ w'.heap.size
 block : ∀ k, k < w.heap.size → ¬ T k → w'.heap[k]? = w.heap[k]?
theorem Keep.refl (T : Nat → Prop) (w : World) : Keep T w w := ⟨rfl, rfl, rfl, Nat.le_refl _, fun _ _ _ => rfl⟩
theorem Keep.mono {T T' : Nat → Prop} {w w' : World} (h : Keep T w w') (ht : ∀ k, k < w.heap.size → T k → T' k) : Keep T' w w' :=
 ⟨h.os, h.tape, h.output, h.size, fun k hk hn => h.block k hk fun hT => hn (ht k hk hT)⟩
theorem Keep.trans {T T' : Nat → Prop} {w w1 w2 : World} (h : Keep T w w1) (h' : Keep T' w1 w2) (ht : ∀ k, k < w.heap.size → T' k → T k) : Keep T w w2 :=
 ⟨h'.os.trans h.os, h'.tape.trans h.tape, h'.output.trans h.output, Nat.le_trans h.size h'.size, fun k hk hn =>
  (h'.block k (Nat.lt_of_lt_of_le hk h.size) fun hT => hn (ht k hk hT)).trans (h.block k hk hn)⟩
theorem Keep.of_below {w w' : World} (h : Below w.heap.size w w') (T : Nat → Prop) : Keep T w w' :=
 ⟨h.os, h.tape, h.output, h.size, fun k hk _ => h.block k hk⟩
theorem Keep.below {T : Nat → Prop} {w w' : World} {B : Nat} (h : Keep T w w') (hB : B ≤ w.heap.size) (ht : ∀ k, k < w.heap.size → T k → B ≤ k) : Below B w w' :=
 ⟨h.os, h.tape, h.output, h.size, fun k hk => h.block k (Nat.lt_of_lt_of_le hk hB) fun hT => by have := ht k (Nat.lt_of_lt_of_le hk hB) hT; omega⟩
theorem Keep.then {T : Nat → Prop} {w w1 w2 : World} (h : Keep T w w1) (h' : Below w1.heap.size w1 w2) : Keep T w w2 :=
 h.trans (Keep.of_below h' T) fun _ _ hT => hT
theorem Keep.alloc {T : Nat → Prop} {w w1 : World} (h : Keep T w w1) (o : Obj) : Keep T w (w1.alloc o) := h.then (below_alloc (Below.refl _ _) o)
theorem Keep.drew {T : Nat → Prop} {w w1 : World} (h : Keep T w w1) : Keep T w w1.drew := h.then (below_drew (Below.refl _ _))
theorem Keep.drewN {T : Nat → Prop} {w w1 : World} (h : Keep T w w1) (n : Nat) : Keep T w (w1.drewN n) := h.then (pw_below_drewN (Below.refl _ _) n)
theorem Keep.setCell {T : Nat → Prop} {w w1 : World} (h : Keep T w w1) (p : Addr) (u : Value) (hp : p.block < w.heap.size → T p.block) : Keep T w (w1.setCell p u) :=
 h.trans (T' := fun k => k = p.block) ⟨rfl, rfl, rfl, by simp [World.setCell], fun k hk hn => Below.heap_setCell _ _ _ _ hn⟩ fun k hk hT => by subst hT; exact hp hk
theorem Keep.grown {T : Nat → Prop} {w w1 w2 : World} {row : Option Nat} (h : Keep T w w1) (hg : w1.grownBy w2 row) (hr : ∀ k, k < w.heap.size → row = some k → T k) : Keep T w w2 :=
 h.trans (T' := fun k => row = some k) ⟨hg.os, hg.tape, hg.output, hg.size, fun k hk hn => hg.block k hk fun e => hn e.symm⟩ hr
theorem Keep.at_ {T : Nat → Prop} {w w' : World} (h : Keep T w w') {k : Nat} {o : Obj} (hb : w.heap[k]? = some o) (hn : ¬ T k) : w'.heap[k]? = some o :=
 (h.block k (blk_lt hb) hn).trans hb
theorem blk_new {w : World} {n : Nat} (hn : n = w.heap.size) (o : Obj) : (w.alloc o).heap[n]? = some o := by subst hn; exact heap_alloc_new w o
theorem blk_old {w : World} {n : Nat} {x : Obj} (o : Obj) (h : w.heap[n]? = some x) : (w.alloc o).heap[n]? = some x := (Below.heap_alloc w o n (blk_lt h)).trans h
theorem blk_else {w : World} {n : Nat} {x : Obj} {p : Addr} (u : Value) (hp : n ≠ p.block) (h : w.heap[n]? = some x) : (w.setCell p u).heap[n]? = some x := (Below.heap_setCell w p u n hp).trans h
theorem blk_drewN {w : World} {n m : Nat} {x : Obj} (h : w.heap[n]? = some x) : (w.drewN m).heap[n]? = some x := h
theorem blk_drew {w : World} {n : Nat} {x : Obj} (h : w.heap[n]? = some x) : w.drew.heap[n]? = some x := h
theorem size_set (w : World) (p : Addr) (u : Value) : (w.setCell p u).heap.size = w.heap.size := by simp [World.setCell]
abbrev noStr : ByteArray := ⟨#[]⟩
abbrev nilS : Value := .slice none 0 0
def ptrV (b : Nat) : Value := .pointer (some ⟨b, 0, none⟩)
abbrev nd (k : Int) (tag val : ByteArray) (C : Value) : Array Value :=
 #[.int .u32 k, .int .u32 0, .string tag, .string val, .string noStr, .pointer none, C, .string noStr, .string noStr, .string noStr, .int .i64 0, .int .i64 0]
def NodeB (w : World) (b : Nat) (k : Int) (tag val : ByteArray) (C : Value) : Prop := w.heap[b]? = some (.cells (nd k tag val C) 85 (0, 0))
def PRow (w : World) (F : Nat → Prop) (C : Value) (ps : List Nat) : Prop := (∀ k, C.ownBlock = some k → F k) ∧ w.ownsRow 0 69 1 C ps.length (ps.map ptrV)
def TB (w : World) (k : Nat) : Prop := ∃ cells t, w.heap[k]? = some (.cells cells t (0, 0)) ∧ (t = 85 ∨ t = 69)
structure Kid where
 key : ByteArray
 kb : Nat
 cb : Nat
 y : S25
 F : Nat → Prop
def Kid.two (c : Kid) : List Nat := [c.kb, c.cb]
inductive Rep (w : World) : Nat → S25 → (Nat → Prop) → Prop
 | sc (b : Nat) (text tag : ByteArray) (F : Nat → Prop) (h : NodeB w b 8 tag text nilS) (hF : F b) : Rep w b ⟨1, text, tag, [], []⟩ F
 | mp (b : Nat) (C : Value) (kids : List Kid) (F : Nat → Prop) (h : NodeB w b 4 noStr noStr C) (hF : F b)
   (hr : PRow w (fun k => F k ∧ k ≠ b) C (kids.flatMap Kid.two))
   (hd : kids.Pairwise fun c d => ∀ k, c.F k → d.F k → False)
   (hk : ∀ c ∈ kids, NodeB w c.kb 8 noStr c.key nilS ∧ c.F c.kb ∧ ∀ k, c.F k → F k ∧ k ≠ b ∧ C.ownBlock ≠ some k)
   (hc : ∀ c ∈ kids, Rep w c.cb c.y (fun k => c.F k ∧ k ≠ c.kb)) : Rep w b ⟨2, noStr, noStr, kids.map (·.key), kids.map (·.y)⟩ F
 | sq (b : Nat) (C : Value) (kids : List Kid) (F : Nat → Prop) (h : NodeB w b 2 noStr noStr C) (hF : F b)
   (hr : PRow w (fun k => F k ∧ k ≠ b) C (kids.map (·.cb)))
   (hd : kids.Pairwise fun c d => ∀ k, c.F k → d.F k → False)
   (hk : ∀ c ∈ kids, ∀ k, c.F k → F k ∧ k ≠ b ∧ C.ownBlock ≠ some k)
   (hc : ∀ c ∈ kids, Rep w c.cb c.y c.F) : Rep w b ⟨3, noStr, noStr, [], kids.map (·.y)⟩ F
theorem PRow.mono {w : World} {F G : Nat → Prop} {C : Value} {ps : List Nat} (h : PRow w F C ps) (hFG : ∀ k, F k → G k) : PRow w G C ps := ⟨fun k hk => hFG k (h.1 k hk), h.2⟩
theorem PRow.move {w w' : World} {F : Nat → Prop} {C : Value} {ps : List Nat} (h : PRow w F C ps) (hm : ∀ k, F k → w'.heap[k]? = w.heap[k]?) : PRow w' F C ps := ⟨h.1, own_move h.2 fun k hk => hm k (h.1 k hk)⟩
theorem PRow.bound {w : World} {F : Nat → Prop} {C : Value} {ps : List Nat} (h : PRow w F C ps) : PRow w (fun k => F k ∧ TB w k) C ps :=
 ⟨fun k hk => ⟨h.1 k hk, by obtain ⟨cells, hc⟩ := own_typed h.2 k hk; exact ⟨cells, 69, hc, .inr rfl⟩⟩, h.2⟩
theorem Rep.mono {w : World} {b : Nat} {y : S25} {F : Nat → Prop} (h : Rep w b y F) : ∀ {G : Nat → Prop}, (∀ k, F k → G k) → Rep w b y G := by
 induction h with
 | sc b text tag F h hF => exact fun hFG => .sc b text tag _ h (hFG b hF)
 | mp b C kids F h hF hr hd hk hc ih =>
  exact fun hFG => .mp b C kids _ h (hFG b hF) (hr.mono fun k hk => ⟨hFG k hk.1, hk.2⟩) hd (fun c hc' => ⟨(hk c hc').1, (hk c hc').2.1, fun k hk' => ⟨hFG k ((hk c hc').2.2 k hk').1, ((hk c hc').2.2 k hk').2⟩⟩) hc
 | sq b C kids F h hF hr hd hk hc ih =>
  exact fun hFG => .sq b C kids _ h (hFG b hF) (hr.mono fun k hk => ⟨hFG k hk.1, hk.2⟩) hd (fun c hc' k hk' => ⟨hFG k (hk c hc' k hk').1, (hk c hc' k hk').2⟩) hc
theorem NodeB.move {w w' : World} {b : Nat} {k : Int} {tag val : ByteArray} {C : Value} (h : NodeB w b k tag val C) (hm : w'.heap[b]? = w.heap[b]?) : NodeB w' b k tag val C := hm.trans h
theorem NodeB.lt {w : World} {b : Nat} {k : Int} {tag val : ByteArray} {C : Value} (h : NodeB w b k tag val C) : b < w.heap.size := blk_lt h
theorem NodeB.tb {w : World} {b : Nat} {k : Int} {tag val : ByteArray} {C : Value} (h : NodeB w b k tag val C) : TB w b := ⟨_, 85, h, .inl rfl⟩
theorem TB.lt {w : World} {b : Nat} (h : TB w b) : b < w.heap.size := by obtain ⟨_, _, h, _⟩ := h; exact blk_lt h
theorem Rep.move {w w' : World} {b : Nat} {y : S25} {F : Nat → Prop} (h : Rep w b y F) : (∀ k, F k → w'.heap[k]? = w.heap[k]?) → Rep w' b y F := by
 induction h with
 | sc b text tag F h hF => exact fun hm => .sc b text tag _ (h.move (hm b hF)) hF
 | mp b C kids F h hF hr hd hk hc ih =>
  exact fun hm => .mp b C kids _ (h.move (hm b hF)) hF (hr.move fun k hk => hm k hk.1) hd
   (fun c hc' => ⟨(hk c hc').1.move (hm _ ((hk c hc').2.2 _ (hk c hc').2.1).1), (hk c hc').2⟩)
   (fun c hc' => ih c hc' fun k hk' => hm k ((hk c hc').2.2 k hk'.1).1)
 | sq b C kids F h hF hr hd hk hc ih =>
  exact fun hm => .sq b C kids _ (h.move (hm b hF)) hF (hr.move fun k hk => hm k hk.1) hd hk
   (fun c hc' => ih c hc' fun k hk' => hm k (hk c hc' k hk').1)
def Kid.cut (w : World) (c : Kid) : Kid := { c with F := fun k => c.F k ∧ TB w k }
theorem two_cut (w : World) (kids : List Kid) : (kids.map (Kid.cut w)).flatMap Kid.two = kids.flatMap Kid.two := by
 rw [List.flatMap_map]; rfl
theorem Rep.bound {w : World} {b : Nat} {y : S25} {F : Nat → Prop} (h : Rep w b y F) : Rep w b y (fun k => F k ∧ TB w k) := by
 induction h with
 | sc b text tag F h hF => exact .sc b text tag _ h ⟨hF, h.tb⟩
 | mp b C kids F h hF hr hd hk hc ih =>
  have hm : ∀ c ∈ kids.map (Kid.cut w), ∃ c0 ∈ kids, c = Kid.cut w c0 := fun c hc => by obtain ⟨c0, h0, rfl⟩ := List.mem_map.1 hc; exact ⟨c0, h0, rfl⟩
  have := Rep.mp (w := w) b C (kids.map (Kid.cut w)) (fun k => F k ∧ TB w k) h ⟨hF, h.tb⟩
   (by rw [two_cut]; exact (hr.bound).mono fun k hk => ⟨⟨hk.1.1, hk.2⟩, hk.1.2⟩)
   (by rw [List.pairwise_map]; exact hd.imp fun hcd k h1 h2 => hcd k h1.1 h2.1)
   (fun c hc' => by
    obtain ⟨c0, h0, rfl⟩ := hm c hc'
    exact ⟨(hk c0 h0).1, ⟨(hk c0 h0).2.1, (hk c0 h0).1.tb⟩, fun k hk' => ⟨⟨((hk c0 h0).2.2 k hk'.1).1, hk'.2⟩, ((hk c0 h0).2.2 k hk'.1).2⟩⟩)
   (fun c hc' => by
    obtain ⟨c0, h0, rfl⟩ := hm c hc'
    exact (ih c0 h0).mono fun k hk => ⟨⟨hk.1.1, hk.2⟩, hk.1.2⟩)
  rwa [List.map_map, List.map_map] at this
 | sq b C kids F h hF hr hd hk hc ih =>
  have hm : ∀ c ∈ kids.map (Kid.cut w), ∃ c0 ∈ kids, c = Kid.cut w c0 := fun c hc => by obtain ⟨c0, h0, rfl⟩ := List.mem_map.1 hc; exact ⟨c0, h0, rfl⟩
  have := Rep.sq (w := w) b C (kids.map (Kid.cut w)) (fun k => F k ∧ TB w k) h ⟨hF, h.tb⟩
   (by rw [List.map_map]; exact (hr.bound).mono fun k hk => ⟨⟨hk.1.1, hk.2⟩, hk.1.2⟩)
   (by rw [List.pairwise_map]; exact hd.imp fun hcd k h1 h2 => hcd k h1.1 h2.1)
   (fun c hc' k hk' => by
    obtain ⟨c0, h0, rfl⟩ := hm c hc'
    exact ⟨⟨(hk c0 h0 k hk'.1).1, hk'.2⟩, (hk c0 h0 k hk'.1).2⟩)
   (fun c hc' => by
    obtain ⟨c0, h0, rfl⟩ := hm c hc'
    exact ih c0 h0)
  rwa [List.map_map] at this
theorem Rep.root {w : World} {b : Nat} {y : S25} {F : Nat → Prop} (h : Rep w b y F) : F b := by cases h <;> assumption
theorem Rep.step {w w' : World} {b : Nat} {y : S25} {F : Nat → Prop} (h : Rep w b y F) (hm : ∀ k, F k → TB w k → w'.heap[k]? = w.heap[k]?) : Rep w' b y F :=
 (h.bound.move fun k hk => hm k hk.1 hk.2).mono fun _ hk => hk.1
theorem Rep.under {w w' : World} {b : Nat} {y : S25} {F : Nat → Prop} (h : Rep w b y F) (hb : Below w.heap.size w w') : Rep w' b y F :=
 h.step fun k _ ht => hb.block k ht.lt
theorem Rep.copy {w w' : World} {v b : Nat} {y : S25} {F : Nat → Prop} (h : Rep w v y F) (hb : w'.heap[b]? = w.heap[v]?) (hm : ∀ k, F k → k ≠ v → k ≠ b ∧ w'.heap[k]? = w.heap[k]?) : Rep w' b y (fun k => k = b ∨ F k ∧ k ≠ v) := by
 cases h with
 | sc _ text tag _ h hF => exact .sc b text tag _ (hb.trans h) (.inl rfl)
 | mp _ C kids _ h hF hr hd hk hc =>
  refine .mp b C kids _ (hb.trans h) (.inl rfl) ((hr.move fun k hk => (hm k hk.1 hk.2).2).mono fun k hk => ⟨.inr hk, (hm k hk.1 hk.2).1⟩) hd (fun c hc' => ?_) (fun c hc' => ?_)
  ·obtain ⟨h1, h2, h3⟩ := hk c hc'
   exact ⟨h1.move (hm _ (h3 _ h2).1 (h3 _ h2).2.1).2, h2, fun k hk' => ⟨.inr ⟨(h3 k hk').1, (h3 k hk').2.1⟩, (hm k (h3 k hk').1 (h3 k hk').2.1).1, (h3 k hk').2.2⟩⟩
  ·obtain ⟨h1, h2, h3⟩ := hk c hc'
   exact (hc c hc').move fun k hk' => (hm k (h3 k hk'.1).1 (h3 k hk'.1).2.1).2
 | sq _ C kids _ h hF hr hd hk hc =>
  refine .sq b C kids _ (hb.trans h) (.inl rfl) ((hr.move fun k hk => (hm k hk.1 hk.2).2).mono fun k hk => ⟨.inr hk, (hm k hk.1 hk.2).1⟩) hd (fun c hc' k hk' => ?_) (fun c hc' => ?_)
  ·have h3 := hk c hc' k hk'
   exact ⟨.inr ⟨h3.1, h3.2.1⟩, (hm k h3.1 h3.2.1).1, h3.2.2⟩
  ·exact (hc c hc').move fun k hk' => (hm k (hk c hc' k hk').1 (hk c hc' k hk').2.1).2
theorem Rep.node {w : World} {b : Nat} {y : S25} {F : Nat → Prop} (h : Rep w b y F) : ∃ k tag val C, NodeB w b k tag val C ∧ (k == 1) = false ∧ (k = 8 ∧ y.f0 = 1 ∧ tag = y.f2 ∧ val = y.f1 ∨ (k = 4 ∧ y.f0 = 2 ∨ k = 2 ∧ y.f0 = 3) ∧ tag = noStr ∧ val = noStr) := by
 cases h with
 | sc _ text tag _ h hF => exact ⟨_, _, _, _, h, rfl, .inl ⟨rfl, rfl, rfl, rfl⟩⟩
 | mp _ C kids _ h hF hr hd hk hc => exact ⟨_, _, _, _, h, rfl, .inr ⟨.inl ⟨rfl, rfl⟩, rfl, rfl⟩⟩
 | sq _ C kids _ h hF hr hd hk hc => exact ⟨_, _, _, _, h, rfl, .inr ⟨.inr ⟨rfl, rfl⟩, rfl, rfl⟩⟩
abbrev ndV (x : S25) (A3 : Option Addr) (c3 : Nat) (A4 : Option Addr) (c4 : Nat) : Value := .agg #[.int .i64 x.f0, .string x.f1, .string x.f2, .slice A3 x.f3.length c3, .slice A4 x.f4.length c4]
theorem str_at {w : World} {A : Option Addr} {n : Nat} {xs : List ByteArray} (h : Kd.C Kd.string w A n xs) (j : Nat) (key : ByteArray) (hj : j < n) (hk : xs[j]? = some key) : ∃ ad, A = some ad ∧ w.cell? (ad.add j) = some (.string key) := by
 obtain ⟨ad3, cc, e3, _, hK3, hc3⟩ := Kd.C_get h ByteArray.empty (j : Int) (by omega) (by omega)
 have hk3 := hc3 0 _ (by rw [hK3]; rfl)
 have e : Kd.string.sz = 1 := rfl
 rw [e] at hk3
 refine ⟨ad3, e3, ?_⟩
 simpa [List.getD, hk] using hk3
theorem nd_at {w : World} {A : Option Addr} {n : Nat} {xs : List S25} (h : Kd.C k25 w A n xs) (j : Nat) (y : S25) (hj : j < n) (hk : xs[j]? = some y) : ∃ ad B3 d3 B4 d4, A = some ad ∧ w.cell? (ad.add (j * 5)) = some (.int .i64 y.f0) ∧ w.cell? ⟨(ad.add (j * 5)).block, (ad.add (j * 5)).off + 1, none⟩ = some (.string y.f1) ∧ w.cell? ⟨(ad.add (j * 5)).block, (ad.add (j * 5)).off + 2, none⟩ = some (.string y.f2) ∧
  w.cell? ⟨(ad.add (j * 5)).block, (ad.add (j * 5)).off + 3, none⟩ = some (.slice B3 y.f3.length d3) ∧ w.cell? ⟨(ad.add (j * 5)).block, (ad.add (j * 5)).off + 4, none⟩ = some (.slice B4 y.f4.length d4) ∧ y.f3.length ≤ d3 ∧ Kd.C Kd.string w B3 y.f3.length y.f3 ∧ y.f4.length ≤ d4 ∧ Kd.C k25 w B4 y.f4.length y.f4 := by
 have h := at_T25 h (j : Int) (by omega) (by omega)
 have e : rd_T25 xs (j : Int) = y := by simp [rd_T25, List.getD, hk]
 rw [e] at h
 simpa using h
structure NdR (w : World) (x : S25) (A3 : Option Addr) (c3 : Nat) (A4 : Option Addr) (c4 : Nat) : Prop where
 keys : Kd.C Kd.string w A3 x.f3.length x.f3
 kcap : x.f3.length ≤ c3
 items : Kd.C k25 w A4 x.f4.length x.f4
 icap : x.f4.length ≤ c4
theorem NdR.below {w w' : World} {x : S25} {A3 : Option Addr} {c3 : Nat} {A4 : Option Addr} {c4 : Nat} (h : NdR w x A3 c3 A4 c4) (hb : Below w.heap.size w w') : NdR w' x A3 c3 A4 c4 :=
 ⟨Kd.C_below h.keys hb, h.kcap, Kd.C_below h.items hb, h.icap⟩
theorem NdR.klen {w : World} {x : S25} {A3 : Option Addr} {c3 : Nat} {A4 : Option Addr} {c4 : Nat} (h : NdR w x A3 c3 A4 c4) : x.f3.length ≤ 9223372036854775807 := h.keys.2.1
theorem NdR.ilen {w : World} {x : S25} {A3 : Option Addr} {c3 : Nat} {A4 : Option Addr} {c4 : Nat} (h : NdR w x A3 c3 A4 c4) : x.f4.length ≤ 9223372036854775807 := h.items.2.1
inductive Bnd : S25 → Prop
 | mk (x : S25) (h1 : x.f1.size ≤ 9223372036854775807) (h2 : x.f2.size ≤ 9223372036854775807) (h3 : ∀ k ∈ x.f3, k.size ≤ 9223372036854775807) (h4 : ∀ z ∈ x.f4, Bnd z) : Bnd x
theorem Bnd.text {x : S25} (h : Bnd x) : x.f1.size ≤ 9223372036854775807 := by cases h; assumption
theorem Bnd.key {x : S25} (h : Bnd x) : ∀ k ∈ x.f3, k.size ≤ 9223372036854775807 := by cases h; assumption
theorem Bnd.item {x : S25} (h : Bnd x) : ∀ z ∈ x.f4, Bnd z := by cases h; assumption
def put5 (W : World) (g : Nat) (v0 v1 v2 v3 v4 : Value) : World := ((((W.setCell ⟨g, 0, none⟩ v0).setCell ⟨g, 1, none⟩ v1).setCell ⟨g, 2, none⟩ v2).setCell ⟨g, 3, none⟩ v3).setCell ⟨g, 4, none⟩ v4
theorem put5_blk {W : World} {g : Nat} {a0 a1 a2 a3 a4 : Value} (h : W.heap[g]? = some (.cells #[a0, a1, a2, a3, a4] 25 (0, 0))) (v0 v1 v2 v3 v4 : Value) : (put5 W g v0 v1 v2 v3 v4).heap[g]? = some (.cells #[v0, v1, v2, v3, v4] 25 (0, 0)) := by
 have h5 := blk_set (blk_set (blk_set (blk_set (blk_set h 0 v0) 1 v1) 2 v2) 3 v3) 4 v4
 simp only [List.setIfInBounds_toArray, List.set_cons_zero, List.set_cons_succ] at h5
 exact h5
theorem put5_below {w W : World} {base g : Nat} (hb : Below base w W) (hg : base ≤ g) (v0 v1 v2 v3 v4 : Value) : Below base w (put5 W g v0 v1 v2 v3 v4) :=
 ((((hb.setCell hg _).setCell hg _).setCell hg _).setCell hg _).setCell hg _
end Go.Proofs.YtghmajlfmoggfaaGreat
