import Derived.Test.YtghmajlfmoggfaaGreatMS4
set_option linter.unusedSimpArgs false
set_option linter.unusedVariables false
namespace Go.Proofs.YtghmajlfmoggfaaGreat
open Go.RowKit Go.Proofs.YtghmajlfmoggfaaGreatW.PrintWords Go.Proofs.YtghmajlfmoggfaaGreatW.PrintLast PFnMerge
def WithP (x : S25) (name : ByteArray) (v m : S25) : Prop := m.f0 = 2 ∧ m.f1 = noStr ∧ m.f2 = noStr ∧ ((∃ i : Nat, i < x.f4.length ∧ x.f3[i]? = some name ∧ m.f3 = x.f3 ∧ m.f4 = x.f4.set i v) ∨ (name ∉ x.f3 ∧ m.f3 = x.f3 ++ [name] ∧ m.f4 = x.f4 ++ [v]))
def WithQ (P : Nat → Prop) (x : S25) (name : ByteArray) (v : S25) (w : World) (e : Ending) (w' : World) : Prop := ∃ m A3 c3 A4 c4, e = .returned (ndV m A3 c3 A4 c4) ∧ WithP x name v m ∧ NdG w' (fun k => P k ∨ w.heap.size ≤ k) m A3 c3 A4 c4 ∧ Below w.heap.size w w'
def okS (w : World) (PP : Nat → Prop) (o3 : Option (Value × List ByteArray)) (og : Option (Nat × Array Value)) (k : Nat) : Prop := (∀ v l, o3 = some (v, l) → v.ownBlock ≠ some k) ∧ (∀ g cs, og = some (g, cs) → k ≠ g) ∧ k ≠ w.heap.size + 1 + 1 ∧ (PP k ∨ w.heap.size ≤ k)
structure WS (w : World) (PP : Nat → Prop) (bx bv br : Array Value) (o3 : Option (Value × List ByteArray)) (o4 : Option (Value × List S25)) (og : Option (Nat × Array Value)) (W : World) : Prop where
 below : Below w.heap.size w W
 boxx : W.heap[w.heap.size]? = some (.cells bx 25 (0, 0))
 boxv : W.heap[w.heap.size + 1]? = some (.cells bv 25 (0, 0))
 boxr : W.heap[w.heap.size + 1 + 1]? = some (.cells br 25 (0, 0))
 r3 : ∀ v l, o3 = some (v, l) → Kd.R Kd.string 9 W (w.heap.size + 3) (fun k => some k = v.ownBlock) v l
 r4 : ∀ v l, o4 = some (v, l) → Kd.N k25 25 W (w.heap.size + 3) (okS w PP o3 og) v l
 rg : ∀ g cs, og = some (g, cs) → W.heap[g]? = some (.cells cs 25 (0, 0)) ∧ w.heap.size + 3 ≤ g
section
variable {w W W' w1 : World} {PP : Nat → Prop} {bx bv br cs : Array Value} {o3 : Option (Value × List ByteArray)} {o4 : Option (Value × List S25)} {og : Option (Nat × Array Value)} {v v1 : Value} {l3 l3' : List ByteArray} {l4 l4' : List S25} {g : Nat}
theorem WS.size (h : WS w PP bx bv br o3 o4 og W) : w.heap.size + 3 ≤ W.heap.size := lt_of_block h.boxr
theorem WS.under (h : WS w PP bx bv br o3 o4 og W) (hb : Below W.heap.size W W') : WS w PP bx bv br o3 o4 og W' :=
 ⟨h.below.trans (hb.mono h.below.size), (hb.block _ (lt_of_block h.boxx)).trans h.boxx, (hb.block _ (lt_of_block h.boxv)).trans h.boxv, (hb.block _ (lt_of_block h.boxr)).trans h.boxr,
  fun v l e => Kd.R_below (h.r3 v l e) hb, fun v l e => Kd.N_below (h.r4 v l e) hb, fun g cs e => ⟨(hb.block _ (lt_of_block (h.rg g cs e).1)).trans (h.rg g cs e).1, (h.rg g cs e).2⟩⟩
theorem WS.lit3 (h : WS w PP bx bv br none o4 og W) : WS w PP bx bv br (some (.slice (some ⟨W.heap.size, 0, none⟩) 0 0, [])) o4 og (W.alloc (.cells #[] 9)) := by
 have h' := h.under (below_alloc (Below.refl _ _) (.cells #[] 9))
 refine ⟨h'.below, h'.boxx, h'.boxv, h'.boxr, ?_, ?_, h'.rg⟩
 ·rintro v l e
  injection e with e
  injection e with e1 e2
  subst e1; subst e2
  exact Kd.R_lower (R_empty Kd.string W 9 _ (by simp [Value.ownBlock])) h.size
 ·intro v l e
  refine Kd.N_mono (Kd.N_below (Kd.N_bound (h.r4 v l e)) (below_alloc (Below.refl _ _) _)) fun k hk => ⟨?_, hk.1.2⟩
  rintro v' l' e'
  injection e' with e'
  injection e' with e1 _
  subst e1
  intro e2
  have : W.heap.size = k := by simpa [Value.ownBlock] using e2
  have := hk.2
  omega
theorem WS.lit4 (h : WS w PP bx bv br o3 none og W) : WS w PP bx bv br o3 (some (.slice (some ⟨W.heap.size, 0, none⟩) 0 0, [])) og (W.alloc (.cells #[] 25)) := by
 have h' := h.under (below_alloc (Below.refl _ _) (.cells #[] 25))
 refine ⟨h'.below, h'.boxx, h'.boxv, h'.boxr, h'.r3, ?_, h'.rg⟩
 rintro v l e
 injection e with e
 injection e with e1 e2
 subst e1; subst e2
 refine Kd.R_N (Kd.R_lower (R_empty k25 W 25 _ ⟨fun v l e he => ?_, fun g cs e he => ?_, by have := h.size; omega, .inr (by have := h.size; omega)⟩) h.size)
 ·have := Kd.R_lt (h.r3 v l e) _ he
  omega
 ·have := lt_of_block (h.rg g cs e).1
  omega
theorem WS.addg (h : WS w PP bx bv br o3 o4 none W) (cs : Array Value) : WS w PP bx bv br o3 o4 (some (W.heap.size, cs)) (W.alloc (.cells cs 25)) := by
 have h' := h.under (below_alloc (Below.refl _ _) (.cells cs 25))
 refine ⟨h'.below, h'.boxx, h'.boxv, h'.boxr, h'.r3, ?_, ?_⟩
 ·intro v l e
  refine Kd.N_mono (Kd.N_below (Kd.N_bound (h.r4 v l e)) (below_alloc (Below.refl _ _) _)) fun k hk => ⟨hk.1.1, ?_, hk.1.2.2⟩
  rintro g' cs' e'
  injection e' with e'
  injection e' with e1 _
  have := hk.2
  omega
 ·rintro g' cs' e'
  injection e' with e'
  injection e' with e1 e2
  subst e1; subst e2
  exact ⟨blk_new rfl _, h.size⟩
theorem WS.lit3' (h : WS w PP bx bv br none o4 og W) : ∃ g, g = W.heap.size ∧ WS w PP bx bv br (some (.slice (some ⟨g, 0, none⟩) 0 0, [])) o4 og (W.alloc (.cells #[] 9)) := ⟨_, rfl, h.lit3⟩
theorem WS.lit4' (h : WS w PP bx bv br o3 none og W) : ∃ g, g = W.heap.size ∧ WS w PP bx bv br o3 (some (.slice (some ⟨g, 0, none⟩) 0 0, [])) og (W.alloc (.cells #[] 25)) := ⟨_, rfl, h.lit4⟩
theorem WS.addg' (h : WS w PP bx bv br o3 o4 none W) (cs : Array Value) : ∃ g, g = W.heap.size ∧ WS w PP bx bv br o3 o4 (some (g, cs)) (W.alloc (.cells cs 25)) := ⟨_, rfl, h.addg cs⟩
theorem WS.fresh (h : WS w PP bx bv br o3 o4 og W) : ∀ k, W.heap.size ≤ k → okS w PP o3 og k := fun k hk => ⟨fun v l e he => by have := Kd.R_lt (h.r3 v l e) _ he; omega, fun g cs e he => by have := lt_of_block (h.rg g cs e).1; omega, by have := h.size; omega, .inr (by have := h.size; omega)⟩
theorem WS.okp (h : WS w PP bx bv br o3 (some (v, l4)) og W) : ∀ k, (PP k ∧ k < w.heap.size) → okS w PP o3 og k ∧ some k ≠ v.ownBlock := fun k ⟨hp, hk⟩ =>
 ⟨⟨fun v l e he => by have := Kd.R_base (h.r3 v l e) _ he; omega, fun g cs e he => by have := (h.rg g cs e).2; omega, by omega, .inl hp⟩, fun he => by have := Kd.N_base (h.r4 _ _ rfl) _ he.symm; omega⟩
theorem WS.grow3 (h : WS w PP bx bv br (some (v, l3)) o4 og W) {ok : Nat → Prop} (hr : Kd.R Kd.string 9 w1 (w.heap.size + 3) ok v1 l3') (hg : W.grownBy w1 v.ownBlock) (hat : v1.ownBlock = v.ownBlock ∨ ∃ b, v1.ownBlock = some b ∧ W.heap.size ≤ b) : WS w PP bx bv br (some (v1, l3')) o4 og w1 := by
 have hb := fun k hk => Kd.R_base (h.r3 _ _ rfl) k hk
 have hne : ∀ k, k < w.heap.size + 3 → some k ≠ v.ownBlock := fun k hk e => by have := hb k e.symm; omega
 have hs := h.size
 refine ⟨h.below.grown hg h.below.size fun k hk => by have := hb k hk; omega, (hg.block _ (lt_of_block h.boxx) (hne _ (by omega))).trans h.boxx, (hg.block _ (lt_of_block h.boxv) (hne _ (by omega))).trans h.boxv, (hg.block _ (lt_of_block h.boxr) (hne _ (by omega))).trans h.boxr, ?_, ?_, ?_⟩
 ·rintro v' l' e
  injection e with e
  injection e with e1 e2
  subst e1; subst e2
  exact Kd.R_tight rfl hr
 ·intro v' l' e
  refine Kd.N_mono (Kd.N_grown (Kd.N_bound (h.r4 v' l' e)) hg fun k hk he => hk.1.1 _ _ rfl he.symm) fun k hk => ⟨?_, hk.1.2⟩
  rintro v'' l'' e'
  injection e' with e'
  injection e' with e1 _
  subst e1
  rcases hat with hat | ⟨b, hat, hle⟩
  ·rw [hat]; exact hk.1.1 _ _ rfl
  ·rw [hat]; intro e2; injection e2 with e2; have := hk.2; omega
 ·intro g cs e
  obtain ⟨h1, h2⟩ := h.rg g cs e
  exact ⟨(hg.block _ (lt_of_block h1) (Kd.R_ne (h.r3 _ _ rfl) h1 (by decide))).trans h1, h2⟩
theorem WS.grow4 (h : WS w PP bx bv br o3 (some (v, l4)) og W) (hr : Kd.N k25 25 w1 (w.heap.size + 3) (okS w PP o3 og) v1 l4') (hg : W.grownBy w1 v.ownBlock) : WS w PP bx bv br o3 (some (v1, l4')) og w1 := by
 have hb := fun k hk => Kd.N_base (h.r4 _ _ rfl) k hk
 have hne : ∀ k, k < w.heap.size + 3 → some k ≠ v.ownBlock := fun k hk e => by have := hb k e.symm; omega
 have hs := h.size
 refine ⟨h.below.grown hg h.below.size fun k hk => by have := hb k hk; omega, (hg.block _ (lt_of_block h.boxx) (hne _ (by omega))).trans h.boxx, (hg.block _ (lt_of_block h.boxv) (hne _ (by omega))).trans h.boxv, (hg.block _ (lt_of_block h.boxr) (hne _ (by omega))).trans h.boxr, ?_, ?_, ?_⟩
 ·intro v' l' e
  exact Kd.R_grown (h.r3 v' l' e) hg fun k hk he => ((h.r4 _ _ rfl).1 k he.symm).1 v' l' e hk.symm
 ·rintro v' l' e
  injection e with e
  injection e with e1 e2
  subst e1; subst e2
  exact hr
 ·intro g cs e
  obtain ⟨h1, h2⟩ := h.rg g cs e
  exact ⟨(hg.block _ (lt_of_block h1) (fun he => ((h.r4 _ _ rfl).1 g he.symm).2.1 g cs e rfl)).trans h1, h2⟩
theorem WS.setg (h : WS w PP bx bv br o3 o4 (some (g, cs)) W) {cs' : Array Value} (hk : Keep (fun k => k = g) W W') (hc : W'.heap[g]? = some (.cells cs' 25 (0, 0))) : WS w PP bx bv br o3 o4 (some (g, cs')) W' := by
 have hg := (h.rg _ _ rfl).2
 refine ⟨h.below.trans (hk.below h.below.size fun k _ e => by omega), hk.at_ h.boxx (by omega), hk.at_ h.boxv (by omega), hk.at_ h.boxr (by omega), ?_, ?_, ?_⟩
 ·intro v l e
  exact Kd.R_step (h.r3 v l e) fun k hk' hlt => hk.block k hlt fun e2 => Kd.R_ne (h.r3 v l e) (h.rg _ _ rfl).1 (by decide) (e2 ▸ hk')
 ·intro v l e
  refine Kd.N_mono (Kd.N_step (h.r4 v l e) fun k hk' hlt => hk.block k hlt fun e2 => hk'.2.1 _ _ rfl e2) fun k hk' => ⟨hk'.1, ?_, hk'.2.2⟩
  rintro g' cs'' e'
  injection e' with e'
  injection e' with e1 _
  rw [← e1]
  exact hk'.2.1 _ _ rfl
 ·rintro g' cs'' e'
  injection e' with e'
  injection e' with e1 e2
  subst e1; subst e2
  exact ⟨hc, hg⟩
theorem keep_put5 (W : World) (g : Nat) (v0 v1 v2 v3 v4 : Value) : Keep (fun k => k = g) W (put5 W g v0 v1 v2 v3 v4) :=
 (((((Keep.refl (fun k => k = g) W).setCell ⟨g, 0, none⟩ v0 fun _ => rfl).setCell ⟨g, 1, none⟩ v1 fun _ => rfl).setCell ⟨g, 2, none⟩ v2 fun _ => rfl).setCell ⟨g, 3, none⟩ v3 fun _ => rfl).setCell ⟨g, 4, none⟩ v4 fun _ => rfl
theorem WS.put {a0 a1 a2 a3 a4 : Value} (h : WS w PP bx bv br o3 o4 (some (g, #[a0, a1, a2, a3, a4])) W) (v0 v1 v2 v3 v4 : Value) : WS w PP bx bv br o3 o4 (some (g, #[v0, v1, v2, v3, v4])) (((((W.setCell ⟨g, 0, none⟩ v0).setCell ⟨g, 1, none⟩ v1).setCell ⟨g, 2, none⟩ v2).setCell ⟨g, 3, none⟩ v3).setCell ⟨g, 4, none⟩ v4) := h.setg (keep_put5 _ _ _ _ _ _ _) (put5_blk (h.rg _ _ rfl).1 _ _ _ _ _)
structure Lit3 (v : Value) (name : ByteArray) (lb : Nat) (W : World) : Prop where
 blk : W.heap[lb]? = some (.cells #[.string name] 9 (0, 0))
 lt : ∀ k, v.ownBlock = some k → k < lb
structure Lit4 (w : World) (v : Value) (g : Nat) (cells : Array Value) (lb : Nat) (W : World) : Prop where
 blk : W.heap[lb]? = some (.cells cells 25 (0, 0))
 lt : ∀ k, v.ownBlock = some k → k < lb
 glt : g < lb
 base : w.heap.size + 3 ≤ lb
theorem Lit3.under {name : ByteArray} {lb : Nat} (h : Lit3 v name lb W) (hb : Below W.heap.size W W') : Lit3 v name lb W' := ⟨(hb.block _ (lt_of_block h.blk)).trans h.blk, h.lt⟩
theorem Lit4.under {cells : Array Value} {lb : Nat} (h : Lit4 w v g cells lb W) (hb : Below W.heap.size W W') : Lit4 w v g cells lb W' := ⟨(hb.block _ (lt_of_block h.blk)).trans h.blk, h.lt, h.glt, h.base⟩
theorem Lit4.grown {cells : Array Value} {lb : Nat} {u : Value} (h : Lit4 w v g cells lb W) (hw : WS w PP bx bv br (some (u, l3)) o4 og W) (hg : W.grownBy w1 u.ownBlock) : Lit4 w v g cells lb w1 :=
 ⟨(hg.block _ (lt_of_block h.blk) (Kd.R_ne (hw.r3 _ _ rfl) h.blk (by decide))).trans h.blk, h.lt, h.glt, h.base⟩
theorem WS.mk3 (h : WS w PP bx bv br (some (v, l3)) o4 og W) (name : ByteArray) : ∃ lb, lb = W.heap.size ∧ Lit3 v name lb (W.alloc (.cells #[.string name] 9)) := ⟨_, rfl, blk_new rfl _, fun k hk => Kd.R_lt (h.r3 _ _ rfl) k hk⟩
theorem WS.mk4 (h : WS w PP bx bv br o3 (some (v, l4)) (some (g, cs)) W) (cells : Array Value) : ∃ lb, lb = W.heap.size ∧ Lit4 w v g cells lb (W.alloc (.cells cells 25)) := ⟨_, rfl, blk_new rfl _, fun k hk => Kd.N_lt (h.r4 _ _ rfl) k hk, lt_of_block (h.rg _ _ rfl).1, h.size⟩
theorem Lit3.reads {name : ByteArray} {lb : Nat} (h : Lit3 v name lb W) : ReadsRow (fun x cs => cs = [Value.string x]) 1 W (some ⟨lb, 0, none⟩) 1 [name] := by
 refine ⟨rfl, by omega, fun _ => ⟨⟨lb, 0, none⟩, rfl, fun j p hj => ?_⟩⟩
 match j, hj with
 | 0, hj =>
  simp only [List.getElem?_cons_zero, Option.some.injEq] at hj
  subst hj
  refine ⟨_, rfl, rfl, fun i u hu => ?_⟩
  match i, hu with
  | 0, hu =>
   simp only [List.getElem?_cons_zero, Option.some.injEq] at hu
   subst hu
   exact (blk_cell h.blk 0).trans rfl
theorem Lit4.reads {x : S25} {E3 E4 : Option Addr} {e3 e4 : Nat} {lb : Nat} (h : Lit4 w v g #[.int .i64 x.f0, .string x.f1, .string x.f2, .slice E3 x.f3.length e3, .slice E4 x.f4.length e4] lb W) {Q : Nat → Prop} (hx : NdG W Q x E3 e3 E4 e4) : Kd.F k25 W (fun k => Q k ∨ k = lb) (some ⟨lb, 0, none⟩) 1 [x] := by
 intro W' hW
 have hblk : W'.heap[lb]? = some (.cells #[.int .i64 x.f0, .string x.f1, .string x.f2, .slice E3 x.f3.length e3, .slice E4 x.f4.length e4] 25 (0, 0)) := (hW lb (.inr rfl) (lt_of_block h.blk)).trans h.blk
 have h3 : Kd.C Kd.string W' E3 x.f3.length x.f3 := hx.keys W' fun k hk hlt => hW k (.inl hk) hlt
 have h4 : Kd.C k25 W' E4 x.f4.length x.f4 := hx.items W' fun k hk hlt => hW k (.inl hk) hlt
 refine ⟨rfl, by omega, fun _ => ⟨⟨lb, 0, none⟩, rfl, fun j p hj => ?_⟩⟩
 match j, hj with
 | 0, hj =>
  simp only [List.getElem?_cons_zero, Option.some.injEq] at hj
  subst hj
  refine ⟨_, rfl, k25_mk W' x hx.kcap h3 hx.icap h4, fun i u hu => ?_⟩
  have hc := blk_cell hblk i
  rw [add_at, Nat.zero_add]
  simp only [Nat.zero_mul, Nat.zero_add]
  rw [hc]
  simpa using hu
theorem WS.put3 {a0 a1 a2 a3 a4 : Value} (h : WS w PP bx bv br o3 o4 (some (g, #[a0, a1, a2, a3, a4])) W) (u : Value) : WS w PP bx bv br o3 o4 (some (g, #[a0, a1, a2, u, a4])) (W.setCell ⟨g, 3, none⟩ u) :=
 h.setg ((Keep.refl (fun k => k = g) W).setCell ⟨g, 3, none⟩ u fun _ => rfl) ((blk_set (h.rg _ _ rfl).1 3 u).trans (by simp only [List.setIfInBounds_toArray, List.set_cons_zero, List.set_cons_succ]))
theorem WS.put4 {a0 a1 a2 a3 a4 : Value} (h : WS w PP bx bv br o3 o4 (some (g, #[a0, a1, a2, a3, a4])) W) (u : Value) : WS w PP bx bv br o3 o4 (some (g, #[a0, a1, a2, a3, u])) (W.setCell ⟨g, 4, none⟩ u) :=
 h.setg ((Keep.refl (fun k => k = g) W).setCell ⟨g, 4, none⟩ u fun _ => rfl) ((blk_set (h.rg _ _ rfl).1 4 u).trans (by simp only [List.setIfInBounds_toArray, List.set_cons_zero, List.set_cons_succ]))
theorem WS.okl {cells : Array Value} {lb : Nat} (h : WS w PP bx bv br (some (v1, l3)) (some (v, l4)) (some (g, cs)) W) (hl : Lit4 w v g cells lb W) : ∀ k, ((PP k ∧ k < w.heap.size) ∨ k = lb) → okS w PP (some (v1, l3)) (some (g, cs)) k ∧ some k ≠ v.ownBlock := by
 rintro k (hk | rfl)
 ·exact h.okp k hk
 ·refine ⟨⟨?_, ?_, ?_, .inr (by have := hl.base; omega)⟩, fun e => Nat.lt_irrefl _ (hl.lt _ e.symm)⟩
  ·intro v' l' e
   injection e with e
   injection e with e1 _
   subst e1
   intro e2
   exact Kd.R_ne (h.r3 _ _ rfl) hl.blk (by decide) e2.symm
  ·intro g' cs' e
   injection e with e
   injection e with e1 _
   have := hl.glt
   omega
  ·have := hl.base
   omega
theorem WS.fin {P3 P4 : Option Addr} {n3 n4 q3 q4 : Nat} {a0 a1 a2 a3 a4 : Value} (h : WS w PP bx bv #[a0, a1, a2, a3, a4] (some (.slice P3 n3 q3, l3)) (some (.slice P4 n4 q4, l4)) og W) (f0 : Int) (f1 f2 : ByteArray) (v0 v1 v2 v3 v4 : Value) {b : Nat} (hb : b = w.heap.size + 1 + 1) :
  (((((W.setCell ⟨b, 0, none⟩ v0).setCell ⟨b, 1, none⟩ v1).setCell ⟨b, 2, none⟩ v2).setCell ⟨b, 3, none⟩ v3).setCell ⟨b, 4, none⟩ v4).heap[b]? = some (.cells #[v0, v1, v2, v3, v4] 25 (0, 0)) ∧
  NdG (((((W.setCell ⟨b, 0, none⟩ v0).setCell ⟨b, 1, none⟩ v1).setCell ⟨b, 2, none⟩ v2).setCell ⟨b, 3, none⟩ v3).setCell ⟨b, 4, none⟩ v4) (fun k => PP k ∨ w.heap.size ≤ k) ⟨f0, f1, f2, l3, l4⟩ P3 q3 P4 q4 ∧
  Below w.heap.size w (((((W.setCell ⟨b, 0, none⟩ v0).setCell ⟨b, 1, none⟩ v1).setCell ⟨b, 2, none⟩ v2).setCell ⟨b, 3, none⟩ v3).setCell ⟨b, 4, none⟩ v4) ∧ n3 = l3.length ∧ n4 = l4.length := by
 subst hb
 have hk := keep_put5 W (w.heap.size + 1 + 1) v0 v1 v2 v3 v4
 have g3 := Kd.R_step (h.r3 _ _ rfl) fun k hk' hlt => hk.block k hlt fun e2 => by have := Kd.R_base (h.r3 _ _ rfl) k hk'.symm; omega
 have g4 := Kd.N_step (h.r4 _ _ rfl) fun k hk' hlt => hk.block k hlt hk'.2.2.1
 have h3 := Kd.R_reads' g3
 have h4 := Kd.N_reads' g4
 have n3' := h3.1
 have n4' := h4.1
 subst n3'
 subst n4'
 refine ⟨put5_blk h.boxr v0 v1 v2 v3 v4, ⟨Kd.F_mono (Kd.R_F g3) fun k hk' => .inr (by have := Kd.R_base (h.r3 _ _ rfl) k hk'.symm; omega), h3.2.1, Kd.F_mono (Kd.N_F g4) fun k hk' => hk'.2.2.2, h4.2.1⟩, h.below.trans (hk.below h.below.size fun k _ e => by omega), rfl, rfl⟩
end
set_option maxRecDepth 20000 in
set_option maxHeartbeats 8000000 in
theorem with17 (w : World) (PP : Nat → Prop) (x v : S25) (name : ByteArray) (A3 A4 E3 E4 : Option Addr) (c3 c4 e3 e4 : Nat) (h : NdG w PP x A3 c3 A4 c4) (hv : NdG w PP v E3 e3 E4 e4) (hlen : x.f3.length = x.f4.length) (hmax : x.f4.length ≤ 1000000) :
  Calls Tryz.prog 17 #[ndV x A3 c3 A4 c4, .string name, ndV v E3 e3 E4 e4] w fun e w' => WithQ PP x name v w e w' := by
 obtain ⟨f0, f1, f2, f3, f4⟩ := x
 obtain ⟨L3, hL3⟩ : ∃ L3, L3 = f3.length := ⟨_, rfl⟩
 obtain ⟨L4, hL4⟩ : ∃ L4, L4 = f4.length := ⟨_, rfl⟩
 have hargs : ndV ⟨f0, f1, f2, f3, f4⟩ A3 c3 A4 c4 = .agg #[.int .i64 f0, .string f1, .string f2, .slice A3 L3 c3, .slice A4 L4 c4] := by rw [hL3, hL4]
 rw [hargs]
 clear hargs
 have H := Lib.hid (And.intro h (And.intro hv (And.intro hlen (And.intro hmax (And.intro hL3 hL4)))))
 clear h hv hlen hmax hL3 hL4
 go_enter Tryz.func17, Tryz.ntmps17
 go_wp2_with fail
 rename_i K hKK
 have HKK := Lib.hid hKK
 clear hKK
 have REST : ∀ (g : Nat) (P3 P4 : Option Addr) (q3 q4 : Nat) (t9 t10 t11 t12 t13 t14 t15 t16 t17 : Value) (W : World), WS w PP #[.int .i64 f0, .string f1, .string f2, .slice A3 L3 c3, .slice A4 L4 c4] #[.int .i64 v.f0, .string v.f1, .string v.f2, .slice E3 v.f3.length e3, .slice E4 v.f4.length e4] #[.int .i64 0, .string noStr, .string noStr, nilS, nilS] (some (.slice P3 L3 q3, f3)) (some (.slice P4 L4 q4, f4)) (some (g, #[.int .i64 2, .string noStr, .string noStr, .slice P3 L3 q3, .slice P4 L4 q4])) W → K { tmps := ((.agg #[.int .i64 f0, .string f1, .string f2, .slice A3 L3 c3, .slice A4 L4 c4]) :: (.string name) :: (ndV v E3 e3 E4 e4) :: (.pointer (some ⟨w.heap.size, 0, none⟩)) :: undef :: (.pointer (some ⟨w.heap.size + 1, 0, none⟩)) :: (.pointer (some ⟨w.heap.size + 1 + 1, 0, none⟩)) :: (.pointer (some ⟨g, 0, none⟩)) :: undef :: t9 :: t10 :: t11 :: t12 :: t13 :: t14 :: t15 :: t16 :: t17 :: undef :: undef :: undef :: undef :: undef :: undef :: undef :: undef :: undef :: undef :: undef :: undef :: undef :: undef :: undef :: undef :: undef :: undef :: undef :: undef :: undef :: undef :: undef :: undef :: undef :: []).toArray, defers := [] } W := by
  intro g P3 P4 q3 q4 t9 t10 t11 t12 t13 t14 t15 t16 t17 W hws
  refine HKK.out _ _ ?_
  have HW := Lib.hid hws
  obtain ⟨k2, r2, hk2, hr2⟩ := place_some f3 name H.out.1.now.klen
  have HP := Lib.hid (And.intro hk2 hr2)
  have x3 : W.cell? ⟨w.heap.size, 3, none⟩ = some (.slice A3 L3 c3) := (blk_cell hws.boxx 3).trans rfl
  clear hk2 hr2 hws
  go_wp2_with fail
  have hcall := spec_Place.calls k2 A3 c3 f3 name r2 W (Kd.C_below H.out.1.now.keys HW.out.below) H.out.1.kcap HP.out.1
  rw [← H.out.2.2.2.2.1] at hcall
  refine hcall.mono ?_
  clear hcall x3
  rintro e w' ⟨rfl, nd, rfl⟩
  have HW := Lib.hid (HW.out.under (pw_below_drewN (Below.refl _ _) nd))
  obtain ⟨Z, hZ⟩ : ∃ Z, Z = W.drewN nd := ⟨_, rfl⟩
  rw [← hZ] at HW
  rw [← hZ]
  clear hZ
  obtain ⟨c0, c1, c2, c3', c4'⟩ := cl5 (HW.out.rg _ _ rfl).1
  obtain ⟨v0, v1, v2, v3, v4⟩ := cl5 HW.out.boxv
  rcases HP.out.2 with ⟨rfl, hno⟩ | ⟨i, rfl, hi, hfi⟩
  ·have HNO := Lib.hid hno
   clear hno
   go_wp2_with fail
   refine start_ (n := 14) (S := fun w' => w'.cell? ⟨g, 3, none⟩ = some (.slice P3 L3 q3) ∧ w'.cell? ⟨g, 4, none⟩ = some (.slice P4 L4 q4) ∧ w'.cell? ⟨w.heap.size + 1, 0, none⟩ = some (.int .i64 v.f0) ∧ w'.cell? ⟨w.heap.size + 1, 1, none⟩ = some (.string v.f1) ∧ w'.cell? ⟨w.heap.size + 1, 2, none⟩ = some (.string v.f2) ∧ w'.cell? ⟨w.heap.size + 1, 3, none⟩ = some (.slice E3 v.f3.length e3) ∧ w'.cell? ⟨w.heap.size + 1, 4, none⟩ = some (.slice E4 v.f4.length e4)) (ds := [11, 13]) #[false, false, false, false, false, false, false, false, false, false, false, false, false, false] (by kernel_rfl) rfl rfl ⟨c3', c4', v0, v1, v2, v3, v4⟩ (fun hHeld => ?_)
   have HW := Lib.hid (HW.out.under (below_drew (Below.refl _ _)))
   refine pu 0 (some 30) (bl 14 1) ?_
   refine pu 2 (some 32) (bl 14 5) ?_
   refine pu 5 (some 35) (bl 14 37) ?_
   refine tk 1 (some 31) (bl 14 39) hHeld ?_
   refine tk 6 (some 36) (bl 14 103) hHeld ?_
   refine tk 7 (some 37) (bl 14 231) hHeld ?_
   refine two_ (i := 3) (j := 8) (Ni := some 33) (Nj := some 38) (bl 14 239) (bl 14 487) rfl rfl rfl rfl (by kernel_rfl) (by decide) (by decide) (fun K hK => ?_) (fun K hK => ?_)
   ·skip
    refine value_ (w1 := ?_) (v := ?_) (by rfl) rfl ?_ ?_
    rotate_left 2
    ·go_simp
     constructor
     ·rfl
     ·rfl
    obtain ⟨gg, hgg, hw⟩ := HW.out.mk3 name
    try simp at hgg
    subst hgg
    have HL3 := Lib.hid hw
    clear hw
    have HW := Lib.hid (HW.out.under (below_alloc (Below.refl _ _) (.cells #[.string name] 9)))
    refine hK.out _ _ ⟨(blk_cell (HW.out.rg _ _ rfl).1 3).trans rfl, (blk_cell (HW.out.rg _ _ rfl).1 4).trans rfl, (blk_cell HW.out.boxv 0).trans rfl, (blk_cell HW.out.boxv 1).trans rfl, (blk_cell HW.out.boxv 2).trans rfl, (blk_cell HW.out.boxv 3).trans rfl, (blk_cell HW.out.boxv 4).trans rfl⟩ (fun hHeld => ?_)
    clear hK K
    refine nr (some 33) ?_
    refine two_ (i := 4) (j := 8) (Ni := some 34) (Nj := some 38) (bl 14 255) (bl 14 495) rfl rfl rfl rfl (by kernel_rfl) (by decide) (by decide) (fun K hK => ?_) (fun K hK => ?_)
    ·skip
     refine Kd.R_append_rows_step Kd.string (w0 := _) (w.heap.size + 3) (by rfl) _ _ 22 9 (.string ⟨#[]⟩) 16 rfl Tryz.underlying22 info9 rfl (by decide) (by omega) (.slice P3 L3 q3) f3 [name] (some ⟨_, 0, none⟩) 1 1 (fun _ => True) (fun _ => False) (by rfl) (by rfl) (Kd.R_mono (HW.out.r3 _ _ rfl) fun _ _ => trivial) (Rr := fun x cs => cs = [Value.string x]) HL3.out.reads (fun x cs h => h) (fun _ h => h.elim) (fun _ _ => trivial) (Below.refl _ _) HW.out.size (by have h1 := H.out.2.2.1; have h2 := H.out.2.2.2.1; have h3 := H.out.2.2.2.2.1; have h4 := H.out.2.2.2.2.2; omega) ?_
     intro v1 w1 hr1 hb1 hg1 hat1
     obtain ⟨P5, q5, rfl⟩ : ∃ A c, v1 = .slice A (L3 + 1) c := by obtain ⟨A, c, e⟩ := Kd.R_slice hr1; exact ⟨A, c, by rw [e, List.length_append, ← H.out.2.2.2.2.1]; rfl⟩
     have HW := Lib.hid (HW.out.grow3 hr1 hg1 hat1)
     clear hr1 hb1 hg1 hat1
     refine hK.out _ _ ⟨(blk_cell (HW.out.rg _ _ rfl).1 3).trans rfl, (blk_cell (HW.out.rg _ _ rfl).1 4).trans rfl, (blk_cell HW.out.boxv 0).trans rfl, (blk_cell HW.out.boxv 1).trans rfl, (blk_cell HW.out.boxv 2).trans rfl, (blk_cell HW.out.boxv 3).trans rfl, (blk_cell HW.out.boxv 4).trans rfl⟩ (fun hHeld => ?_)
     clear hK K
     refine nr (some 34) ?_
     refine pu 10 (some 40) (bl 14 1279) ?_
     refine on_ 8 (some 38) (bl 14 1535) fun K hK => ?_
     refine value_ (w1 := ?_) (v := ?_) (by rfl) rfl ?_ ?_
     rotate_left 2
     ·go_simp
      constructor
      ·rfl
      ·rfl
     obtain ⟨gg, hgg, hw⟩ := HW.out.mk4 #[.int .i64 v.f0, .string v.f1, .string v.f2, .slice E3 v.f3.length e3, .slice E4 v.f4.length e4]
     try simp at hgg
     subst hgg
     have HL4 := Lib.hid hw
     clear hw
     have HW := Lib.hid (HW.out.under (below_alloc (Below.refl _ _) (.cells #[.int .i64 v.f0, .string v.f1, .string v.f2, .slice E3 v.f3.length e3, .slice E4 v.f4.length e4] 25)))
     refine hK.out _ _ ⟨(blk_cell (HW.out.rg _ _ rfl).1 3).trans rfl, (blk_cell (HW.out.rg _ _ rfl).1 4).trans rfl, (blk_cell HW.out.boxv 0).trans rfl, (blk_cell HW.out.boxv 1).trans rfl, (blk_cell HW.out.boxv 2).trans rfl, (blk_cell HW.out.boxv 3).trans rfl, (blk_cell HW.out.boxv 4).trans rfl⟩ (fun hHeld => ?_)
     clear hK K
     refine nr (some 38) ?_
     refine on_ 9 (some 39) (bl 14 2047) fun K hK => ?_
     refine Kd.N_append_rows_step k25 (w0 := _) (w.heap.size + 3) (by rfl) _ _ 23 25 (.agg #[(.int .i64 0), (.string ⟨#[]⟩), (.string ⟨#[]⟩), (.slice none 0 0), (.slice none 0 0)]) 88 rfl Tryz.underlying23 info25 rfl (by decide) (by omega) (.slice P4 L4 q4) f4 [v] (some ⟨_, 0, none⟩) 1 1 (okS w PP _ _) _ (by rfl) (by rfl) (HW.out.r4 _ _ rfl) (HL4.out.reads (H.out.2.1.bound.below HW.out.below)) (HW.out.okl HL4.out) HW.out.fresh (Below.refl _ _) HW.out.size (by have h1 := H.out.2.2.1; have h2 := H.out.2.2.2.1; have h3 := H.out.2.2.2.2.1; have h4 := H.out.2.2.2.2.2; omega) ?_
     intro v1 w1 hr1 hb1 hg1 hat1
     obtain ⟨P6, q6, rfl⟩ : ∃ A c, v1 = .slice A (L4 + 1) c := by obtain ⟨A, c, e⟩ := Kd.N_slice hr1; exact ⟨A, c, by rw [e, List.length_append, ← H.out.2.2.2.2.2]; rfl⟩
     have HW := Lib.hid (HW.out.grow4 hr1 hg1)
     clear hr1 hb1 hg1 hat1
     refine hK.out _ _ ⟨(blk_cell (HW.out.rg _ _ rfl).1 3).trans rfl, (blk_cell (HW.out.rg _ _ rfl).1 4).trans rfl, (blk_cell HW.out.boxv 0).trans rfl, (blk_cell HW.out.boxv 1).trans rfl, (blk_cell HW.out.boxv 2).trans rfl, (blk_cell HW.out.boxv 3).trans rfl, (blk_cell HW.out.boxv 4).trans rfl⟩ (fun hHeld => ?_)
     clear hK K
     refine nr (some 39) ?_
     refine ls_ 11 none (bl 14 4095) fun K hK => ?_
     have hz := blk_frozen (HW.out.rg _ _ rfl).1 3
     have hq := blk_cell (HW.out.rg _ _ rfl).1 3
     refine skip_ (w1 := ?_) (by rfl) rfl ?_ ?_
     rotate_left
     ·go_simp
      rfl
     have HW := Lib.hid (HW.out.put3 (.slice P5 (L3 + 1) q5))
     clear hz hq
     refine hK.out _ _ ?_
     clear hK K
     refine pu 12 (some 41) (bl 14 8191) ?_
     refine ls_ 13 none (bl 14 16383) fun K hK => ?_
     have hz := blk_frozen (HW.out.rg _ _ rfl).1 4
     have hq := blk_cell (HW.out.rg _ _ rfl).1 4
     refine skip_ (w1 := ?_) (by rfl) rfl ?_ ?_
     rotate_left
     ·go_simp
      rfl
     have HW := Lib.hid (HW.out.put4 (.slice P6 (L4 + 1) q6))
     clear hz hq
     refine hK.out _ _ ?_
     clear hK K
     refine done_ (by kernel_rfl) ?_
     have k0 := (blk_cell (HW.out.rg _ _ rfl).1 0).trans (show _ = some (.int .i64 2) from rfl)
     have k1 := (blk_cell (HW.out.rg _ _ rfl).1 1).trans (show _ = some (.string noStr) from rfl)
     have k2 := (blk_cell (HW.out.rg _ _ rfl).1 2).trans (show _ = some (.string noStr) from rfl)
     have k3 := (blk_cell (HW.out.rg _ _ rfl).1 3).trans (show _ = some (.slice P5 (L3 + 1) q5) from rfl)
     have k4 := (blk_cell (HW.out.rg _ _ rfl).1 4).trans (show _ = some (.slice P6 (L4 + 1) q6) from rfl)
     have r0 := (blk_cell HW.out.boxr 0).trans (show _ = some (.int .i64 0) from rfl)
     have r1 := (blk_cell HW.out.boxr 1).trans (show _ = some (.string noStr) from rfl)
     have r2 := (blk_cell HW.out.boxr 2).trans (show _ = some (.string noStr) from rfl)
     have r3 := (blk_cell HW.out.boxr 3).trans (show _ = some nilS from rfl)
     have r4 := (blk_cell HW.out.boxr 4).trans (show _ = some nilS from rfl)
     have rz0 := blk_frozen HW.out.boxr 0
     have rz1 := blk_frozen HW.out.boxr 1
     have rz2 := blk_frozen HW.out.boxr 2
     have rz3 := blk_frozen HW.out.boxr 3
     have rz4 := blk_frozen HW.out.boxr 4
     go_wp2_with fail
     have hfin := HW.out.fin 2 noStr noStr (.int .i64 2) (.string noStr) (.string noStr) (.slice P5 (L3 + 1) q5) (.slice P6 (L4 + 1) q6) rfl
     refine bodyPost_ret (results_cell_row rfl _ _ (w.heap.size + 1 + 1) 25 #[.int .i64 2, .string noStr, .string noStr, .slice P5 (L3 + 1) q5, .slice P6 (L4 + 1) q6] (0, 0) _ rfl hfin.1 Tryz.underlying25 rfl (by kernel_rfl)) rfl ?_
     refine ⟨⟨2, noStr, noStr, f3 ++ [name], f4 ++ [v]⟩, P5, q5, P6, q6, ?_, ⟨rfl, rfl, rfl, .inr ⟨HNO.out, rfl, rfl⟩⟩, hfin.2.1, hfin.2.2.1⟩
     simp only [ndV, ← hfin.2.2.2.1, ← hfin.2.2.2.2]
    ·skip
     refine value_ (w1 := ?_) (v := ?_) (by rfl) rfl ?_ ?_
     rotate_left 2
     ·go_simp
      constructor
      ·rfl
      ·rfl
     obtain ⟨gg, hgg, hw⟩ := HW.out.mk4 #[.int .i64 v.f0, .string v.f1, .string v.f2, .slice E3 v.f3.length e3, .slice E4 v.f4.length e4]
     try simp at hgg
     subst hgg
     have HL4 := Lib.hid hw
     clear hw
     have HW := Lib.hid (HW.out.under (below_alloc (Below.refl _ _) (.cells #[.int .i64 v.f0, .string v.f1, .string v.f2, .slice E3 v.f3.length e3, .slice E4 v.f4.length e4] 25)))
     have HL3 := Lib.hid (HL3.out.under (below_alloc (Below.refl _ _) (.cells #[.int .i64 v.f0, .string v.f1, .string v.f2, .slice E3 v.f3.length e3, .slice E4 v.f4.length e4] 25)))
     refine hK.out _ _ ⟨(blk_cell (HW.out.rg _ _ rfl).1 3).trans rfl, (blk_cell (HW.out.rg _ _ rfl).1 4).trans rfl, (blk_cell HW.out.boxv 0).trans rfl, (blk_cell HW.out.boxv 1).trans rfl, (blk_cell HW.out.boxv 2).trans rfl, (blk_cell HW.out.boxv 3).trans rfl, (blk_cell HW.out.boxv 4).trans rfl⟩ (fun hHeld => ?_)
     clear hK K
     refine nr (some 38) ?_
     refine on_ 4 (some 34) (bl 14 511) fun K hK => ?_
     refine Kd.R_append_rows_step Kd.string (w0 := _) (w.heap.size + 3) (by rfl) _ _ 22 9 (.string ⟨#[]⟩) 16 rfl Tryz.underlying22 info9 rfl (by decide) (by omega) (.slice P3 L3 q3) f3 [name] (some ⟨_, 0, none⟩) 1 1 (fun _ => True) (fun _ => False) (by rfl) (by rfl) (Kd.R_mono (HW.out.r3 _ _ rfl) fun _ _ => trivial) (Rr := fun x cs => cs = [Value.string x]) HL3.out.reads (fun x cs h => h) (fun _ h => h.elim) (fun _ _ => trivial) (Below.refl _ _) HW.out.size (by have h1 := H.out.2.2.1; have h2 := H.out.2.2.2.1; have h3 := H.out.2.2.2.2.1; have h4 := H.out.2.2.2.2.2; omega) ?_
     intro v1 w1 hr1 hb1 hg1 hat1
     obtain ⟨P5, q5, rfl⟩ : ∃ A c, v1 = .slice A (L3 + 1) c := by obtain ⟨A, c, e⟩ := Kd.R_slice hr1; exact ⟨A, c, by rw [e, List.length_append, ← H.out.2.2.2.2.1]; rfl⟩
     have HL4 := Lib.hid (HL4.out.grown HW.out hg1)
     have HW := Lib.hid (HW.out.grow3 hr1 hg1 hat1)
     clear hr1 hb1 hg1 hat1
     refine hK.out _ _ ⟨(blk_cell (HW.out.rg _ _ rfl).1 3).trans rfl, (blk_cell (HW.out.rg _ _ rfl).1 4).trans rfl, (blk_cell HW.out.boxv 0).trans rfl, (blk_cell HW.out.boxv 1).trans rfl, (blk_cell HW.out.boxv 2).trans rfl, (blk_cell HW.out.boxv 3).trans rfl, (blk_cell HW.out.boxv 4).trans rfl⟩ (fun hHeld => ?_)
     clear hK K
     refine nr (some 34) ?_
     refine pu 10 (some 40) (bl 14 1535) ?_
     refine on_ 9 (some 39) (bl 14 2047) fun K hK => ?_
     refine Kd.N_append_rows_step k25 (w0 := _) (w.heap.size + 3) (by rfl) _ _ 23 25 (.agg #[(.int .i64 0), (.string ⟨#[]⟩), (.string ⟨#[]⟩), (.slice none 0 0), (.slice none 0 0)]) 88 rfl Tryz.underlying23 info25 rfl (by decide) (by omega) (.slice P4 L4 q4) f4 [v] (some ⟨_, 0, none⟩) 1 1 (okS w PP _ _) _ (by rfl) (by rfl) (HW.out.r4 _ _ rfl) (HL4.out.reads (H.out.2.1.bound.below HW.out.below)) (HW.out.okl HL4.out) HW.out.fresh (Below.refl _ _) HW.out.size (by have h1 := H.out.2.2.1; have h2 := H.out.2.2.2.1; have h3 := H.out.2.2.2.2.1; have h4 := H.out.2.2.2.2.2; omega) ?_
     intro v1 w1 hr1 hb1 hg1 hat1
     obtain ⟨P6, q6, rfl⟩ : ∃ A c, v1 = .slice A (L4 + 1) c := by obtain ⟨A, c, e⟩ := Kd.N_slice hr1; exact ⟨A, c, by rw [e, List.length_append, ← H.out.2.2.2.2.2]; rfl⟩
     have HW := Lib.hid (HW.out.grow4 hr1 hg1)
     clear hr1 hb1 hg1 hat1
     refine hK.out _ _ ⟨(blk_cell (HW.out.rg _ _ rfl).1 3).trans rfl, (blk_cell (HW.out.rg _ _ rfl).1 4).trans rfl, (blk_cell HW.out.boxv 0).trans rfl, (blk_cell HW.out.boxv 1).trans rfl, (blk_cell HW.out.boxv 2).trans rfl, (blk_cell HW.out.boxv 3).trans rfl, (blk_cell HW.out.boxv 4).trans rfl⟩ (fun hHeld => ?_)
     clear hK K
     refine nr (some 39) ?_
     refine ls_ 11 none (bl 14 4095) fun K hK => ?_
     have hz := blk_frozen (HW.out.rg _ _ rfl).1 3
     have hq := blk_cell (HW.out.rg _ _ rfl).1 3
     refine skip_ (w1 := ?_) (by rfl) rfl ?_ ?_
     rotate_left
     ·go_simp
      rfl
     have HW := Lib.hid (HW.out.put3 (.slice P5 (L3 + 1) q5))
     clear hz hq
     refine hK.out _ _ ?_
     clear hK K
     refine pu 12 (some 41) (bl 14 8191) ?_
     refine ls_ 13 none (bl 14 16383) fun K hK => ?_
     have hz := blk_frozen (HW.out.rg _ _ rfl).1 4
     have hq := blk_cell (HW.out.rg _ _ rfl).1 4
     refine skip_ (w1 := ?_) (by rfl) rfl ?_ ?_
     rotate_left
     ·go_simp
      rfl
     have HW := Lib.hid (HW.out.put4 (.slice P6 (L4 + 1) q6))
     clear hz hq
     refine hK.out _ _ ?_
     clear hK K
     refine done_ (by kernel_rfl) ?_
     have k0 := (blk_cell (HW.out.rg _ _ rfl).1 0).trans (show _ = some (.int .i64 2) from rfl)
     have k1 := (blk_cell (HW.out.rg _ _ rfl).1 1).trans (show _ = some (.string noStr) from rfl)
     have k2 := (blk_cell (HW.out.rg _ _ rfl).1 2).trans (show _ = some (.string noStr) from rfl)
     have k3 := (blk_cell (HW.out.rg _ _ rfl).1 3).trans (show _ = some (.slice P5 (L3 + 1) q5) from rfl)
     have k4 := (blk_cell (HW.out.rg _ _ rfl).1 4).trans (show _ = some (.slice P6 (L4 + 1) q6) from rfl)
     have r0 := (blk_cell HW.out.boxr 0).trans (show _ = some (.int .i64 0) from rfl)
     have r1 := (blk_cell HW.out.boxr 1).trans (show _ = some (.string noStr) from rfl)
     have r2 := (blk_cell HW.out.boxr 2).trans (show _ = some (.string noStr) from rfl)
     have r3 := (blk_cell HW.out.boxr 3).trans (show _ = some nilS from rfl)
     have r4 := (blk_cell HW.out.boxr 4).trans (show _ = some nilS from rfl)
     have rz0 := blk_frozen HW.out.boxr 0
     have rz1 := blk_frozen HW.out.boxr 1
     have rz2 := blk_frozen HW.out.boxr 2
     have rz3 := blk_frozen HW.out.boxr 3
     have rz4 := blk_frozen HW.out.boxr 4
     go_wp2_with fail
     have hfin := HW.out.fin 2 noStr noStr (.int .i64 2) (.string noStr) (.string noStr) (.slice P5 (L3 + 1) q5) (.slice P6 (L4 + 1) q6) rfl
     refine bodyPost_ret (results_cell_row rfl _ _ (w.heap.size + 1 + 1) 25 #[.int .i64 2, .string noStr, .string noStr, .slice P5 (L3 + 1) q5, .slice P6 (L4 + 1) q6] (0, 0) _ rfl hfin.1 Tryz.underlying25 rfl (by kernel_rfl)) rfl ?_
     refine ⟨⟨2, noStr, noStr, f3 ++ [name], f4 ++ [v]⟩, P5, q5, P6, q6, ?_, ⟨rfl, rfl, rfl, .inr ⟨HNO.out, rfl, rfl⟩⟩, hfin.2.1, hfin.2.2.1⟩
     simp only [ndV, ← hfin.2.2.2.1, ← hfin.2.2.2.2]
   ·skip
    refine value_ (w1 := ?_) (v := ?_) (by rfl) rfl ?_ ?_
    rotate_left 2
    ·go_simp
     constructor
     ·rfl
     ·rfl
    obtain ⟨gg, hgg, hw⟩ := HW.out.mk4 #[.int .i64 v.f0, .string v.f1, .string v.f2, .slice E3 v.f3.length e3, .slice E4 v.f4.length e4]
    try simp at hgg
    subst hgg
    have HL4 := Lib.hid hw
    clear hw
    have HW := Lib.hid (HW.out.under (below_alloc (Below.refl _ _) (.cells #[.int .i64 v.f0, .string v.f1, .string v.f2, .slice E3 v.f3.length e3, .slice E4 v.f4.length e4] 25)))
    refine hK.out _ _ ⟨(blk_cell (HW.out.rg _ _ rfl).1 3).trans rfl, (blk_cell (HW.out.rg _ _ rfl).1 4).trans rfl, (blk_cell HW.out.boxv 0).trans rfl, (blk_cell HW.out.boxv 1).trans rfl, (blk_cell HW.out.boxv 2).trans rfl, (blk_cell HW.out.boxv 3).trans rfl, (blk_cell HW.out.boxv 4).trans rfl⟩ (fun hHeld => ?_)
    clear hK K
    refine nr (some 38) ?_
    refine on_ 3 (some 33) (bl 14 495) fun K hK => ?_
    refine value_ (w1 := ?_) (v := ?_) (by rfl) rfl ?_ ?_
    rotate_left 2
    ·go_simp
     constructor
     ·rfl
     ·rfl
    obtain ⟨gg, hgg, hw⟩ := HW.out.mk3 name
    try simp at hgg
    subst hgg
    have HL3 := Lib.hid hw
    clear hw
    have HW := Lib.hid (HW.out.under (below_alloc (Below.refl _ _) (.cells #[.string name] 9)))
    have HL4 := Lib.hid (HL4.out.under (below_alloc (Below.refl _ _) (.cells #[.string name] 9)))
    refine hK.out _ _ ⟨(blk_cell (HW.out.rg _ _ rfl).1 3).trans rfl, (blk_cell (HW.out.rg _ _ rfl).1 4).trans rfl, (blk_cell HW.out.boxv 0).trans rfl, (blk_cell HW.out.boxv 1).trans rfl, (blk_cell HW.out.boxv 2).trans rfl, (blk_cell HW.out.boxv 3).trans rfl, (blk_cell HW.out.boxv 4).trans rfl⟩ (fun hHeld => ?_)
    clear hK K
    refine nr (some 33) ?_
    refine on_ 4 (some 34) (bl 14 511) fun K hK => ?_
    refine Kd.R_append_rows_step Kd.string (w0 := _) (w.heap.size + 3) (by rfl) _ _ 22 9 (.string ⟨#[]⟩) 16 rfl Tryz.underlying22 info9 rfl (by decide) (by omega) (.slice P3 L3 q3) f3 [name] (some ⟨_, 0, none⟩) 1 1 (fun _ => True) (fun _ => False) (by rfl) (by rfl) (Kd.R_mono (HW.out.r3 _ _ rfl) fun _ _ => trivial) (Rr := fun x cs => cs = [Value.string x]) HL3.out.reads (fun x cs h => h) (fun _ h => h.elim) (fun _ _ => trivial) (Below.refl _ _) HW.out.size (by have h1 := H.out.2.2.1; have h2 := H.out.2.2.2.1; have h3 := H.out.2.2.2.2.1; have h4 := H.out.2.2.2.2.2; omega) ?_
    intro v1 w1 hr1 hb1 hg1 hat1
    obtain ⟨P5, q5, rfl⟩ : ∃ A c, v1 = .slice A (L3 + 1) c := by obtain ⟨A, c, e⟩ := Kd.R_slice hr1; exact ⟨A, c, by rw [e, List.length_append, ← H.out.2.2.2.2.1]; rfl⟩
    have HL4 := Lib.hid (HL4.out.grown HW.out hg1)
    have HW := Lib.hid (HW.out.grow3 hr1 hg1 hat1)
    clear hr1 hb1 hg1 hat1
    refine hK.out _ _ ⟨(blk_cell (HW.out.rg _ _ rfl).1 3).trans rfl, (blk_cell (HW.out.rg _ _ rfl).1 4).trans rfl, (blk_cell HW.out.boxv 0).trans rfl, (blk_cell HW.out.boxv 1).trans rfl, (blk_cell HW.out.boxv 2).trans rfl, (blk_cell HW.out.boxv 3).trans rfl, (blk_cell HW.out.boxv 4).trans rfl⟩ (fun hHeld => ?_)
    clear hK K
    refine nr (some 34) ?_
    refine pu 10 (some 40) (bl 14 1535) ?_
    refine on_ 9 (some 39) (bl 14 2047) fun K hK => ?_
    refine Kd.N_append_rows_step k25 (w0 := _) (w.heap.size + 3) (by rfl) _ _ 23 25 (.agg #[(.int .i64 0), (.string ⟨#[]⟩), (.string ⟨#[]⟩), (.slice none 0 0), (.slice none 0 0)]) 88 rfl Tryz.underlying23 info25 rfl (by decide) (by omega) (.slice P4 L4 q4) f4 [v] (some ⟨_, 0, none⟩) 1 1 (okS w PP _ _) _ (by rfl) (by rfl) (HW.out.r4 _ _ rfl) (HL4.out.reads (H.out.2.1.bound.below HW.out.below)) (HW.out.okl HL4.out) HW.out.fresh (Below.refl _ _) HW.out.size (by have h1 := H.out.2.2.1; have h2 := H.out.2.2.2.1; have h3 := H.out.2.2.2.2.1; have h4 := H.out.2.2.2.2.2; omega) ?_
    intro v1 w1 hr1 hb1 hg1 hat1
    obtain ⟨P6, q6, rfl⟩ : ∃ A c, v1 = .slice A (L4 + 1) c := by obtain ⟨A, c, e⟩ := Kd.N_slice hr1; exact ⟨A, c, by rw [e, List.length_append, ← H.out.2.2.2.2.2]; rfl⟩
    have HW := Lib.hid (HW.out.grow4 hr1 hg1)
    clear hr1 hb1 hg1 hat1
    refine hK.out _ _ ⟨(blk_cell (HW.out.rg _ _ rfl).1 3).trans rfl, (blk_cell (HW.out.rg _ _ rfl).1 4).trans rfl, (blk_cell HW.out.boxv 0).trans rfl, (blk_cell HW.out.boxv 1).trans rfl, (blk_cell HW.out.boxv 2).trans rfl, (blk_cell HW.out.boxv 3).trans rfl, (blk_cell HW.out.boxv 4).trans rfl⟩ (fun hHeld => ?_)
    clear hK K
    refine nr (some 39) ?_
    refine ls_ 11 none (bl 14 4095) fun K hK => ?_
    have hz := blk_frozen (HW.out.rg _ _ rfl).1 3
    have hq := blk_cell (HW.out.rg _ _ rfl).1 3
    refine skip_ (w1 := ?_) (by rfl) rfl ?_ ?_
    rotate_left
    ·go_simp
     rfl
    have HW := Lib.hid (HW.out.put3 (.slice P5 (L3 + 1) q5))
    clear hz hq
    refine hK.out _ _ ?_
    clear hK K
    refine pu 12 (some 41) (bl 14 8191) ?_
    refine ls_ 13 none (bl 14 16383) fun K hK => ?_
    have hz := blk_frozen (HW.out.rg _ _ rfl).1 4
    have hq := blk_cell (HW.out.rg _ _ rfl).1 4
    refine skip_ (w1 := ?_) (by rfl) rfl ?_ ?_
    rotate_left
    ·go_simp
     rfl
    have HW := Lib.hid (HW.out.put4 (.slice P6 (L4 + 1) q6))
    clear hz hq
    refine hK.out _ _ ?_
    clear hK K
    refine done_ (by kernel_rfl) ?_
    have k0 := (blk_cell (HW.out.rg _ _ rfl).1 0).trans (show _ = some (.int .i64 2) from rfl)
    have k1 := (blk_cell (HW.out.rg _ _ rfl).1 1).trans (show _ = some (.string noStr) from rfl)
    have k2 := (blk_cell (HW.out.rg _ _ rfl).1 2).trans (show _ = some (.string noStr) from rfl)
    have k3 := (blk_cell (HW.out.rg _ _ rfl).1 3).trans (show _ = some (.slice P5 (L3 + 1) q5) from rfl)
    have k4 := (blk_cell (HW.out.rg _ _ rfl).1 4).trans (show _ = some (.slice P6 (L4 + 1) q6) from rfl)
    have r0 := (blk_cell HW.out.boxr 0).trans (show _ = some (.int .i64 0) from rfl)
    have r1 := (blk_cell HW.out.boxr 1).trans (show _ = some (.string noStr) from rfl)
    have r2 := (blk_cell HW.out.boxr 2).trans (show _ = some (.string noStr) from rfl)
    have r3 := (blk_cell HW.out.boxr 3).trans (show _ = some nilS from rfl)
    have r4 := (blk_cell HW.out.boxr 4).trans (show _ = some nilS from rfl)
    have rz0 := blk_frozen HW.out.boxr 0
    have rz1 := blk_frozen HW.out.boxr 1
    have rz2 := blk_frozen HW.out.boxr 2
    have rz3 := blk_frozen HW.out.boxr 3
    have rz4 := blk_frozen HW.out.boxr 4
    go_wp2_with fail
    have hfin := HW.out.fin 2 noStr noStr (.int .i64 2) (.string noStr) (.string noStr) (.slice P5 (L3 + 1) q5) (.slice P6 (L4 + 1) q6) rfl
    refine bodyPost_ret (results_cell_row rfl _ _ (w.heap.size + 1 + 1) 25 #[.int .i64 2, .string noStr, .string noStr, .slice P5 (L3 + 1) q5, .slice P6 (L4 + 1) q6] (0, 0) _ rfl hfin.1 Tryz.underlying25 rfl (by kernel_rfl)) rfl ?_
    refine ⟨⟨2, noStr, noStr, f3 ++ [name], f4 ++ [v]⟩, P5, q5, P6, q6, ?_, ⟨rfl, rfl, rfl, .inr ⟨HNO.out, rfl, rfl⟩⟩, hfin.2.1, hfin.2.2.1⟩
    simp only [ndV, ← hfin.2.2.2.1, ← hfin.2.2.2.2]
  ·have hi4 : i < L4 := by have h1 := H.out.2.2.1; have h4 := H.out.2.2.2.2.2; omega
   have hi4' : (i : Int) < (L4 : Int) := by omega
   obtain ⟨g4, cap, hv4, _⟩ := Kd.N_form (HW.out.r4 _ _ rfl) (by have h4 := H.out.2.2.2.2.2; omega)
   injection hv4 with hv4 _ hv5
   subst hv4
   obtain ⟨c, hcl, hFK, hcc, hfr⟩ := Kd.N_elem (HW.out.r4 _ _ rfl) z25 (i : Int) (by omega) (by omega)
   have HF := Lib.hid (And.intro hFK (And.intro hi hfi))
   obtain ⟨d0, d1, d2, d3, d4, rfl⟩ : ∃ d0 d1 d2 d3 d4, c = [d0, d1, d2, d3, d4] := by
    match c, hcl with
    | [d0, d1, d2, d3, d4], _ => exact ⟨d0, d1, d2, d3, d4, rfl⟩
   have es : k25.sz = 5 := rfl
   have hcc0 := hcc
   simp only [Int.toNat_natCast, es] at hcc hfr
   have y0 : Z.cell? ⟨g4, i * 5, none⟩ = some d0 := hcc 0 _ rfl
   have y1 := hcc 1 _ rfl
   have y2 := hcc 2 _ rfl
   have y3 := hcc 3 _ rfl
   have y4 := hcc 4 _ rfl
   have u0 : Z.frozen? ⟨g4, i * 5, none⟩ = false := hfr 0
   have u1 := hfr 1
   have u2 := hfr 2
   have u3 := hfr 3
   have u4 := hfr 4
   have hseg := Kd.N_seg (HW.out.r4 _ _ rfl) (i : Int) (by omega) (by omega) (c := [d0, d1, d2, d3, d4]) (seg := [.int .i64 v.f0, .string v.f1, .string v.f2, .slice E3 v.f3.length e3, .slice E4 v.f4.length e4]) (j := 0) (x' := v) (okp := fun k => PP k ∧ k < w.heap.size) rfl hcc0 (by simp [es]) (k25_mkF Z _ v H.out.2.1.kcap (H.out.2.1.bound.below HW.out.below).keys H.out.2.1.icap (H.out.2.1.bound.below HW.out.below).items) (fun k hk => ⟨(HW.out.okp k hk).1, fun e => (HW.out.okp k hk).2 (by rw [e]; simp [Value.ownBlock])⟩)
   have HW5 := Lib.hid (show WS w PP #[.int .i64 f0, .string f1, .string f2, .slice A3 L3 c3, .slice A4 L4 c4] #[.int .i64 v.f0, .string v.f1, .string v.f2, .slice E3 v.f3.length e3, .slice E4 v.f4.length e4] #[.int .i64 0, .string noStr, .string noStr, nilS, nilS] (some (.slice P3 L3 q3, f3)) (some (.slice (some ⟨g4, 0, none⟩) L4 q4, f4.set i v)) (some (g, #[.int .i64 2, .string noStr, .string noStr, .slice P3 L3 q3, .slice (some ⟨g4, 0, none⟩) L4 q4])) (((((Z.setCell ⟨g4, i * 5, none⟩ (.int .i64 v.f0)).setCell ⟨g4, i * 5 + 1, none⟩ (.string v.f1)).setCell ⟨g4, i * 5 + 2, none⟩ (.string v.f2)).setCell ⟨g4, i * 5 + 3, none⟩ (.slice E3 v.f3.length e3)).setCell ⟨g4, i * 5 + 4, none⟩ (.slice E4 v.f4.length e4)) from HW.out.grow4 hseg.1 hseg.2)
   clear hseg hcc0
   obtain ⟨k0, k1, k2, k3, k4⟩ := cl5 (HW5.out.rg _ _ rfl).1
   obtain ⟨r0, r1, r2, r3, r4⟩ := cl5 HW5.out.boxr
   obtain ⟨rz0, rz1, rz2, rz3, rz4⟩ := fz5 HW5.out.boxr
   clear hFK hcc hfr es hcl hi hfi hv5
   go_wp2_with fail
   have hfin := HW5.out.fin 2 noStr noStr (.int .i64 2) (.string noStr) (.string noStr) (.slice P3 L3 q3) (.slice (some ⟨g4, 0, none⟩) f4.length q4) rfl
   refine bodyPost_ret (results_cell_row rfl _ _ (w.heap.size + 1 + 1) 25 #[.int .i64 2, .string noStr, .string noStr, .slice P3 L3 q3, .slice (some ⟨g4, 0, none⟩) f4.length q4] (0, 0) _ rfl hfin.1 Tryz.underlying25 rfl (by kernel_rfl)) rfl ?_
   refine ⟨⟨2, noStr, noStr, f3, f4.set i v⟩, P3, q3, some ⟨g4, 0, none⟩, q4, ?_, ⟨rfl, rfl, rfl, .inl ⟨i, by have := H.out.2.2.2.2.2; show i < f4.length; omega, HF.out.2.2, rfl, rfl⟩⟩, hfin.2.1, hfin.2.2.1⟩
   simp only [ndV, ← hfin.2.2.2.1, ← hfin.2.2.2.2, ← H.out.2.2.2.2.2]
 have HREST := Lib.hid REST
 clear REST HKK
 have hws : WS w PP #[.int .i64 f0, .string f1, .string f2, .slice A3 L3 c3, .slice A4 L4 c4] #[.int .i64 v.f0, .string v.f1, .string v.f2, .slice E3 v.f3.length e3, .slice E4 v.f4.length e4] #[.int .i64 0, .string noStr, .string noStr, nilS, nilS] none none none (((w.alloc (.cells #[.int .i64 f0, .string f1, .string f2, .slice A3 L3 c3, .slice A4 L4 c4] 25)).alloc (.cells #[.int .i64 v.f0, .string v.f1, .string v.f2, .slice E3 v.f3.length e3, .slice E4 v.f4.length e4] 25)).alloc (.cells #[.int .i64 0, .string noStr, .string noStr, nilS, nilS] 25)) :=
  ⟨below_alloc (below_alloc (below_alloc (Below.refl _ _) _) _) _, blk_old _ (blk_old _ (blk_new rfl _)), blk_old _ (blk_new (by simp) _), blk_new (by simp) _, by simp, by simp, by simp⟩
 have HW := Lib.hid hws
 have x3 : (((w.alloc (.cells #[.int .i64 f0, .string f1, .string f2, .slice A3 L3 c3, .slice A4 L4 c4] 25)).alloc (.cells #[.int .i64 v.f0, .string v.f1, .string v.f2, .slice E3 v.f3.length e3, .slice E4 v.f4.length e4] 25)).alloc (.cells #[.int .i64 0, .string noStr, .string noStr, nilS, nilS] 25)).cell? ⟨w.heap.size, 3, none⟩ = some (.slice A3 L3 c3) := (blk_cell hws.boxx 3).trans rfl
 have x4 : (((w.alloc (.cells #[.int .i64 f0, .string f1, .string f2, .slice A3 L3 c3, .slice A4 L4 c4] 25)).alloc (.cells #[.int .i64 v.f0, .string v.f1, .string v.f2, .slice E3 v.f3.length e3, .slice E4 v.f4.length e4] 25)).alloc (.cells #[.int .i64 0, .string noStr, .string noStr, nilS, nilS] 25)).cell? ⟨w.heap.size, 4, none⟩ = some (.slice A4 L4 c4) := (blk_cell hws.boxx 4).trans rfl
 clear hws
 obtain ⟨wz, hwz⟩ : ∃ wz, wz = ((w.alloc (.cells #[.int .i64 f0, .string f1, .string f2, .slice A3 L3 c3, .slice A4 L4 c4] 25)).alloc (.cells #[.int .i64 v.f0, .string v.f1, .string v.f2, .slice E3 v.f3.length e3, .slice E4 v.f4.length e4] 25)).alloc (.cells #[.int .i64 0, .string noStr, .string noStr, nilS, nilS] 25) := ⟨_, rfl⟩
 have hwz' : ((w.alloc (.cells #[.int .i64 f0, .string f1, .string f2, .slice A3 L3 c3, .slice A4 L4 c4] 25)).alloc (.cells #[.int .i64 v.f0, .string v.f1, .string v.f2, .slice E3 v.f3.length e3, .slice E4 v.f4.length e4] 25)).alloc (.cells #[.int .i64 0, .string { data := #[] }, .string { data := #[] }, .slice none 0 0, .slice none 0 0] 25) = wz := hwz.symm
 rw [← hwz] at HW x3 x4
 rw [hwz']
 clear hwz hwz'
 refine start_ (n := 11) (S := fun w' => w'.cell? ⟨w.heap.size, 3, none⟩ = some (.slice A3 L3 c3) ∧ w'.cell? ⟨w.heap.size, 4, none⟩ = some (.slice A4 L4 c4)) (ds := []) #[false, false, false, false, false, false, false, false, false, false, false] (by kernel_rfl) rfl rfl ⟨x3, x4⟩ (fun hHeld => ?_)
 have HW := Lib.hid (HW.out.under (below_drew (Below.refl _ _)))
 refine pu 1 (some 10) (bl 11 2) ?_
 refine pu 5 (some 14) (bl 11 34) ?_
 refine tk 2 (some 11) (bl 11 38) hHeld ?_
 refine tk 6 (some 15) (bl 11 102) hHeld ?_
 refine three_ (i := 0) (j := 4) (k := 9) (Ni := some 9) (Nj := some 13) (Nk := some 7) (bl 11 103) (bl 11 118) (bl 11 614) rfl rfl rfl rfl rfl rfl (by kernel_rfl) (by decide) (by decide) (by decide) (fun K hK => ?_) (fun K hK => ?_) (fun K hK => ?_)
 ·skip
  refine value_ (w1 := ?_) (v := ?_) (by rfl) rfl ?_ ?_
  rotate_left 2
  ·go_simp
   constructor
   ·rfl
   ·rfl
  obtain ⟨gg, hgg, hw⟩ := HW.out.lit3'
  try simp at hgg
  subst hgg
  have HW := Lib.hid hw
  clear hw
  refine hK.out _ _ ⟨(blk_cell HW.out.boxx 3).trans rfl, (blk_cell HW.out.boxx 4).trans rfl⟩ (fun hHeld => ?_)
  clear hK K
  refine nr (some 9) ?_
  refine three_ (i := 3) (j := 4) (k := 9) (Ni := some 12) (Nj := some 13) (Nk := some 7) (bl 11 111) (bl 11 119) (bl 11 615) rfl rfl rfl rfl rfl rfl (by kernel_rfl) (by decide) (by decide) (by decide) (fun K hK => ?_) (fun K hK => ?_) (fun K hK => ?_)
  ·skip
   refine Kd.R_append_rows_step Kd.string (w0 := _) (w.heap.size + 3) (by rfl) _ _ 22 9 (.string ⟨#[]⟩) 16 rfl Tryz.underlying22 info9 rfl (by decide) (by omega) _ [] f3 A3 L3 c3 (fun _ => True) (fun _ => False) (by rfl) (by rfl) (Kd.R_mono (HW.out.r3 _ _ rfl) fun _ _ => trivial) (Rr := fun x cs => cs = [Value.string x]) ?_ (fun x cs h => h) (fun _ h => h.elim) (fun _ _ => trivial) (Below.refl _ _) HW.out.size (by have h1 := H.out.2.2.1; have h2 := H.out.2.2.2.1; have h3 := H.out.2.2.2.2.1; have h4 := H.out.2.2.2.2.2; simp only [List.length_nil, Nat.zero_add]; omega) ?_
   ·have := Kd.C_below H.out.1.now.keys HW.out.below
    rw [← H.out.2.2.2.2.1] at this
    exact this
   intro v1 w1 hr1 hb1 hg1 hat1
   obtain ⟨P3, q3, rfl⟩ : ∃ A c, v1 = .slice A L3 c := by obtain ⟨A, c, e⟩ := Kd.R_slice hr1; exact ⟨A, c, by rw [e, List.nil_append, ← H.out.2.2.2.2.1]⟩
   rw [List.nil_append] at hr1
   have HW := Lib.hid (HW.out.grow3 hr1 hg1 hat1)
   clear hr1 hb1 hg1 hat1
   refine hK.out _ _ ⟨(blk_cell HW.out.boxx 3).trans rfl, (blk_cell HW.out.boxx 4).trans rfl⟩ (fun hHeld => ?_)
   clear hK K
   refine nr (some 12) ?_
   refine two_ (i := 4) (j := 9) (Ni := some 13) (Nj := some 7) (bl 11 127) (bl 11 623) rfl rfl rfl rfl (by kernel_rfl) (by decide) (by decide) (fun K hK => ?_) (fun K hK => ?_)
   ·skip
    refine value_ (w1 := ?_) (v := ?_) (by rfl) rfl ?_ ?_
    rotate_left 2
    ·go_simp
     constructor
     ·rfl
     ·rfl
    obtain ⟨gg, hgg, hw⟩ := HW.out.lit4'
    try simp at hgg
    subst hgg
    have HW := Lib.hid hw
    clear hw
    refine hK.out _ _ ⟨(blk_cell HW.out.boxx 3).trans rfl, (blk_cell HW.out.boxx 4).trans rfl⟩ (fun hHeld => ?_)
    clear hK K
    refine nr (some 13) ?_
    refine two_ (i := 7) (j := 9) (Ni := some 16) (Nj := some 7) (bl 11 255) (bl 11 639) rfl rfl rfl rfl (by kernel_rfl) (by decide) (by decide) (fun K hK => ?_) (fun K hK => ?_)
    ·skip
     refine Kd.N_append_rows_step k25 (w0 := _) (w.heap.size + 3) (by rfl) _ _ 23 25 (.agg #[(.int .i64 0), (.string ⟨#[]⟩), (.string ⟨#[]⟩), (.slice none 0 0), (.slice none 0 0)]) 88 rfl Tryz.underlying23 info25 rfl (by decide) (by omega) _ [] f4 A4 L4 c4 (okS w PP _ _) (fun k => PP k ∧ k < w.heap.size) (by rfl) (by rfl) (HW.out.r4 _ _ rfl) ?_ HW.out.okp HW.out.fresh (Below.refl _ _) HW.out.size (by have h1 := H.out.2.2.1; have h2 := H.out.2.2.2.1; have h3 := H.out.2.2.2.2.1; have h4 := H.out.2.2.2.2.2; simp only [List.length_nil, Nat.zero_add]; omega) ?_
     ·have := Kd.F_below H.out.1.bound.items HW.out.below
      rw [← H.out.2.2.2.2.2] at this
      exact this
     intro v1 w1 hr1 hb1 hg1 hat1
     obtain ⟨P4, q4, rfl⟩ : ∃ A c, v1 = .slice A L4 c := by obtain ⟨A, c, e⟩ := Kd.N_slice hr1; exact ⟨A, c, by rw [e, List.nil_append, ← H.out.2.2.2.2.2]⟩
     rw [List.nil_append] at hr1
     have HW := Lib.hid (HW.out.grow4 hr1 hg1)
     clear hr1 hb1 hg1 hat1
     refine hK.out _ _ ⟨(blk_cell HW.out.boxx 3).trans rfl, (blk_cell HW.out.boxx 4).trans rfl⟩ (fun hHeld => ?_)
     clear hK K
     refine nr (some 16) ?_
     refine pu 8 (some 17) (bl 11 511) ?_
     refine on_ 9 (some 7) (bl 11 1023) fun K hK => ?_
     refine value_ (w1 := ?_) (v := ?_) (by rfl) rfl ?_ ?_
     rotate_left 2
     ·go_simp
      constructor
      ·rfl
      ·rfl
     have HWP := HW
     obtain ⟨gg, hgg, hw⟩ := HW.out.addg' #[.int .i64 0, .string noStr, .string noStr, nilS, nilS]
     try simp at hgg
     subst hgg
     have HW := Lib.hid hw
     clear hw
     refine hK.out _ _ ⟨(blk_cell HW.out.boxx 3).trans rfl, (blk_cell HW.out.boxx 4).trans rfl⟩ (fun hHeld => ?_)
     clear hK K
     refine nr (some 7) ?_
     refine on_ 10 none (bl 11 2047) fun K hK => ?_
     have hgb := (HW.out.rg _ _ rfl).1
     have z0 := blk_frozen hgb 0
     have z1 := blk_frozen hgb 1
     have z2 := blk_frozen hgb 2
     have z3 := blk_frozen hgb 3
     have z4 := blk_frozen hgb 4
     have k0 := blk_cell hgb 0
     have k1 := blk_cell hgb 1
     have k2 := blk_cell hgb 2
     have k3 := blk_cell hgb 3
     have k4 := blk_cell hgb 4
     clear hgb
     refine skip_ (w1 := ?_) (by rfl) rfl ?_ ?_
     rotate_left
     ·go_simp
      rfl
     obtain ⟨gg, hgg, hw⟩ := HWP.out.addg' #[.int .i64 2, .string noStr, .string noStr, .slice P3 L3 q3, .slice P4 L4 q4]
     try simp at hgg
     subst hgg
     have HW := Lib.hid hw
     clear hw
     clear z0 z1 z2 z3 z4 k0 k1 k2 k3 k4
     refine hK.out _ _ ⟨(blk_cell HW.out.boxx 3).trans rfl, (blk_cell HW.out.boxx 4).trans rfl⟩ (fun hHeld => ?_)
     clear hK K
     refine done_ (by kernel_rfl) ?_
     exact HREST.out _ _ _ _ _ _ _ _ _ _ _ _ _ _ _ HW.out
    ·skip
     refine value_ (w1 := ?_) (v := ?_) (by rfl) rfl ?_ ?_
     rotate_left 2
     ·go_simp
      constructor
      ·rfl
      ·rfl
     have HWP := HW
     obtain ⟨gg, hgg, hw⟩ := HW.out.addg' #[.int .i64 0, .string noStr, .string noStr, nilS, nilS]
     try simp at hgg
     subst hgg
     have HW := Lib.hid hw
     clear hw
     refine hK.out _ _ ⟨(blk_cell HW.out.boxx 3).trans rfl, (blk_cell HW.out.boxx 4).trans rfl⟩ (fun hHeld => ?_)
     clear hK K
     refine nr (some 7) ?_
     refine on_ 7 (some 16) (bl 11 767) fun K hK => ?_
     refine Kd.N_append_rows_step k25 (w0 := _) (w.heap.size + 3) (by rfl) _ _ 23 25 (.agg #[(.int .i64 0), (.string ⟨#[]⟩), (.string ⟨#[]⟩), (.slice none 0 0), (.slice none 0 0)]) 88 rfl Tryz.underlying23 info25 rfl (by decide) (by omega) _ [] f4 A4 L4 c4 (okS w PP _ _) (fun k => PP k ∧ k < w.heap.size) (by rfl) (by rfl) (HW.out.r4 _ _ rfl) ?_ HW.out.okp HW.out.fresh (Below.refl _ _) HW.out.size (by have h1 := H.out.2.2.1; have h2 := H.out.2.2.2.1; have h3 := H.out.2.2.2.2.1; have h4 := H.out.2.2.2.2.2; simp only [List.length_nil, Nat.zero_add]; omega) ?_
     ·have := Kd.F_below H.out.1.bound.items HW.out.below
      rw [← H.out.2.2.2.2.2] at this
      exact this
     intro v1 w1 hr1 hb1 hg1 hat1
     obtain ⟨P4, q4, rfl⟩ : ∃ A c, v1 = .slice A L4 c := by obtain ⟨A, c, e⟩ := Kd.N_slice hr1; exact ⟨A, c, by rw [e, List.nil_append, ← H.out.2.2.2.2.2]⟩
     rw [List.nil_append] at hr1
     have HW := Lib.hid (HW.out.grow4 hr1 hg1)
     clear hr1 hb1 hg1 hat1
     refine hK.out _ _ ⟨(blk_cell HW.out.boxx 3).trans rfl, (blk_cell HW.out.boxx 4).trans rfl⟩ (fun hHeld => ?_)
     clear hK K
     refine nr (some 16) ?_
     refine pu 8 (some 17) (bl 11 1023) ?_
     refine on_ 10 none (bl 11 2047) fun K hK => ?_
     have hgb := (HW.out.rg _ _ rfl).1
     have z0 := blk_frozen hgb 0
     have z1 := blk_frozen hgb 1
     have z2 := blk_frozen hgb 2
     have z3 := blk_frozen hgb 3
     have z4 := blk_frozen hgb 4
     have k0 := blk_cell hgb 0
     have k1 := blk_cell hgb 1
     have k2 := blk_cell hgb 2
     have k3 := blk_cell hgb 3
     have k4 := blk_cell hgb 4
     clear hgb
     refine skip_ (w1 := ?_) (by rfl) rfl ?_ ?_
     rotate_left
     ·go_simp
      rfl
     have HW := Lib.hid (HW.out.put (.int .i64 2) (.string noStr) (.string noStr) (.slice P3 L3 q3) (.slice P4 L4 q4))
     clear z0 z1 z2 z3 z4 k0 k1 k2 k3 k4
     refine hK.out _ _ ⟨(blk_cell HW.out.boxx 3).trans rfl, (blk_cell HW.out.boxx 4).trans rfl⟩ (fun hHeld => ?_)
     clear hK K
     refine done_ (by kernel_rfl) ?_
     exact HREST.out _ _ _ _ _ _ _ _ _ _ _ _ _ _ _ HW.out
   ·skip
    refine value_ (w1 := ?_) (v := ?_) (by rfl) rfl ?_ ?_
    rotate_left 2
    ·go_simp
     constructor
     ·rfl
     ·rfl
    have HWP := HW
    obtain ⟨gg, hgg, hw⟩ := HW.out.addg' #[.int .i64 0, .string noStr, .string noStr, nilS, nilS]
    try simp at hgg
    subst hgg
    have HW := Lib.hid hw
    clear hw
    refine hK.out _ _ ⟨(blk_cell HW.out.boxx 3).trans rfl, (blk_cell HW.out.boxx 4).trans rfl⟩ (fun hHeld => ?_)
    clear hK K
    refine nr (some 7) ?_
    refine on_ 4 (some 13) (bl 11 639) fun K hK => ?_
    refine value_ (w1 := ?_) (v := ?_) (by rfl) rfl ?_ ?_
    rotate_left 2
    ·go_simp
     constructor
     ·rfl
     ·rfl
    obtain ⟨gg, hgg, hw⟩ := HW.out.lit4'
    try simp at hgg
    subst hgg
    have HW := Lib.hid hw
    clear hw
    refine hK.out _ _ ⟨(blk_cell HW.out.boxx 3).trans rfl, (blk_cell HW.out.boxx 4).trans rfl⟩ (fun hHeld => ?_)
    clear hK K
    refine nr (some 13) ?_
    refine on_ 7 (some 16) (bl 11 767) fun K hK => ?_
    refine Kd.N_append_rows_step k25 (w0 := _) (w.heap.size + 3) (by rfl) _ _ 23 25 (.agg #[(.int .i64 0), (.string ⟨#[]⟩), (.string ⟨#[]⟩), (.slice none 0 0), (.slice none 0 0)]) 88 rfl Tryz.underlying23 info25 rfl (by decide) (by omega) _ [] f4 A4 L4 c4 (okS w PP _ _) (fun k => PP k ∧ k < w.heap.size) (by rfl) (by rfl) (HW.out.r4 _ _ rfl) ?_ HW.out.okp HW.out.fresh (Below.refl _ _) HW.out.size (by have h1 := H.out.2.2.1; have h2 := H.out.2.2.2.1; have h3 := H.out.2.2.2.2.1; have h4 := H.out.2.2.2.2.2; simp only [List.length_nil, Nat.zero_add]; omega) ?_
    ·have := Kd.F_below H.out.1.bound.items HW.out.below
     rw [← H.out.2.2.2.2.2] at this
     exact this
    intro v1 w1 hr1 hb1 hg1 hat1
    obtain ⟨P4, q4, rfl⟩ : ∃ A c, v1 = .slice A L4 c := by obtain ⟨A, c, e⟩ := Kd.N_slice hr1; exact ⟨A, c, by rw [e, List.nil_append, ← H.out.2.2.2.2.2]⟩
    rw [List.nil_append] at hr1
    have HW := Lib.hid (HW.out.grow4 hr1 hg1)
    clear hr1 hb1 hg1 hat1
    refine hK.out _ _ ⟨(blk_cell HW.out.boxx 3).trans rfl, (blk_cell HW.out.boxx 4).trans rfl⟩ (fun hHeld => ?_)
    clear hK K
    refine nr (some 16) ?_
    refine pu 8 (some 17) (bl 11 1023) ?_
    refine on_ 10 none (bl 11 2047) fun K hK => ?_
    have hgb := (HW.out.rg _ _ rfl).1
    have z0 := blk_frozen hgb 0
    have z1 := blk_frozen hgb 1
    have z2 := blk_frozen hgb 2
    have z3 := blk_frozen hgb 3
    have z4 := blk_frozen hgb 4
    have k0 := blk_cell hgb 0
    have k1 := blk_cell hgb 1
    have k2 := blk_cell hgb 2
    have k3 := blk_cell hgb 3
    have k4 := blk_cell hgb 4
    clear hgb
    refine skip_ (w1 := ?_) (by rfl) rfl ?_ ?_
    rotate_left
    ·go_simp
     rfl
    have HW := Lib.hid (HW.out.put (.int .i64 2) (.string noStr) (.string noStr) (.slice P3 L3 q3) (.slice P4 L4 q4))
    clear z0 z1 z2 z3 z4 k0 k1 k2 k3 k4
    refine hK.out _ _ ⟨(blk_cell HW.out.boxx 3).trans rfl, (blk_cell HW.out.boxx 4).trans rfl⟩ (fun hHeld => ?_)
    clear hK K
    refine done_ (by kernel_rfl) ?_
    exact HREST.out _ _ _ _ _ _ _ _ _ _ _ _ _ _ _ HW.out
  ·skip
   refine value_ (w1 := ?_) (v := ?_) (by rfl) rfl ?_ ?_
   rotate_left 2
   ·go_simp
    constructor
    ·rfl
    ·rfl
   obtain ⟨gg, hgg, hw⟩ := HW.out.lit4'
   try simp at hgg
   subst hgg
   have HW := Lib.hid hw
   clear hw
   refine hK.out _ _ ⟨(blk_cell HW.out.boxx 3).trans rfl, (blk_cell HW.out.boxx 4).trans rfl⟩ (fun hHeld => ?_)
   clear hK K
   refine nr (some 13) ?_
   refine two_ (i := 3) (j := 9) (Ni := some 12) (Nj := some 7) (bl 11 127) (bl 11 631) rfl rfl rfl rfl (by kernel_rfl) (by decide) (by decide) (fun K hK => ?_) (fun K hK => ?_)
   ·skip
    refine Kd.R_append_rows_step Kd.string (w0 := _) (w.heap.size + 3) (by rfl) _ _ 22 9 (.string ⟨#[]⟩) 16 rfl Tryz.underlying22 info9 rfl (by decide) (by omega) _ [] f3 A3 L3 c3 (fun _ => True) (fun _ => False) (by rfl) (by rfl) (Kd.R_mono (HW.out.r3 _ _ rfl) fun _ _ => trivial) (Rr := fun x cs => cs = [Value.string x]) ?_ (fun x cs h => h) (fun _ h => h.elim) (fun _ _ => trivial) (Below.refl _ _) HW.out.size (by have h1 := H.out.2.2.1; have h2 := H.out.2.2.2.1; have h3 := H.out.2.2.2.2.1; have h4 := H.out.2.2.2.2.2; simp only [List.length_nil, Nat.zero_add]; omega) ?_
    ·have := Kd.C_below H.out.1.now.keys HW.out.below
     rw [← H.out.2.2.2.2.1] at this
     exact this
    intro v1 w1 hr1 hb1 hg1 hat1
    obtain ⟨P3, q3, rfl⟩ : ∃ A c, v1 = .slice A L3 c := by obtain ⟨A, c, e⟩ := Kd.R_slice hr1; exact ⟨A, c, by rw [e, List.nil_append, ← H.out.2.2.2.2.1]⟩
    rw [List.nil_append] at hr1
    have HW := Lib.hid (HW.out.grow3 hr1 hg1 hat1)
    clear hr1 hb1 hg1 hat1
    refine hK.out _ _ ⟨(blk_cell HW.out.boxx 3).trans rfl, (blk_cell HW.out.boxx 4).trans rfl⟩ (fun hHeld => ?_)
    clear hK K
    refine nr (some 12) ?_
    refine two_ (i := 7) (j := 9) (Ni := some 16) (Nj := some 7) (bl 11 255) (bl 11 639) rfl rfl rfl rfl (by kernel_rfl) (by decide) (by decide) (fun K hK => ?_) (fun K hK => ?_)
    ·skip
     refine Kd.N_append_rows_step k25 (w0 := _) (w.heap.size + 3) (by rfl) _ _ 23 25 (.agg #[(.int .i64 0), (.string ⟨#[]⟩), (.string ⟨#[]⟩), (.slice none 0 0), (.slice none 0 0)]) 88 rfl Tryz.underlying23 info25 rfl (by decide) (by omega) _ [] f4 A4 L4 c4 (okS w PP _ _) (fun k => PP k ∧ k < w.heap.size) (by rfl) (by rfl) (HW.out.r4 _ _ rfl) ?_ HW.out.okp HW.out.fresh (Below.refl _ _) HW.out.size (by have h1 := H.out.2.2.1; have h2 := H.out.2.2.2.1; have h3 := H.out.2.2.2.2.1; have h4 := H.out.2.2.2.2.2; simp only [List.length_nil, Nat.zero_add]; omega) ?_
     ·have := Kd.F_below H.out.1.bound.items HW.out.below
      rw [← H.out.2.2.2.2.2] at this
      exact this
     intro v1 w1 hr1 hb1 hg1 hat1
     obtain ⟨P4, q4, rfl⟩ : ∃ A c, v1 = .slice A L4 c := by obtain ⟨A, c, e⟩ := Kd.N_slice hr1; exact ⟨A, c, by rw [e, List.nil_append, ← H.out.2.2.2.2.2]⟩
     rw [List.nil_append] at hr1
     have HW := Lib.hid (HW.out.grow4 hr1 hg1)
     clear hr1 hb1 hg1 hat1
     refine hK.out _ _ ⟨(blk_cell HW.out.boxx 3).trans rfl, (blk_cell HW.out.boxx 4).trans rfl⟩ (fun hHeld => ?_)
     clear hK K
     refine nr (some 16) ?_
     refine pu 8 (some 17) (bl 11 511) ?_
     refine on_ 9 (some 7) (bl 11 1023) fun K hK => ?_
     refine value_ (w1 := ?_) (v := ?_) (by rfl) rfl ?_ ?_
     rotate_left 2
     ·go_simp
      constructor
      ·rfl
      ·rfl
     have HWP := HW
     obtain ⟨gg, hgg, hw⟩ := HW.out.addg' #[.int .i64 0, .string noStr, .string noStr, nilS, nilS]
     try simp at hgg
     subst hgg
     have HW := Lib.hid hw
     clear hw
     refine hK.out _ _ ⟨(blk_cell HW.out.boxx 3).trans rfl, (blk_cell HW.out.boxx 4).trans rfl⟩ (fun hHeld => ?_)
     clear hK K
     refine nr (some 7) ?_
     refine on_ 10 none (bl 11 2047) fun K hK => ?_
     have hgb := (HW.out.rg _ _ rfl).1
     have z0 := blk_frozen hgb 0
     have z1 := blk_frozen hgb 1
     have z2 := blk_frozen hgb 2
     have z3 := blk_frozen hgb 3
     have z4 := blk_frozen hgb 4
     have k0 := blk_cell hgb 0
     have k1 := blk_cell hgb 1
     have k2 := blk_cell hgb 2
     have k3 := blk_cell hgb 3
     have k4 := blk_cell hgb 4
     clear hgb
     refine skip_ (w1 := ?_) (by rfl) rfl ?_ ?_
     rotate_left
     ·go_simp
      rfl
     obtain ⟨gg, hgg, hw⟩ := HWP.out.addg' #[.int .i64 2, .string noStr, .string noStr, .slice P3 L3 q3, .slice P4 L4 q4]
     try simp at hgg
     subst hgg
     have HW := Lib.hid hw
     clear hw
     clear z0 z1 z2 z3 z4 k0 k1 k2 k3 k4
     refine hK.out _ _ ⟨(blk_cell HW.out.boxx 3).trans rfl, (blk_cell HW.out.boxx 4).trans rfl⟩ (fun hHeld => ?_)
     clear hK K
     refine done_ (by kernel_rfl) ?_
     exact HREST.out _ _ _ _ _ _ _ _ _ _ _ _ _ _ _ HW.out
    ·skip
     refine value_ (w1 := ?_) (v := ?_) (by rfl) rfl ?_ ?_
     rotate_left 2
     ·go_simp
      constructor
      ·rfl
      ·rfl
     have HWP := HW
     obtain ⟨gg, hgg, hw⟩ := HW.out.addg' #[.int .i64 0, .string noStr, .string noStr, nilS, nilS]
     try simp at hgg
     subst hgg
     have HW := Lib.hid hw
     clear hw
     refine hK.out _ _ ⟨(blk_cell HW.out.boxx 3).trans rfl, (blk_cell HW.out.boxx 4).trans rfl⟩ (fun hHeld => ?_)
     clear hK K
     refine nr (some 7) ?_
     refine on_ 7 (some 16) (bl 11 767) fun K hK => ?_
     refine Kd.N_append_rows_step k25 (w0 := _) (w.heap.size + 3) (by rfl) _ _ 23 25 (.agg #[(.int .i64 0), (.string ⟨#[]⟩), (.string ⟨#[]⟩), (.slice none 0 0), (.slice none 0 0)]) 88 rfl Tryz.underlying23 info25 rfl (by decide) (by omega) _ [] f4 A4 L4 c4 (okS w PP _ _) (fun k => PP k ∧ k < w.heap.size) (by rfl) (by rfl) (HW.out.r4 _ _ rfl) ?_ HW.out.okp HW.out.fresh (Below.refl _ _) HW.out.size (by have h1 := H.out.2.2.1; have h2 := H.out.2.2.2.1; have h3 := H.out.2.2.2.2.1; have h4 := H.out.2.2.2.2.2; simp only [List.length_nil, Nat.zero_add]; omega) ?_
     ·have := Kd.F_below H.out.1.bound.items HW.out.below
      rw [← H.out.2.2.2.2.2] at this
      exact this
     intro v1 w1 hr1 hb1 hg1 hat1
     obtain ⟨P4, q4, rfl⟩ : ∃ A c, v1 = .slice A L4 c := by obtain ⟨A, c, e⟩ := Kd.N_slice hr1; exact ⟨A, c, by rw [e, List.nil_append, ← H.out.2.2.2.2.2]⟩
     rw [List.nil_append] at hr1
     have HW := Lib.hid (HW.out.grow4 hr1 hg1)
     clear hr1 hb1 hg1 hat1
     refine hK.out _ _ ⟨(blk_cell HW.out.boxx 3).trans rfl, (blk_cell HW.out.boxx 4).trans rfl⟩ (fun hHeld => ?_)
     clear hK K
     refine nr (some 16) ?_
     refine pu 8 (some 17) (bl 11 1023) ?_
     refine on_ 10 none (bl 11 2047) fun K hK => ?_
     have hgb := (HW.out.rg _ _ rfl).1
     have z0 := blk_frozen hgb 0
     have z1 := blk_frozen hgb 1
     have z2 := blk_frozen hgb 2
     have z3 := blk_frozen hgb 3
     have z4 := blk_frozen hgb 4
     have k0 := blk_cell hgb 0
     have k1 := blk_cell hgb 1
     have k2 := blk_cell hgb 2
     have k3 := blk_cell hgb 3
     have k4 := blk_cell hgb 4
     clear hgb
     refine skip_ (w1 := ?_) (by rfl) rfl ?_ ?_
     rotate_left
     ·go_simp
      rfl
     have HW := Lib.hid (HW.out.put (.int .i64 2) (.string noStr) (.string noStr) (.slice P3 L3 q3) (.slice P4 L4 q4))
     clear z0 z1 z2 z3 z4 k0 k1 k2 k3 k4
     refine hK.out _ _ ⟨(blk_cell HW.out.boxx 3).trans rfl, (blk_cell HW.out.boxx 4).trans rfl⟩ (fun hHeld => ?_)
     clear hK K
     refine done_ (by kernel_rfl) ?_
     exact HREST.out _ _ _ _ _ _ _ _ _ _ _ _ _ _ _ HW.out
   ·skip
    refine value_ (w1 := ?_) (v := ?_) (by rfl) rfl ?_ ?_
    rotate_left 2
    ·go_simp
     constructor
     ·rfl
     ·rfl
    have HWP := HW
    obtain ⟨gg, hgg, hw⟩ := HW.out.addg' #[.int .i64 0, .string noStr, .string noStr, nilS, nilS]
    try simp at hgg
    subst hgg
    have HW := Lib.hid hw
    clear hw
    refine hK.out _ _ ⟨(blk_cell HW.out.boxx 3).trans rfl, (blk_cell HW.out.boxx 4).trans rfl⟩ (fun hHeld => ?_)
    clear hK K
    refine nr (some 7) ?_
    refine on_ 3 (some 12) (bl 11 639) fun K hK => ?_
    refine Kd.R_append_rows_step Kd.string (w0 := _) (w.heap.size + 3) (by rfl) _ _ 22 9 (.string ⟨#[]⟩) 16 rfl Tryz.underlying22 info9 rfl (by decide) (by omega) _ [] f3 A3 L3 c3 (fun _ => True) (fun _ => False) (by rfl) (by rfl) (Kd.R_mono (HW.out.r3 _ _ rfl) fun _ _ => trivial) (Rr := fun x cs => cs = [Value.string x]) ?_ (fun x cs h => h) (fun _ h => h.elim) (fun _ _ => trivial) (Below.refl _ _) HW.out.size (by have h1 := H.out.2.2.1; have h2 := H.out.2.2.2.1; have h3 := H.out.2.2.2.2.1; have h4 := H.out.2.2.2.2.2; simp only [List.length_nil, Nat.zero_add]; omega) ?_
    ·have := Kd.C_below H.out.1.now.keys HW.out.below
     rw [← H.out.2.2.2.2.1] at this
     exact this
    intro v1 w1 hr1 hb1 hg1 hat1
    obtain ⟨P3, q3, rfl⟩ : ∃ A c, v1 = .slice A L3 c := by obtain ⟨A, c, e⟩ := Kd.R_slice hr1; exact ⟨A, c, by rw [e, List.nil_append, ← H.out.2.2.2.2.1]⟩
    rw [List.nil_append] at hr1
    have HW := Lib.hid (HW.out.grow3 hr1 hg1 hat1)
    clear hr1 hb1 hg1 hat1
    refine hK.out _ _ ⟨(blk_cell HW.out.boxx 3).trans rfl, (blk_cell HW.out.boxx 4).trans rfl⟩ (fun hHeld => ?_)
    clear hK K
    refine nr (some 12) ?_
    refine on_ 7 (some 16) (bl 11 767) fun K hK => ?_
    refine Kd.N_append_rows_step k25 (w0 := _) (w.heap.size + 3) (by rfl) _ _ 23 25 (.agg #[(.int .i64 0), (.string ⟨#[]⟩), (.string ⟨#[]⟩), (.slice none 0 0), (.slice none 0 0)]) 88 rfl Tryz.underlying23 info25 rfl (by decide) (by omega) _ [] f4 A4 L4 c4 (okS w PP _ _) (fun k => PP k ∧ k < w.heap.size) (by rfl) (by rfl) (HW.out.r4 _ _ rfl) ?_ HW.out.okp HW.out.fresh (Below.refl _ _) HW.out.size (by have h1 := H.out.2.2.1; have h2 := H.out.2.2.2.1; have h3 := H.out.2.2.2.2.1; have h4 := H.out.2.2.2.2.2; simp only [List.length_nil, Nat.zero_add]; omega) ?_
    ·have := Kd.F_below H.out.1.bound.items HW.out.below
     rw [← H.out.2.2.2.2.2] at this
     exact this
    intro v1 w1 hr1 hb1 hg1 hat1
    obtain ⟨P4, q4, rfl⟩ : ∃ A c, v1 = .slice A L4 c := by obtain ⟨A, c, e⟩ := Kd.N_slice hr1; exact ⟨A, c, by rw [e, List.nil_append, ← H.out.2.2.2.2.2]⟩
    rw [List.nil_append] at hr1
    have HW := Lib.hid (HW.out.grow4 hr1 hg1)
    clear hr1 hb1 hg1 hat1
    refine hK.out _ _ ⟨(blk_cell HW.out.boxx 3).trans rfl, (blk_cell HW.out.boxx 4).trans rfl⟩ (fun hHeld => ?_)
    clear hK K
    refine nr (some 16) ?_
    refine pu 8 (some 17) (bl 11 1023) ?_
    refine on_ 10 none (bl 11 2047) fun K hK => ?_
    have hgb := (HW.out.rg _ _ rfl).1
    have z0 := blk_frozen hgb 0
    have z1 := blk_frozen hgb 1
    have z2 := blk_frozen hgb 2
    have z3 := blk_frozen hgb 3
    have z4 := blk_frozen hgb 4
    have k0 := blk_cell hgb 0
    have k1 := blk_cell hgb 1
    have k2 := blk_cell hgb 2
    have k3 := blk_cell hgb 3
    have k4 := blk_cell hgb 4
    clear hgb
    refine skip_ (w1 := ?_) (by rfl) rfl ?_ ?_
    rotate_left
    ·go_simp
     rfl
    have HW := Lib.hid (HW.out.put (.int .i64 2) (.string noStr) (.string noStr) (.slice P3 L3 q3) (.slice P4 L4 q4))
    clear z0 z1 z2 z3 z4 k0 k1 k2 k3 k4
    refine hK.out _ _ ⟨(blk_cell HW.out.boxx 3).trans rfl, (blk_cell HW.out.boxx 4).trans rfl⟩ (fun hHeld => ?_)
    clear hK K
    refine done_ (by kernel_rfl) ?_
    exact HREST.out _ _ _ _ _ _ _ _ _ _ _ _ _ _ _ HW.out
  ·skip
   refine value_ (w1 := ?_) (v := ?_) (by rfl) rfl ?_ ?_
   rotate_left 2
   ·go_simp
    constructor
    ·rfl
    ·rfl
   have HWP := HW
   obtain ⟨gg, hgg, hw⟩ := HW.out.addg' #[.int .i64 0, .string noStr, .string noStr, nilS, nilS]
   try simp at hgg
   subst hgg
   have HW := Lib.hid hw
   clear hw
   refine hK.out _ _ ⟨(blk_cell HW.out.boxx 3).trans rfl, (blk_cell HW.out.boxx 4).trans rfl⟩ (fun hHeld => ?_)
   clear hK K
   refine nr (some 7) ?_
   refine two_ (i := 3) (j := 4) (Ni := some 12) (Nj := some 13) (bl 11 623) (bl 11 631) rfl rfl rfl rfl (by kernel_rfl) (by decide) (by decide) (fun K hK => ?_) (fun K hK => ?_)
   ·skip
    refine Kd.R_append_rows_step Kd.string (w0 := _) (w.heap.size + 3) (by rfl) _ _ 22 9 (.string ⟨#[]⟩) 16 rfl Tryz.underlying22 info9 rfl (by decide) (by omega) _ [] f3 A3 L3 c3 (fun _ => True) (fun _ => False) (by rfl) (by rfl) (Kd.R_mono (HW.out.r3 _ _ rfl) fun _ _ => trivial) (Rr := fun x cs => cs = [Value.string x]) ?_ (fun x cs h => h) (fun _ h => h.elim) (fun _ _ => trivial) (Below.refl _ _) HW.out.size (by have h1 := H.out.2.2.1; have h2 := H.out.2.2.2.1; have h3 := H.out.2.2.2.2.1; have h4 := H.out.2.2.2.2.2; simp only [List.length_nil, Nat.zero_add]; omega) ?_
    ·have := Kd.C_below H.out.1.now.keys HW.out.below
     rw [← H.out.2.2.2.2.1] at this
     exact this
    intro v1 w1 hr1 hb1 hg1 hat1
    obtain ⟨P3, q3, rfl⟩ : ∃ A c, v1 = .slice A L3 c := by obtain ⟨A, c, e⟩ := Kd.R_slice hr1; exact ⟨A, c, by rw [e, List.nil_append, ← H.out.2.2.2.2.1]⟩
    rw [List.nil_append] at hr1
    have HW := Lib.hid (HW.out.grow3 hr1 hg1 hat1)
    clear hr1 hb1 hg1 hat1
    refine hK.out _ _ ⟨(blk_cell HW.out.boxx 3).trans rfl, (blk_cell HW.out.boxx 4).trans rfl⟩ (fun hHeld => ?_)
    clear hK K
    refine nr (some 12) ?_
    refine on_ 4 (some 13) (bl 11 639) fun K hK => ?_
    refine value_ (w1 := ?_) (v := ?_) (by rfl) rfl ?_ ?_
    rotate_left 2
    ·go_simp
     constructor
     ·rfl
     ·rfl
    obtain ⟨gg, hgg, hw⟩ := HW.out.lit4'
    try simp at hgg
    subst hgg
    have HW := Lib.hid hw
    clear hw
    refine hK.out _ _ ⟨(blk_cell HW.out.boxx 3).trans rfl, (blk_cell HW.out.boxx 4).trans rfl⟩ (fun hHeld => ?_)
    clear hK K
    refine nr (some 13) ?_
    refine on_ 7 (some 16) (bl 11 767) fun K hK => ?_
    refine Kd.N_append_rows_step k25 (w0 := _) (w.heap.size + 3) (by rfl) _ _ 23 25 (.agg #[(.int .i64 0), (.string ⟨#[]⟩), (.string ⟨#[]⟩), (.slice none 0 0), (.slice none 0 0)]) 88 rfl Tryz.underlying23 info25 rfl (by decide) (by omega) _ [] f4 A4 L4 c4 (okS w PP _ _) (fun k => PP k ∧ k < w.heap.size) (by rfl) (by rfl) (HW.out.r4 _ _ rfl) ?_ HW.out.okp HW.out.fresh (Below.refl _ _) HW.out.size (by have h1 := H.out.2.2.1; have h2 := H.out.2.2.2.1; have h3 := H.out.2.2.2.2.1; have h4 := H.out.2.2.2.2.2; simp only [List.length_nil, Nat.zero_add]; omega) ?_
    ·have := Kd.F_below H.out.1.bound.items HW.out.below
     rw [← H.out.2.2.2.2.2] at this
     exact this
    intro v1 w1 hr1 hb1 hg1 hat1
    obtain ⟨P4, q4, rfl⟩ : ∃ A c, v1 = .slice A L4 c := by obtain ⟨A, c, e⟩ := Kd.N_slice hr1; exact ⟨A, c, by rw [e, List.nil_append, ← H.out.2.2.2.2.2]⟩
    rw [List.nil_append] at hr1
    have HW := Lib.hid (HW.out.grow4 hr1 hg1)
    clear hr1 hb1 hg1 hat1
    refine hK.out _ _ ⟨(blk_cell HW.out.boxx 3).trans rfl, (blk_cell HW.out.boxx 4).trans rfl⟩ (fun hHeld => ?_)
    clear hK K
    refine nr (some 16) ?_
    refine pu 8 (some 17) (bl 11 1023) ?_
    refine on_ 10 none (bl 11 2047) fun K hK => ?_
    have hgb := (HW.out.rg _ _ rfl).1
    have z0 := blk_frozen hgb 0
    have z1 := blk_frozen hgb 1
    have z2 := blk_frozen hgb 2
    have z3 := blk_frozen hgb 3
    have z4 := blk_frozen hgb 4
    have k0 := blk_cell hgb 0
    have k1 := blk_cell hgb 1
    have k2 := blk_cell hgb 2
    have k3 := blk_cell hgb 3
    have k4 := blk_cell hgb 4
    clear hgb
    refine skip_ (w1 := ?_) (by rfl) rfl ?_ ?_
    rotate_left
    ·go_simp
     rfl
    have HW := Lib.hid (HW.out.put (.int .i64 2) (.string noStr) (.string noStr) (.slice P3 L3 q3) (.slice P4 L4 q4))
    clear z0 z1 z2 z3 z4 k0 k1 k2 k3 k4
    refine hK.out _ _ ⟨(blk_cell HW.out.boxx 3).trans rfl, (blk_cell HW.out.boxx 4).trans rfl⟩ (fun hHeld => ?_)
    clear hK K
    refine done_ (by kernel_rfl) ?_
    exact HREST.out _ _ _ _ _ _ _ _ _ _ _ _ _ _ _ HW.out
   ·skip
    refine value_ (w1 := ?_) (v := ?_) (by rfl) rfl ?_ ?_
    rotate_left 2
    ·go_simp
     constructor
     ·rfl
     ·rfl
    obtain ⟨gg, hgg, hw⟩ := HW.out.lit4'
    try simp at hgg
    subst hgg
    have HW := Lib.hid hw
    clear hw
    refine hK.out _ _ ⟨(blk_cell HW.out.boxx 3).trans rfl, (blk_cell HW.out.boxx 4).trans rfl⟩ (fun hHeld => ?_)
    clear hK K
    refine nr (some 13) ?_
    refine on_ 3 (some 12) (bl 11 639) fun K hK => ?_
    refine Kd.R_append_rows_step Kd.string (w0 := _) (w.heap.size + 3) (by rfl) _ _ 22 9 (.string ⟨#[]⟩) 16 rfl Tryz.underlying22 info9 rfl (by decide) (by omega) _ [] f3 A3 L3 c3 (fun _ => True) (fun _ => False) (by rfl) (by rfl) (Kd.R_mono (HW.out.r3 _ _ rfl) fun _ _ => trivial) (Rr := fun x cs => cs = [Value.string x]) ?_ (fun x cs h => h) (fun _ h => h.elim) (fun _ _ => trivial) (Below.refl _ _) HW.out.size (by have h1 := H.out.2.2.1; have h2 := H.out.2.2.2.1; have h3 := H.out.2.2.2.2.1; have h4 := H.out.2.2.2.2.2; simp only [List.length_nil, Nat.zero_add]; omega) ?_
    ·have := Kd.C_below H.out.1.now.keys HW.out.below
     rw [← H.out.2.2.2.2.1] at this
     exact this
    intro v1 w1 hr1 hb1 hg1 hat1
    obtain ⟨P3, q3, rfl⟩ : ∃ A c, v1 = .slice A L3 c := by obtain ⟨A, c, e⟩ := Kd.R_slice hr1; exact ⟨A, c, by rw [e, List.nil_append, ← H.out.2.2.2.2.1]⟩
    rw [List.nil_append] at hr1
    have HW := Lib.hid (HW.out.grow3 hr1 hg1 hat1)
    clear hr1 hb1 hg1 hat1
    refine hK.out _ _ ⟨(blk_cell HW.out.boxx 3).trans rfl, (blk_cell HW.out.boxx 4).trans rfl⟩ (fun hHeld => ?_)
    clear hK K
    refine nr (some 12) ?_
    refine on_ 7 (some 16) (bl 11 767) fun K hK => ?_
    refine Kd.N_append_rows_step k25 (w0 := _) (w.heap.size + 3) (by rfl) _ _ 23 25 (.agg #[(.int .i64 0), (.string ⟨#[]⟩), (.string ⟨#[]⟩), (.slice none 0 0), (.slice none 0 0)]) 88 rfl Tryz.underlying23 info25 rfl (by decide) (by omega) _ [] f4 A4 L4 c4 (okS w PP _ _) (fun k => PP k ∧ k < w.heap.size) (by rfl) (by rfl) (HW.out.r4 _ _ rfl) ?_ HW.out.okp HW.out.fresh (Below.refl _ _) HW.out.size (by have h1 := H.out.2.2.1; have h2 := H.out.2.2.2.1; have h3 := H.out.2.2.2.2.1; have h4 := H.out.2.2.2.2.2; simp only [List.length_nil, Nat.zero_add]; omega) ?_
    ·have := Kd.F_below H.out.1.bound.items HW.out.below
     rw [← H.out.2.2.2.2.2] at this
     exact this
    intro v1 w1 hr1 hb1 hg1 hat1
    obtain ⟨P4, q4, rfl⟩ : ∃ A c, v1 = .slice A L4 c := by obtain ⟨A, c, e⟩ := Kd.N_slice hr1; exact ⟨A, c, by rw [e, List.nil_append, ← H.out.2.2.2.2.2]⟩
    rw [List.nil_append] at hr1
    have HW := Lib.hid (HW.out.grow4 hr1 hg1)
    clear hr1 hb1 hg1 hat1
    refine hK.out _ _ ⟨(blk_cell HW.out.boxx 3).trans rfl, (blk_cell HW.out.boxx 4).trans rfl⟩ (fun hHeld => ?_)
    clear hK K
    refine nr (some 16) ?_
    refine pu 8 (some 17) (bl 11 1023) ?_
    refine on_ 10 none (bl 11 2047) fun K hK => ?_
    have hgb := (HW.out.rg _ _ rfl).1
    have z0 := blk_frozen hgb 0
    have z1 := blk_frozen hgb 1
    have z2 := blk_frozen hgb 2
    have z3 := blk_frozen hgb 3
    have z4 := blk_frozen hgb 4
    have k0 := blk_cell hgb 0
    have k1 := blk_cell hgb 1
    have k2 := blk_cell hgb 2
    have k3 := blk_cell hgb 3
    have k4 := blk_cell hgb 4
    clear hgb
    refine skip_ (w1 := ?_) (by rfl) rfl ?_ ?_
    rotate_left
    ·go_simp
     rfl
    have HW := Lib.hid (HW.out.put (.int .i64 2) (.string noStr) (.string noStr) (.slice P3 L3 q3) (.slice P4 L4 q4))
    clear z0 z1 z2 z3 z4 k0 k1 k2 k3 k4
    refine hK.out _ _ ⟨(blk_cell HW.out.boxx 3).trans rfl, (blk_cell HW.out.boxx 4).trans rfl⟩ (fun hHeld => ?_)
    clear hK K
    refine done_ (by kernel_rfl) ?_
    exact HREST.out _ _ _ _ _ _ _ _ _ _ _ _ _ _ _ HW.out
 ·skip
  refine value_ (w1 := ?_) (v := ?_) (by rfl) rfl ?_ ?_
  rotate_left 2
  ·go_simp
   constructor
   ·rfl
   ·rfl
  obtain ⟨gg, hgg, hw⟩ := HW.out.lit4'
  try simp at hgg
  subst hgg
  have HW := Lib.hid hw
  clear hw
  refine hK.out _ _ ⟨(blk_cell HW.out.boxx 3).trans rfl, (blk_cell HW.out.boxx 4).trans rfl⟩ (fun hHeld => ?_)
  clear hK K
  refine nr (some 13) ?_
  refine two_ (i := 0) (j := 9) (Ni := some 9) (Nj := some 7) (bl 11 119) (bl 11 630) rfl rfl rfl rfl (by kernel_rfl) (by decide) (by decide) (fun K hK => ?_) (fun K hK => ?_)
  ·skip
   refine value_ (w1 := ?_) (v := ?_) (by rfl) rfl ?_ ?_
   rotate_left 2
   ·go_simp
    constructor
    ·rfl
    ·rfl
   obtain ⟨gg, hgg, hw⟩ := HW.out.lit3'
   try simp at hgg
   subst hgg
   have HW := Lib.hid hw
   clear hw
   refine hK.out _ _ ⟨(blk_cell HW.out.boxx 3).trans rfl, (blk_cell HW.out.boxx 4).trans rfl⟩ (fun hHeld => ?_)
   clear hK K
   refine nr (some 9) ?_
   refine two_ (i := 3) (j := 9) (Ni := some 12) (Nj := some 7) (bl 11 127) (bl 11 631) rfl rfl rfl rfl (by kernel_rfl) (by decide) (by decide) (fun K hK => ?_) (fun K hK => ?_)
   ·skip
    refine Kd.R_append_rows_step Kd.string (w0 := _) (w.heap.size + 3) (by rfl) _ _ 22 9 (.string ⟨#[]⟩) 16 rfl Tryz.underlying22 info9 rfl (by decide) (by omega) _ [] f3 A3 L3 c3 (fun _ => True) (fun _ => False) (by rfl) (by rfl) (Kd.R_mono (HW.out.r3 _ _ rfl) fun _ _ => trivial) (Rr := fun x cs => cs = [Value.string x]) ?_ (fun x cs h => h) (fun _ h => h.elim) (fun _ _ => trivial) (Below.refl _ _) HW.out.size (by have h1 := H.out.2.2.1; have h2 := H.out.2.2.2.1; have h3 := H.out.2.2.2.2.1; have h4 := H.out.2.2.2.2.2; simp only [List.length_nil, Nat.zero_add]; omega) ?_
    ·have := Kd.C_below H.out.1.now.keys HW.out.below
     rw [← H.out.2.2.2.2.1] at this
     exact this
    intro v1 w1 hr1 hb1 hg1 hat1
    obtain ⟨P3, q3, rfl⟩ : ∃ A c, v1 = .slice A L3 c := by obtain ⟨A, c, e⟩ := Kd.R_slice hr1; exact ⟨A, c, by rw [e, List.nil_append, ← H.out.2.2.2.2.1]⟩
    rw [List.nil_append] at hr1
    have HW := Lib.hid (HW.out.grow3 hr1 hg1 hat1)
    clear hr1 hb1 hg1 hat1
    refine hK.out _ _ ⟨(blk_cell HW.out.boxx 3).trans rfl, (blk_cell HW.out.boxx 4).trans rfl⟩ (fun hHeld => ?_)
    clear hK K
    refine nr (some 12) ?_
    refine two_ (i := 7) (j := 9) (Ni := some 16) (Nj := some 7) (bl 11 255) (bl 11 639) rfl rfl rfl rfl (by kernel_rfl) (by decide) (by decide) (fun K hK => ?_) (fun K hK => ?_)
    ·skip
     refine Kd.N_append_rows_step k25 (w0 := _) (w.heap.size + 3) (by rfl) _ _ 23 25 (.agg #[(.int .i64 0), (.string ⟨#[]⟩), (.string ⟨#[]⟩), (.slice none 0 0), (.slice none 0 0)]) 88 rfl Tryz.underlying23 info25 rfl (by decide) (by omega) _ [] f4 A4 L4 c4 (okS w PP _ _) (fun k => PP k ∧ k < w.heap.size) (by rfl) (by rfl) (HW.out.r4 _ _ rfl) ?_ HW.out.okp HW.out.fresh (Below.refl _ _) HW.out.size (by have h1 := H.out.2.2.1; have h2 := H.out.2.2.2.1; have h3 := H.out.2.2.2.2.1; have h4 := H.out.2.2.2.2.2; simp only [List.length_nil, Nat.zero_add]; omega) ?_
     ·have := Kd.F_below H.out.1.bound.items HW.out.below
      rw [← H.out.2.2.2.2.2] at this
      exact this
     intro v1 w1 hr1 hb1 hg1 hat1
     obtain ⟨P4, q4, rfl⟩ : ∃ A c, v1 = .slice A L4 c := by obtain ⟨A, c, e⟩ := Kd.N_slice hr1; exact ⟨A, c, by rw [e, List.nil_append, ← H.out.2.2.2.2.2]⟩
     rw [List.nil_append] at hr1
     have HW := Lib.hid (HW.out.grow4 hr1 hg1)
     clear hr1 hb1 hg1 hat1
     refine hK.out _ _ ⟨(blk_cell HW.out.boxx 3).trans rfl, (blk_cell HW.out.boxx 4).trans rfl⟩ (fun hHeld => ?_)
     clear hK K
     refine nr (some 16) ?_
     refine pu 8 (some 17) (bl 11 511) ?_
     refine on_ 9 (some 7) (bl 11 1023) fun K hK => ?_
     refine value_ (w1 := ?_) (v := ?_) (by rfl) rfl ?_ ?_
     rotate_left 2
     ·go_simp
      constructor
      ·rfl
      ·rfl
     have HWP := HW
     obtain ⟨gg, hgg, hw⟩ := HW.out.addg' #[.int .i64 0, .string noStr, .string noStr, nilS, nilS]
     try simp at hgg
     subst hgg
     have HW := Lib.hid hw
     clear hw
     refine hK.out _ _ ⟨(blk_cell HW.out.boxx 3).trans rfl, (blk_cell HW.out.boxx 4).trans rfl⟩ (fun hHeld => ?_)
     clear hK K
     refine nr (some 7) ?_
     refine on_ 10 none (bl 11 2047) fun K hK => ?_
     have hgb := (HW.out.rg _ _ rfl).1
     have z0 := blk_frozen hgb 0
     have z1 := blk_frozen hgb 1
     have z2 := blk_frozen hgb 2
     have z3 := blk_frozen hgb 3
     have z4 := blk_frozen hgb 4
     have k0 := blk_cell hgb 0
     have k1 := blk_cell hgb 1
     have k2 := blk_cell hgb 2
     have k3 := blk_cell hgb 3
     have k4 := blk_cell hgb 4
     clear hgb
     refine skip_ (w1 := ?_) (by rfl) rfl ?_ ?_
     rotate_left
     ·go_simp
      rfl
     obtain ⟨gg, hgg, hw⟩ := HWP.out.addg' #[.int .i64 2, .string noStr, .string noStr, .slice P3 L3 q3, .slice P4 L4 q4]
     try simp at hgg
     subst hgg
     have HW := Lib.hid hw
     clear hw
     clear z0 z1 z2 z3 z4 k0 k1 k2 k3 k4
     refine hK.out _ _ ⟨(blk_cell HW.out.boxx 3).trans rfl, (blk_cell HW.out.boxx 4).trans rfl⟩ (fun hHeld => ?_)
     clear hK K
     refine done_ (by kernel_rfl) ?_
     exact HREST.out _ _ _ _ _ _ _ _ _ _ _ _ _ _ _ HW.out
    ·skip
     refine value_ (w1 := ?_) (v := ?_) (by rfl) rfl ?_ ?_
     rotate_left 2
     ·go_simp
      constructor
      ·rfl
      ·rfl
     have HWP := HW
     obtain ⟨gg, hgg, hw⟩ := HW.out.addg' #[.int .i64 0, .string noStr, .string noStr, nilS, nilS]
     try simp at hgg
     subst hgg
     have HW := Lib.hid hw
     clear hw
     refine hK.out _ _ ⟨(blk_cell HW.out.boxx 3).trans rfl, (blk_cell HW.out.boxx 4).trans rfl⟩ (fun hHeld => ?_)
     clear hK K
     refine nr (some 7) ?_
     refine on_ 7 (some 16) (bl 11 767) fun K hK => ?_
     refine Kd.N_append_rows_step k25 (w0 := _) (w.heap.size + 3) (by rfl) _ _ 23 25 (.agg #[(.int .i64 0), (.string ⟨#[]⟩), (.string ⟨#[]⟩), (.slice none 0 0), (.slice none 0 0)]) 88 rfl Tryz.underlying23 info25 rfl (by decide) (by omega) _ [] f4 A4 L4 c4 (okS w PP _ _) (fun k => PP k ∧ k < w.heap.size) (by rfl) (by rfl) (HW.out.r4 _ _ rfl) ?_ HW.out.okp HW.out.fresh (Below.refl _ _) HW.out.size (by have h1 := H.out.2.2.1; have h2 := H.out.2.2.2.1; have h3 := H.out.2.2.2.2.1; have h4 := H.out.2.2.2.2.2; simp only [List.length_nil, Nat.zero_add]; omega) ?_
     ·have := Kd.F_below H.out.1.bound.items HW.out.below
      rw [← H.out.2.2.2.2.2] at this
      exact this
     intro v1 w1 hr1 hb1 hg1 hat1
     obtain ⟨P4, q4, rfl⟩ : ∃ A c, v1 = .slice A L4 c := by obtain ⟨A, c, e⟩ := Kd.N_slice hr1; exact ⟨A, c, by rw [e, List.nil_append, ← H.out.2.2.2.2.2]⟩
     rw [List.nil_append] at hr1
     have HW := Lib.hid (HW.out.grow4 hr1 hg1)
     clear hr1 hb1 hg1 hat1
     refine hK.out _ _ ⟨(blk_cell HW.out.boxx 3).trans rfl, (blk_cell HW.out.boxx 4).trans rfl⟩ (fun hHeld => ?_)
     clear hK K
     refine nr (some 16) ?_
     refine pu 8 (some 17) (bl 11 1023) ?_
     refine on_ 10 none (bl 11 2047) fun K hK => ?_
     have hgb := (HW.out.rg _ _ rfl).1
     have z0 := blk_frozen hgb 0
     have z1 := blk_frozen hgb 1
     have z2 := blk_frozen hgb 2
     have z3 := blk_frozen hgb 3
     have z4 := blk_frozen hgb 4
     have k0 := blk_cell hgb 0
     have k1 := blk_cell hgb 1
     have k2 := blk_cell hgb 2
     have k3 := blk_cell hgb 3
     have k4 := blk_cell hgb 4
     clear hgb
     refine skip_ (w1 := ?_) (by rfl) rfl ?_ ?_
     rotate_left
     ·go_simp
      rfl
     have HW := Lib.hid (HW.out.put (.int .i64 2) (.string noStr) (.string noStr) (.slice P3 L3 q3) (.slice P4 L4 q4))
     clear z0 z1 z2 z3 z4 k0 k1 k2 k3 k4
     refine hK.out _ _ ⟨(blk_cell HW.out.boxx 3).trans rfl, (blk_cell HW.out.boxx 4).trans rfl⟩ (fun hHeld => ?_)
     clear hK K
     refine done_ (by kernel_rfl) ?_
     exact HREST.out _ _ _ _ _ _ _ _ _ _ _ _ _ _ _ HW.out
   ·skip
    refine value_ (w1 := ?_) (v := ?_) (by rfl) rfl ?_ ?_
    rotate_left 2
    ·go_simp
     constructor
     ·rfl
     ·rfl
    have HWP := HW
    obtain ⟨gg, hgg, hw⟩ := HW.out.addg' #[.int .i64 0, .string noStr, .string noStr, nilS, nilS]
    try simp at hgg
    subst hgg
    have HW := Lib.hid hw
    clear hw
    refine hK.out _ _ ⟨(blk_cell HW.out.boxx 3).trans rfl, (blk_cell HW.out.boxx 4).trans rfl⟩ (fun hHeld => ?_)
    clear hK K
    refine nr (some 7) ?_
    refine on_ 3 (some 12) (bl 11 639) fun K hK => ?_
    refine Kd.R_append_rows_step Kd.string (w0 := _) (w.heap.size + 3) (by rfl) _ _ 22 9 (.string ⟨#[]⟩) 16 rfl Tryz.underlying22 info9 rfl (by decide) (by omega) _ [] f3 A3 L3 c3 (fun _ => True) (fun _ => False) (by rfl) (by rfl) (Kd.R_mono (HW.out.r3 _ _ rfl) fun _ _ => trivial) (Rr := fun x cs => cs = [Value.string x]) ?_ (fun x cs h => h) (fun _ h => h.elim) (fun _ _ => trivial) (Below.refl _ _) HW.out.size (by have h1 := H.out.2.2.1; have h2 := H.out.2.2.2.1; have h3 := H.out.2.2.2.2.1; have h4 := H.out.2.2.2.2.2; simp only [List.length_nil, Nat.zero_add]; omega) ?_
    ·have := Kd.C_below H.out.1.now.keys HW.out.below
     rw [← H.out.2.2.2.2.1] at this
     exact this
    intro v1 w1 hr1 hb1 hg1 hat1
    obtain ⟨P3, q3, rfl⟩ : ∃ A c, v1 = .slice A L3 c := by obtain ⟨A, c, e⟩ := Kd.R_slice hr1; exact ⟨A, c, by rw [e, List.nil_append, ← H.out.2.2.2.2.1]⟩
    rw [List.nil_append] at hr1
    have HW := Lib.hid (HW.out.grow3 hr1 hg1 hat1)
    clear hr1 hb1 hg1 hat1
    refine hK.out _ _ ⟨(blk_cell HW.out.boxx 3).trans rfl, (blk_cell HW.out.boxx 4).trans rfl⟩ (fun hHeld => ?_)
    clear hK K
    refine nr (some 12) ?_
    refine on_ 7 (some 16) (bl 11 767) fun K hK => ?_
    refine Kd.N_append_rows_step k25 (w0 := _) (w.heap.size + 3) (by rfl) _ _ 23 25 (.agg #[(.int .i64 0), (.string ⟨#[]⟩), (.string ⟨#[]⟩), (.slice none 0 0), (.slice none 0 0)]) 88 rfl Tryz.underlying23 info25 rfl (by decide) (by omega) _ [] f4 A4 L4 c4 (okS w PP _ _) (fun k => PP k ∧ k < w.heap.size) (by rfl) (by rfl) (HW.out.r4 _ _ rfl) ?_ HW.out.okp HW.out.fresh (Below.refl _ _) HW.out.size (by have h1 := H.out.2.2.1; have h2 := H.out.2.2.2.1; have h3 := H.out.2.2.2.2.1; have h4 := H.out.2.2.2.2.2; simp only [List.length_nil, Nat.zero_add]; omega) ?_
    ·have := Kd.F_below H.out.1.bound.items HW.out.below
     rw [← H.out.2.2.2.2.2] at this
     exact this
    intro v1 w1 hr1 hb1 hg1 hat1
    obtain ⟨P4, q4, rfl⟩ : ∃ A c, v1 = .slice A L4 c := by obtain ⟨A, c, e⟩ := Kd.N_slice hr1; exact ⟨A, c, by rw [e, List.nil_append, ← H.out.2.2.2.2.2]⟩
    rw [List.nil_append] at hr1
    have HW := Lib.hid (HW.out.grow4 hr1 hg1)
    clear hr1 hb1 hg1 hat1
    refine hK.out _ _ ⟨(blk_cell HW.out.boxx 3).trans rfl, (blk_cell HW.out.boxx 4).trans rfl⟩ (fun hHeld => ?_)
    clear hK K
    refine nr (some 16) ?_
    refine pu 8 (some 17) (bl 11 1023) ?_
    refine on_ 10 none (bl 11 2047) fun K hK => ?_
    have hgb := (HW.out.rg _ _ rfl).1
    have z0 := blk_frozen hgb 0
    have z1 := blk_frozen hgb 1
    have z2 := blk_frozen hgb 2
    have z3 := blk_frozen hgb 3
    have z4 := blk_frozen hgb 4
    have k0 := blk_cell hgb 0
    have k1 := blk_cell hgb 1
    have k2 := blk_cell hgb 2
    have k3 := blk_cell hgb 3
    have k4 := blk_cell hgb 4
    clear hgb
    refine skip_ (w1 := ?_) (by rfl) rfl ?_ ?_
    rotate_left
    ·go_simp
     rfl
    have HW := Lib.hid (HW.out.put (.int .i64 2) (.string noStr) (.string noStr) (.slice P3 L3 q3) (.slice P4 L4 q4))
    clear z0 z1 z2 z3 z4 k0 k1 k2 k3 k4
    refine hK.out _ _ ⟨(blk_cell HW.out.boxx 3).trans rfl, (blk_cell HW.out.boxx 4).trans rfl⟩ (fun hHeld => ?_)
    clear hK K
    refine done_ (by kernel_rfl) ?_
    exact HREST.out _ _ _ _ _ _ _ _ _ _ _ _ _ _ _ HW.out
  ·skip
   refine value_ (w1 := ?_) (v := ?_) (by rfl) rfl ?_ ?_
   rotate_left 2
   ·go_simp
    constructor
    ·rfl
    ·rfl
   have HWP := HW
   obtain ⟨gg, hgg, hw⟩ := HW.out.addg' #[.int .i64 0, .string noStr, .string noStr, nilS, nilS]
   try simp at hgg
   subst hgg
   have HW := Lib.hid hw
   clear hw
   refine hK.out _ _ ⟨(blk_cell HW.out.boxx 3).trans rfl, (blk_cell HW.out.boxx 4).trans rfl⟩ (fun hHeld => ?_)
   clear hK K
   refine nr (some 7) ?_
   refine on_ 0 (some 9) (bl 11 631) fun K hK => ?_
   refine value_ (w1 := ?_) (v := ?_) (by rfl) rfl ?_ ?_
   rotate_left 2
   ·go_simp
    constructor
    ·rfl
    ·rfl
   obtain ⟨gg, hgg, hw⟩ := HW.out.lit3'
   try simp at hgg
   subst hgg
   have HW := Lib.hid hw
   clear hw
   refine hK.out _ _ ⟨(blk_cell HW.out.boxx 3).trans rfl, (blk_cell HW.out.boxx 4).trans rfl⟩ (fun hHeld => ?_)
   clear hK K
   refine nr (some 9) ?_
   refine on_ 3 (some 12) (bl 11 639) fun K hK => ?_
   refine Kd.R_append_rows_step Kd.string (w0 := _) (w.heap.size + 3) (by rfl) _ _ 22 9 (.string ⟨#[]⟩) 16 rfl Tryz.underlying22 info9 rfl (by decide) (by omega) _ [] f3 A3 L3 c3 (fun _ => True) (fun _ => False) (by rfl) (by rfl) (Kd.R_mono (HW.out.r3 _ _ rfl) fun _ _ => trivial) (Rr := fun x cs => cs = [Value.string x]) ?_ (fun x cs h => h) (fun _ h => h.elim) (fun _ _ => trivial) (Below.refl _ _) HW.out.size (by have h1 := H.out.2.2.1; have h2 := H.out.2.2.2.1; have h3 := H.out.2.2.2.2.1; have h4 := H.out.2.2.2.2.2; simp only [List.length_nil, Nat.zero_add]; omega) ?_
   ·have := Kd.C_below H.out.1.now.keys HW.out.below
    rw [← H.out.2.2.2.2.1] at this
    exact this
   intro v1 w1 hr1 hb1 hg1 hat1
   obtain ⟨P3, q3, rfl⟩ : ∃ A c, v1 = .slice A L3 c := by obtain ⟨A, c, e⟩ := Kd.R_slice hr1; exact ⟨A, c, by rw [e, List.nil_append, ← H.out.2.2.2.2.1]⟩
   rw [List.nil_append] at hr1
   have HW := Lib.hid (HW.out.grow3 hr1 hg1 hat1)
   clear hr1 hb1 hg1 hat1
   refine hK.out _ _ ⟨(blk_cell HW.out.boxx 3).trans rfl, (blk_cell HW.out.boxx 4).trans rfl⟩ (fun hHeld => ?_)
   clear hK K
   refine nr (some 12) ?_
   refine on_ 7 (some 16) (bl 11 767) fun K hK => ?_
   refine Kd.N_append_rows_step k25 (w0 := _) (w.heap.size + 3) (by rfl) _ _ 23 25 (.agg #[(.int .i64 0), (.string ⟨#[]⟩), (.string ⟨#[]⟩), (.slice none 0 0), (.slice none 0 0)]) 88 rfl Tryz.underlying23 info25 rfl (by decide) (by omega) _ [] f4 A4 L4 c4 (okS w PP _ _) (fun k => PP k ∧ k < w.heap.size) (by rfl) (by rfl) (HW.out.r4 _ _ rfl) ?_ HW.out.okp HW.out.fresh (Below.refl _ _) HW.out.size (by have h1 := H.out.2.2.1; have h2 := H.out.2.2.2.1; have h3 := H.out.2.2.2.2.1; have h4 := H.out.2.2.2.2.2; simp only [List.length_nil, Nat.zero_add]; omega) ?_
   ·have := Kd.F_below H.out.1.bound.items HW.out.below
    rw [← H.out.2.2.2.2.2] at this
    exact this
   intro v1 w1 hr1 hb1 hg1 hat1
   obtain ⟨P4, q4, rfl⟩ : ∃ A c, v1 = .slice A L4 c := by obtain ⟨A, c, e⟩ := Kd.N_slice hr1; exact ⟨A, c, by rw [e, List.nil_append, ← H.out.2.2.2.2.2]⟩
   rw [List.nil_append] at hr1
   have HW := Lib.hid (HW.out.grow4 hr1 hg1)
   clear hr1 hb1 hg1 hat1
   refine hK.out _ _ ⟨(blk_cell HW.out.boxx 3).trans rfl, (blk_cell HW.out.boxx 4).trans rfl⟩ (fun hHeld => ?_)
   clear hK K
   refine nr (some 16) ?_
   refine pu 8 (some 17) (bl 11 1023) ?_
   refine on_ 10 none (bl 11 2047) fun K hK => ?_
   have hgb := (HW.out.rg _ _ rfl).1
   have z0 := blk_frozen hgb 0
   have z1 := blk_frozen hgb 1
   have z2 := blk_frozen hgb 2
   have z3 := blk_frozen hgb 3
   have z4 := blk_frozen hgb 4
   have k0 := blk_cell hgb 0
   have k1 := blk_cell hgb 1
   have k2 := blk_cell hgb 2
   have k3 := blk_cell hgb 3
   have k4 := blk_cell hgb 4
   clear hgb
   refine skip_ (w1 := ?_) (by rfl) rfl ?_ ?_
   rotate_left
   ·go_simp
    rfl
   have HW := Lib.hid (HW.out.put (.int .i64 2) (.string noStr) (.string noStr) (.slice P3 L3 q3) (.slice P4 L4 q4))
   clear z0 z1 z2 z3 z4 k0 k1 k2 k3 k4
   refine hK.out _ _ ⟨(blk_cell HW.out.boxx 3).trans rfl, (blk_cell HW.out.boxx 4).trans rfl⟩ (fun hHeld => ?_)
   clear hK K
   refine done_ (by kernel_rfl) ?_
   exact HREST.out _ _ _ _ _ _ _ _ _ _ _ _ _ _ _ HW.out
 ·skip
  refine value_ (w1 := ?_) (v := ?_) (by rfl) rfl ?_ ?_
  rotate_left 2
  ·go_simp
   constructor
   ·rfl
   ·rfl
  have HWP := HW
  obtain ⟨gg, hgg, hw⟩ := HW.out.addg' #[.int .i64 0, .string noStr, .string noStr, nilS, nilS]
  try simp at hgg
  subst hgg
  have HW := Lib.hid hw
  clear hw
  refine hK.out _ _ ⟨(blk_cell HW.out.boxx 3).trans rfl, (blk_cell HW.out.boxx 4).trans rfl⟩ (fun hHeld => ?_)
  clear hK K
  refine nr (some 7) ?_
  refine two_ (i := 0) (j := 4) (Ni := some 9) (Nj := some 13) (bl 11 615) (bl 11 630) rfl rfl rfl rfl (by kernel_rfl) (by decide) (by decide) (fun K hK => ?_) (fun K hK => ?_)
  ·skip
   refine value_ (w1 := ?_) (v := ?_) (by rfl) rfl ?_ ?_
   rotate_left 2
   ·go_simp
    constructor
    ·rfl
    ·rfl
   obtain ⟨gg, hgg, hw⟩ := HW.out.lit3'
   try simp at hgg
   subst hgg
   have HW := Lib.hid hw
   clear hw
   refine hK.out _ _ ⟨(blk_cell HW.out.boxx 3).trans rfl, (blk_cell HW.out.boxx 4).trans rfl⟩ (fun hHeld => ?_)
   clear hK K
   refine nr (some 9) ?_
   refine two_ (i := 3) (j := 4) (Ni := some 12) (Nj := some 13) (bl 11 623) (bl 11 631) rfl rfl rfl rfl (by kernel_rfl) (by decide) (by decide) (fun K hK => ?_) (fun K hK => ?_)
   ·skip
    refine Kd.R_append_rows_step Kd.string (w0 := _) (w.heap.size + 3) (by rfl) _ _ 22 9 (.string ⟨#[]⟩) 16 rfl Tryz.underlying22 info9 rfl (by decide) (by omega) _ [] f3 A3 L3 c3 (fun _ => True) (fun _ => False) (by rfl) (by rfl) (Kd.R_mono (HW.out.r3 _ _ rfl) fun _ _ => trivial) (Rr := fun x cs => cs = [Value.string x]) ?_ (fun x cs h => h) (fun _ h => h.elim) (fun _ _ => trivial) (Below.refl _ _) HW.out.size (by have h1 := H.out.2.2.1; have h2 := H.out.2.2.2.1; have h3 := H.out.2.2.2.2.1; have h4 := H.out.2.2.2.2.2; simp only [List.length_nil, Nat.zero_add]; omega) ?_
    ·have := Kd.C_below H.out.1.now.keys HW.out.below
     rw [← H.out.2.2.2.2.1] at this
     exact this
    intro v1 w1 hr1 hb1 hg1 hat1
    obtain ⟨P3, q3, rfl⟩ : ∃ A c, v1 = .slice A L3 c := by obtain ⟨A, c, e⟩ := Kd.R_slice hr1; exact ⟨A, c, by rw [e, List.nil_append, ← H.out.2.2.2.2.1]⟩
    rw [List.nil_append] at hr1
    have HW := Lib.hid (HW.out.grow3 hr1 hg1 hat1)
    clear hr1 hb1 hg1 hat1
    refine hK.out _ _ ⟨(blk_cell HW.out.boxx 3).trans rfl, (blk_cell HW.out.boxx 4).trans rfl⟩ (fun hHeld => ?_)
    clear hK K
    refine nr (some 12) ?_
    refine on_ 4 (some 13) (bl 11 639) fun K hK => ?_
    refine value_ (w1 := ?_) (v := ?_) (by rfl) rfl ?_ ?_
    rotate_left 2
    ·go_simp
     constructor
     ·rfl
     ·rfl
    obtain ⟨gg, hgg, hw⟩ := HW.out.lit4'
    try simp at hgg
    subst hgg
    have HW := Lib.hid hw
    clear hw
    refine hK.out _ _ ⟨(blk_cell HW.out.boxx 3).trans rfl, (blk_cell HW.out.boxx 4).trans rfl⟩ (fun hHeld => ?_)
    clear hK K
    refine nr (some 13) ?_
    refine on_ 7 (some 16) (bl 11 767) fun K hK => ?_
    refine Kd.N_append_rows_step k25 (w0 := _) (w.heap.size + 3) (by rfl) _ _ 23 25 (.agg #[(.int .i64 0), (.string ⟨#[]⟩), (.string ⟨#[]⟩), (.slice none 0 0), (.slice none 0 0)]) 88 rfl Tryz.underlying23 info25 rfl (by decide) (by omega) _ [] f4 A4 L4 c4 (okS w PP _ _) (fun k => PP k ∧ k < w.heap.size) (by rfl) (by rfl) (HW.out.r4 _ _ rfl) ?_ HW.out.okp HW.out.fresh (Below.refl _ _) HW.out.size (by have h1 := H.out.2.2.1; have h2 := H.out.2.2.2.1; have h3 := H.out.2.2.2.2.1; have h4 := H.out.2.2.2.2.2; simp only [List.length_nil, Nat.zero_add]; omega) ?_
    ·have := Kd.F_below H.out.1.bound.items HW.out.below
     rw [← H.out.2.2.2.2.2] at this
     exact this
    intro v1 w1 hr1 hb1 hg1 hat1
    obtain ⟨P4, q4, rfl⟩ : ∃ A c, v1 = .slice A L4 c := by obtain ⟨A, c, e⟩ := Kd.N_slice hr1; exact ⟨A, c, by rw [e, List.nil_append, ← H.out.2.2.2.2.2]⟩
    rw [List.nil_append] at hr1
    have HW := Lib.hid (HW.out.grow4 hr1 hg1)
    clear hr1 hb1 hg1 hat1
    refine hK.out _ _ ⟨(blk_cell HW.out.boxx 3).trans rfl, (blk_cell HW.out.boxx 4).trans rfl⟩ (fun hHeld => ?_)
    clear hK K
    refine nr (some 16) ?_
    refine pu 8 (some 17) (bl 11 1023) ?_
    refine on_ 10 none (bl 11 2047) fun K hK => ?_
    have hgb := (HW.out.rg _ _ rfl).1
    have z0 := blk_frozen hgb 0
    have z1 := blk_frozen hgb 1
    have z2 := blk_frozen hgb 2
    have z3 := blk_frozen hgb 3
    have z4 := blk_frozen hgb 4
    have k0 := blk_cell hgb 0
    have k1 := blk_cell hgb 1
    have k2 := blk_cell hgb 2
    have k3 := blk_cell hgb 3
    have k4 := blk_cell hgb 4
    clear hgb
    refine skip_ (w1 := ?_) (by rfl) rfl ?_ ?_
    rotate_left
    ·go_simp
     rfl
    have HW := Lib.hid (HW.out.put (.int .i64 2) (.string noStr) (.string noStr) (.slice P3 L3 q3) (.slice P4 L4 q4))
    clear z0 z1 z2 z3 z4 k0 k1 k2 k3 k4
    refine hK.out _ _ ⟨(blk_cell HW.out.boxx 3).trans rfl, (blk_cell HW.out.boxx 4).trans rfl⟩ (fun hHeld => ?_)
    clear hK K
    refine done_ (by kernel_rfl) ?_
    exact HREST.out _ _ _ _ _ _ _ _ _ _ _ _ _ _ _ HW.out
   ·skip
    refine value_ (w1 := ?_) (v := ?_) (by rfl) rfl ?_ ?_
    rotate_left 2
    ·go_simp
     constructor
     ·rfl
     ·rfl
    obtain ⟨gg, hgg, hw⟩ := HW.out.lit4'
    try simp at hgg
    subst hgg
    have HW := Lib.hid hw
    clear hw
    refine hK.out _ _ ⟨(blk_cell HW.out.boxx 3).trans rfl, (blk_cell HW.out.boxx 4).trans rfl⟩ (fun hHeld => ?_)
    clear hK K
    refine nr (some 13) ?_
    refine on_ 3 (some 12) (bl 11 639) fun K hK => ?_
    refine Kd.R_append_rows_step Kd.string (w0 := _) (w.heap.size + 3) (by rfl) _ _ 22 9 (.string ⟨#[]⟩) 16 rfl Tryz.underlying22 info9 rfl (by decide) (by omega) _ [] f3 A3 L3 c3 (fun _ => True) (fun _ => False) (by rfl) (by rfl) (Kd.R_mono (HW.out.r3 _ _ rfl) fun _ _ => trivial) (Rr := fun x cs => cs = [Value.string x]) ?_ (fun x cs h => h) (fun _ h => h.elim) (fun _ _ => trivial) (Below.refl _ _) HW.out.size (by have h1 := H.out.2.2.1; have h2 := H.out.2.2.2.1; have h3 := H.out.2.2.2.2.1; have h4 := H.out.2.2.2.2.2; simp only [List.length_nil, Nat.zero_add]; omega) ?_
    ·have := Kd.C_below H.out.1.now.keys HW.out.below
     rw [← H.out.2.2.2.2.1] at this
     exact this
    intro v1 w1 hr1 hb1 hg1 hat1
    obtain ⟨P3, q3, rfl⟩ : ∃ A c, v1 = .slice A L3 c := by obtain ⟨A, c, e⟩ := Kd.R_slice hr1; exact ⟨A, c, by rw [e, List.nil_append, ← H.out.2.2.2.2.1]⟩
    rw [List.nil_append] at hr1
    have HW := Lib.hid (HW.out.grow3 hr1 hg1 hat1)
    clear hr1 hb1 hg1 hat1
    refine hK.out _ _ ⟨(blk_cell HW.out.boxx 3).trans rfl, (blk_cell HW.out.boxx 4).trans rfl⟩ (fun hHeld => ?_)
    clear hK K
    refine nr (some 12) ?_
    refine on_ 7 (some 16) (bl 11 767) fun K hK => ?_
    refine Kd.N_append_rows_step k25 (w0 := _) (w.heap.size + 3) (by rfl) _ _ 23 25 (.agg #[(.int .i64 0), (.string ⟨#[]⟩), (.string ⟨#[]⟩), (.slice none 0 0), (.slice none 0 0)]) 88 rfl Tryz.underlying23 info25 rfl (by decide) (by omega) _ [] f4 A4 L4 c4 (okS w PP _ _) (fun k => PP k ∧ k < w.heap.size) (by rfl) (by rfl) (HW.out.r4 _ _ rfl) ?_ HW.out.okp HW.out.fresh (Below.refl _ _) HW.out.size (by have h1 := H.out.2.2.1; have h2 := H.out.2.2.2.1; have h3 := H.out.2.2.2.2.1; have h4 := H.out.2.2.2.2.2; simp only [List.length_nil, Nat.zero_add]; omega) ?_
    ·have := Kd.F_below H.out.1.bound.items HW.out.below
     rw [← H.out.2.2.2.2.2] at this
     exact this
    intro v1 w1 hr1 hb1 hg1 hat1
    obtain ⟨P4, q4, rfl⟩ : ∃ A c, v1 = .slice A L4 c := by obtain ⟨A, c, e⟩ := Kd.N_slice hr1; exact ⟨A, c, by rw [e, List.nil_append, ← H.out.2.2.2.2.2]⟩
    rw [List.nil_append] at hr1
    have HW := Lib.hid (HW.out.grow4 hr1 hg1)
    clear hr1 hb1 hg1 hat1
    refine hK.out _ _ ⟨(blk_cell HW.out.boxx 3).trans rfl, (blk_cell HW.out.boxx 4).trans rfl⟩ (fun hHeld => ?_)
    clear hK K
    refine nr (some 16) ?_
    refine pu 8 (some 17) (bl 11 1023) ?_
    refine on_ 10 none (bl 11 2047) fun K hK => ?_
    have hgb := (HW.out.rg _ _ rfl).1
    have z0 := blk_frozen hgb 0
    have z1 := blk_frozen hgb 1
    have z2 := blk_frozen hgb 2
    have z3 := blk_frozen hgb 3
    have z4 := blk_frozen hgb 4
    have k0 := blk_cell hgb 0
    have k1 := blk_cell hgb 1
    have k2 := blk_cell hgb 2
    have k3 := blk_cell hgb 3
    have k4 := blk_cell hgb 4
    clear hgb
    refine skip_ (w1 := ?_) (by rfl) rfl ?_ ?_
    rotate_left
    ·go_simp
     rfl
    have HW := Lib.hid (HW.out.put (.int .i64 2) (.string noStr) (.string noStr) (.slice P3 L3 q3) (.slice P4 L4 q4))
    clear z0 z1 z2 z3 z4 k0 k1 k2 k3 k4
    refine hK.out _ _ ⟨(blk_cell HW.out.boxx 3).trans rfl, (blk_cell HW.out.boxx 4).trans rfl⟩ (fun hHeld => ?_)
    clear hK K
    refine done_ (by kernel_rfl) ?_
    exact HREST.out _ _ _ _ _ _ _ _ _ _ _ _ _ _ _ HW.out
  ·skip
   refine value_ (w1 := ?_) (v := ?_) (by rfl) rfl ?_ ?_
   rotate_left 2
   ·go_simp
    constructor
    ·rfl
    ·rfl
   obtain ⟨gg, hgg, hw⟩ := HW.out.lit4'
   try simp at hgg
   subst hgg
   have HW := Lib.hid hw
   clear hw
   refine hK.out _ _ ⟨(blk_cell HW.out.boxx 3).trans rfl, (blk_cell HW.out.boxx 4).trans rfl⟩ (fun hHeld => ?_)
   clear hK K
   refine nr (some 13) ?_
   refine on_ 0 (some 9) (bl 11 631) fun K hK => ?_
   refine value_ (w1 := ?_) (v := ?_) (by rfl) rfl ?_ ?_
   rotate_left 2
   ·go_simp
    constructor
    ·rfl
    ·rfl
   obtain ⟨gg, hgg, hw⟩ := HW.out.lit3'
   try simp at hgg
   subst hgg
   have HW := Lib.hid hw
   clear hw
   refine hK.out _ _ ⟨(blk_cell HW.out.boxx 3).trans rfl, (blk_cell HW.out.boxx 4).trans rfl⟩ (fun hHeld => ?_)
   clear hK K
   refine nr (some 9) ?_
   refine on_ 3 (some 12) (bl 11 639) fun K hK => ?_
   refine Kd.R_append_rows_step Kd.string (w0 := _) (w.heap.size + 3) (by rfl) _ _ 22 9 (.string ⟨#[]⟩) 16 rfl Tryz.underlying22 info9 rfl (by decide) (by omega) _ [] f3 A3 L3 c3 (fun _ => True) (fun _ => False) (by rfl) (by rfl) (Kd.R_mono (HW.out.r3 _ _ rfl) fun _ _ => trivial) (Rr := fun x cs => cs = [Value.string x]) ?_ (fun x cs h => h) (fun _ h => h.elim) (fun _ _ => trivial) (Below.refl _ _) HW.out.size (by have h1 := H.out.2.2.1; have h2 := H.out.2.2.2.1; have h3 := H.out.2.2.2.2.1; have h4 := H.out.2.2.2.2.2; simp only [List.length_nil, Nat.zero_add]; omega) ?_
   ·have := Kd.C_below H.out.1.now.keys HW.out.below
    rw [← H.out.2.2.2.2.1] at this
    exact this
   intro v1 w1 hr1 hb1 hg1 hat1
   obtain ⟨P3, q3, rfl⟩ : ∃ A c, v1 = .slice A L3 c := by obtain ⟨A, c, e⟩ := Kd.R_slice hr1; exact ⟨A, c, by rw [e, List.nil_append, ← H.out.2.2.2.2.1]⟩
   rw [List.nil_append] at hr1
   have HW := Lib.hid (HW.out.grow3 hr1 hg1 hat1)
   clear hr1 hb1 hg1 hat1
   refine hK.out _ _ ⟨(blk_cell HW.out.boxx 3).trans rfl, (blk_cell HW.out.boxx 4).trans rfl⟩ (fun hHeld => ?_)
   clear hK K
   refine nr (some 12) ?_
   refine on_ 7 (some 16) (bl 11 767) fun K hK => ?_
   refine Kd.N_append_rows_step k25 (w0 := _) (w.heap.size + 3) (by rfl) _ _ 23 25 (.agg #[(.int .i64 0), (.string ⟨#[]⟩), (.string ⟨#[]⟩), (.slice none 0 0), (.slice none 0 0)]) 88 rfl Tryz.underlying23 info25 rfl (by decide) (by omega) _ [] f4 A4 L4 c4 (okS w PP _ _) (fun k => PP k ∧ k < w.heap.size) (by rfl) (by rfl) (HW.out.r4 _ _ rfl) ?_ HW.out.okp HW.out.fresh (Below.refl _ _) HW.out.size (by have h1 := H.out.2.2.1; have h2 := H.out.2.2.2.1; have h3 := H.out.2.2.2.2.1; have h4 := H.out.2.2.2.2.2; simp only [List.length_nil, Nat.zero_add]; omega) ?_
   ·have := Kd.F_below H.out.1.bound.items HW.out.below
    rw [← H.out.2.2.2.2.2] at this
    exact this
   intro v1 w1 hr1 hb1 hg1 hat1
   obtain ⟨P4, q4, rfl⟩ : ∃ A c, v1 = .slice A L4 c := by obtain ⟨A, c, e⟩ := Kd.N_slice hr1; exact ⟨A, c, by rw [e, List.nil_append, ← H.out.2.2.2.2.2]⟩
   rw [List.nil_append] at hr1
   have HW := Lib.hid (HW.out.grow4 hr1 hg1)
   clear hr1 hb1 hg1 hat1
   refine hK.out _ _ ⟨(blk_cell HW.out.boxx 3).trans rfl, (blk_cell HW.out.boxx 4).trans rfl⟩ (fun hHeld => ?_)
   clear hK K
   refine nr (some 16) ?_
   refine pu 8 (some 17) (bl 11 1023) ?_
   refine on_ 10 none (bl 11 2047) fun K hK => ?_
   have hgb := (HW.out.rg _ _ rfl).1
   have z0 := blk_frozen hgb 0
   have z1 := blk_frozen hgb 1
   have z2 := blk_frozen hgb 2
   have z3 := blk_frozen hgb 3
   have z4 := blk_frozen hgb 4
   have k0 := blk_cell hgb 0
   have k1 := blk_cell hgb 1
   have k2 := blk_cell hgb 2
   have k3 := blk_cell hgb 3
   have k4 := blk_cell hgb 4
   clear hgb
   refine skip_ (w1 := ?_) (by rfl) rfl ?_ ?_
   rotate_left
   ·go_simp
    rfl
   have HW := Lib.hid (HW.out.put (.int .i64 2) (.string noStr) (.string noStr) (.slice P3 L3 q3) (.slice P4 L4 q4))
   clear z0 z1 z2 z3 z4 k0 k1 k2 k3 k4
   refine hK.out _ _ ⟨(blk_cell HW.out.boxx 3).trans rfl, (blk_cell HW.out.boxx 4).trans rfl⟩ (fun hHeld => ?_)
   clear hK K
   refine done_ (by kernel_rfl) ?_
   exact HREST.out _ _ _ _ _ _ _ _ _ _ _ _ _ _ _ HW.out
end Go.Proofs.YtghmajlfmoggfaaGreat
