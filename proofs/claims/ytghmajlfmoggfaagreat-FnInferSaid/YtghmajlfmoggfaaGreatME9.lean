import Derived.Test.YtghmajlfmoggfaaGreatME4
set_option linter.unusedSimpArgs false
set_option linter.unusedVariables false
namespace Go.Proofs.YtghmajlfmoggfaaGreat
open Go.RowKit Go.Proofs.YtghmajlfmoggfaaGreatW.PrintWords Go.Proofs.YtghmajlfmoggfaaGreatW.PrintLast PFnMerge
theorem bytes_ext {a b : ByteArray} (h : a.data.toList = b.data.toList) : a = b := by
 cases a; cases b; simp at h; rw [h]
theorem kid_unique {K : List Kid} (h : (K.map (·.key)).Nodup) {c c' : Kid} (hc : c ∈ K) (hc' : c' ∈ K) (he : c.key = c'.key) : c = c' := by
 induction K with
 | nil => cases hc
 | cons a r ih =>
  simp only [List.map_cons, List.nodup_cons] at h
  simp only [List.mem_cons] at hc hc'
  rcases hc with rfl | hc <;> rcases hc' with rfl | hc'
  ·rfl
  ·exact absurd (List.mem_map.2 ⟨c', hc', he.symm⟩) h.1
  ·exact absurd (List.mem_map.2 ⟨c, hc, he⟩) h.1
  ·exact ih h.2 hc hc'
variable {lim n b : Nat} {kd ks : List Kid} {Fd Fs : Nat → Prop} {P : List (List UInt8)} {C : Value} {K : List Kid} {w w' : World}
def Kid.upd (key : ByteArray) (y : S25) (G : Nat → Prop) (c : Kid) : Kid := ⟨c.key, c.kb, c.cb, open Classical in if c.key = key then y else c.y, fun k => c.F k ∨ c.key = key ∧ G k⟩
theorem upd_two (key : ByteArray) (y : S25) (G : Nat → Prop) (K : List Kid) : (K.map (Kid.upd key y G)).flatMap Kid.two = K.flatMap Kid.two := by
 induction K with
 | nil => rfl
 | cons a r ih => simp only [List.map_cons, List.flatMap_cons, ih]; rfl
theorem upd_keys (key : ByteArray) (y : S25) (G : Nat → Prop) (K : List Kid) : (K.map (Kid.upd key y G)).map (·.key) = K.map (·.key) := by
 rw [List.map_map]; rfl
end Go.Proofs.YtghmajlfmoggfaaGreat
namespace Go.Proofs.YtghmajlfmoggfaaGreat
open Go.RowKit Go.Proofs.YtghmajlfmoggfaaGreatW.PrintWords Go.Proofs.YtghmajlfmoggfaaGreatW.PrintLast PFnMerge
theorem pair_dis {l : List Kid} (h : l.Pairwise fun c d => ∀ k, c.F k → d.F k → False) {a b : Kid} (ha : a ∈ l) (hb : b ∈ l) (hne : a.key ≠ b.key) : ∀ k, a.F k → b.F k → False := by
 induction l with
 | nil => cases ha
 | cons x r ih =>
  simp only [List.pairwise_cons] at h
  simp only [List.mem_cons] at ha hb
  rcases ha with rfl | ha <;> rcases hb with rfl | hb
  ·exact absurd rfl hne
  ·exact h.1 b hb
  ·exact fun k h1 h2 => h.1 a ha k h2 h1
  ·exact ih h.2 ha hb
theorem zip_kid {kids : List Kid} {key : ByteArray} {v : S25} : (key, v) ∈ (kids.map (·.key)).zip (kids.map (·.y)) ↔ ∃ c ∈ kids, c.key = key ∧ c.y = v := by
 induction kids with
 | nil => simp
 | cons a r ih => simp only [List.map_cons, List.zip_cons_cons, List.mem_cons, ih, Prod.mk.injEq]; grind
theorem find_none_key {kids : List Kid} {name : ByteArray} (h : name ∉ kids.map (·.key)) : kids.find? (hasKey name) = none := by
 rw [List.find?_eq_none]
 intro x hx hk
 exact h (List.mem_map.2 ⟨x, hx, hasKey_iff.1 hk⟩)
structure TI (pairs : Bool) (w0 : World) (nb : Nat) (cs : Array Value) (kk : Int) (keys : List ByteArray) (items : List S25) (j : Nat) (C : Value) (kids : List Kid) (w : World) : Prop where
 below : Below w0.heap.size w0 w
 nb_lt : w0.heap.size < nb
 box : w.heap[w0.heap.size]? = some (.cells cs 25 (0, 0))
 node : NodeB w nb kk noStr noStr C
 row : w.ownsRow (nb + 1) 69 1 C (if pairs then 2 * j else j) ((if pairs then kids.flatMap Kid.two else kids.map (·.cb)).map ptrV)
 len : kids.length = j
 ks : pairs = true → kids.map (·.key) = keys.take j
 ys : kids.map (·.y) = items.take j
 dis : kids.Pairwise fun c d => ∀ k, c.F k → d.F k → False
 kid : ∀ c ∈ kids, (pairs = true → NodeB w c.kb 8 noStr c.key nilS ∧ c.F c.kb) ∧ ∀ k, c.F k → nb < k ∧ C.ownBlock ≠ some k ∧ k < w.heap.size
 rep : ∀ c ∈ kids, Rep w c.cb c.y (fun k => c.F k ∧ (pairs = true → k ≠ c.kb))
section
variable {pairs : Bool} {w0 w w' : World} {nb : Nat} {cs : Array Value} {kk : Int} {keys : List ByteArray} {items : List S25} {j : Nat} {C : Value} {kids : List Kid}
theorem TI.under (h : TI pairs w0 nb cs kk keys items j C kids w) (hb : Below w.heap.size w w') : TI pairs w0 nb cs kk keys items j C kids w' :=
 ⟨h.below.trans (hb.mono h.below.size), h.nb_lt, (hb.block _ (lt_of_block h.box)).trans h.box, h.node.under hb, own_move h.row fun k hk => hb.block k (own_lt h.row k hk), h.len, h.ks, h.ys, h.dis,
  fun c hc => ⟨fun hp => ⟨((h.kid c hc).1 hp).1.under hb, ((h.kid c hc).1 hp).2⟩, fun k hF => by
   obtain ⟨q1, q2, q3⟩ := (h.kid c hc).2 k hF
   exact ⟨q1, q2, Nat.lt_of_lt_of_le q3 hb.size⟩⟩, fun c hc => (h.rep c hc).under hb⟩
theorem TI.push (h : TI pairs w0 nb cs kk keys items j C kids w) {kb cb : Nat} {key : ByteArray} {y : S25} {G : Nat → Prop} {v1 : Value} {w4 : World} {base : Nat}
  (hbase : base ≤ w.heap.size) (hold : ∀ c ∈ kids, ∀ k, c.F k → k < base) (hCb : ∀ k, C.ownBlock = some k → k < base) (hnb : nb < base)
  (hkey : pairs = true → keys[j]? = some key ∧ base ≤ kb ∧ NodeB w kb 8 noStr key nilS ∧ ¬ G kb) (hy : items[j]? = some y) (hrep : Rep w cb y G) (hG : ∀ k, G k → base ≤ k ∧ k < w.heap.size)
  (hown : w4.ownsRow (nb + 1) 69 1 v1 ((if pairs then 2 * j else j) + (if pairs then 2 else 1)) ((if pairs then kids.flatMap Kid.two else kids.map (·.cb)).map ptrV ++ (if pairs then [ptrV kb, ptrV cb] else [ptrV cb])))
  (hg : w.grownBy w4 C.ownBlock) (hat : v1.ownBlock = C.ownBlock ∨ ∃ b, v1.ownBlock = some b ∧ w.heap.size ≤ b) :
  TI pairs w0 nb cs kk keys items (j + 1) v1 (kids ++ [⟨key, kb, cb, y, fun k => (pairs = true ∧ k = kb) ∨ G k⟩]) (w4.setCell ⟨nb, 6, none⟩ v1) := by
 have hnode4 : NodeB w4 nb kk noStr noStr C := (hg.block nb h.node.lt (fun e => own_ne h.row h.node (by decide) e)).trans h.node
 have hvC : ∀ k, k < w.heap.size → C.ownBlock ≠ some k → v1.ownBlock ≠ some k := fun k hl hc => by
  rcases hat with h1 | ⟨b, h1, h2⟩
  ·rw [h1]; exact hc
  ·rw [h1]; intro e; injection e with e; omega
 have hfar : ∀ k, k < w.heap.size → C.ownBlock ≠ some k → k ≠ nb → (w4.setCell ⟨nb, 6, none⟩ v1).heap[k]? = w.heap[k]? := fun k hl hc hn =>
  (Below.heap_setCell w4 ⟨nb, 6, none⟩ v1 k hn).trans (hg.block k hl (fun e => hc e.symm))
 have hGC : ∀ k, G k → C.ownBlock ≠ some k := fun k hk hc => by have := hCb k hc; have := (hG k hk).1; omega
 have hnbg : ∀ k, G k → k ≠ nb := fun k hk e => by have := (hG k hk).1; omega
 refine ⟨?_, h.nb_lt, ?_, ?_, ?_, by simp [h.len], fun hp => ?_, ?_, ?_, ?_, ?_⟩
 ·exact (h.below.grown hg h.below.size fun k hk => by have := own_base h.row k hk; have := h.nb_lt; omega).setCell (by show w0.heap.size ≤ nb; have := h.nb_lt; omega) _
 ·refine (hfar _ (lt_of_block h.box) (fun hc => ?_) (by have := h.nb_lt; omega)).trans h.box
  have := own_base h.row _ hc
  have := h.nb_lt
  omega
 ·refine (blk_set hnode4 6 _).trans ?_
  simp only [nd, List.setIfInBounds_toArray, List.set_cons_zero, List.set_cons_succ]
 ·have h2 := own_setCell hown (p := ⟨nb, 6, none⟩) (show some nb ≠ _ from own_ne hown hnode4 (by decide)) v1
  cases pairs
  ·simpa [Kid.two] using h2
  ·simpa [Kid.two, Nat.mul_add] using h2
 ·rw [List.map_append, h.ks hp, List.take_add_one, (hkey hp).1]; rfl
 ·rw [List.map_append, h.ys, List.take_add_one, hy]; rfl
 ·rw [List.pairwise_append]
  refine ⟨h.dis, by simp, fun c hc d hd k h1 h2 => ?_⟩
  simp only [List.mem_singleton] at hd
  subst hd
  have hk := hold c hc k h1
  rcases h2 with ⟨hp, rfl⟩ | h2
  ·have := (hkey hp).2.1; omega
  ·have := (hG k h2).1; omega
 ·intro c hc
  simp only [List.mem_append, List.mem_singleton] at hc
  rcases hc with hc | rfl
  ·refine ⟨fun hp => ?_, fun k hF => ?_⟩
   ·obtain ⟨h1, h2⟩ := (h.kid c hc).1 hp
    obtain ⟨q1, q2, q3⟩ := (h.kid c hc).2 _ h2
    exact ⟨h1.move (hfar _ q3 q2 (by omega)), h2⟩
   ·obtain ⟨q1, q2, q3⟩ := (h.kid c hc).2 k hF
    exact ⟨q1, hvC k q3 q2, by rw [size_set]; exact Nat.lt_of_lt_of_le q3 hg.size⟩
  ·refine ⟨fun hp => ?_, fun k hF => ?_⟩
   ·obtain ⟨h1, h2, h3, h4⟩ := hkey hp
    refine ⟨h3.move (hfar _ h3.lt (fun hc => by have := hCb _ hc; omega) (by omega)), .inl ⟨hp, rfl⟩⟩
   ·rcases hF with ⟨hp, rfl⟩ | hF
    ·obtain ⟨h1, h2, h3, h4⟩ := hkey hp
     exact ⟨by omega, hvC _ h3.lt (fun hc => by have := hCb _ hc; omega), by rw [size_set]; exact Nat.lt_of_lt_of_le h3.lt hg.size⟩
    ·have := hG k hF
     exact ⟨by omega, hvC k this.2 (hGC k hF), by rw [size_set]; exact Nat.lt_of_lt_of_le this.2 hg.size⟩
 ·intro c hc
  simp only [List.mem_append, List.mem_singleton] at hc
  rcases hc with hc | rfl
  ·refine (h.rep c hc).move fun k hF => ?_
   obtain ⟨q1, q2, q3⟩ := (h.kid c hc).2 k hF.1
   exact hfar k q3 q2 (by omega)
  ·refine (hrep.move fun k hF => hfar k (hG k hF).2 (hGC k hF) (hnbg k hF)).mono fun k hF => ⟨.inr hF, fun hp e => ?_⟩
   have e : k = kb := e
   exact (hkey hp).2.2.2 (by rw [← e]; exact hF)
theorem TI.map_done (h : TI true w0 nb cs 4 keys items items.length C kids w) (hl : keys.length = items.length) : Rep w nb ⟨2, noStr, noStr, keys, items⟩ (fun k => w0.heap.size ≤ k) := by
 have hk := h.ks rfl
 have hy := h.ys
 rw [List.take_length] at hy
 rw [← hl, List.take_length] at hk
 rw [← hk, ← hy]
 refine .mp nb C kids _ h.node (Nat.le_of_lt h.nb_lt) ⟨fun k hc => ?_, ?_⟩ h.dis (fun c hc => ⟨((h.kid c hc).1 rfl).1, ((h.kid c hc).1 rfl).2, fun k hF => ?_⟩) fun c hc => (h.rep c hc).mono fun k hF => ⟨hF.1, hF.2 rfl⟩
 ·have := own_base h.row k hc
  have := h.nb_lt
  exact ⟨by omega, by omega⟩
 ·have := own_weaken h.row (Nat.zero_le _)
  rw [two_length, h.len]
  simpa using this
 ·obtain ⟨q1, q2, q3⟩ := (h.kid c hc).2 k hF
  have := h.nb_lt
  exact ⟨by omega, by omega, q2⟩
theorem TI.seq_done (h : TI false w0 nb cs 2 keys items items.length C kids w) : Rep w nb ⟨3, noStr, noStr, [], items⟩ (fun k => w0.heap.size ≤ k) := by
 have hy := h.ys
 rw [List.take_length] at hy
 rw [← hy]
 refine .sq nb C kids _ h.node (Nat.le_of_lt h.nb_lt) ⟨fun k hc => ?_, ?_⟩ h.dis (fun c hc k hF => ?_) fun c hc => (h.rep c hc).mono fun k hF => hF.1
 ·have := own_base h.row k hc
  have := h.nb_lt
  exact ⟨by omega, by omega⟩
 ·have := own_weaken h.row (Nat.zero_le _)
  rw [List.length_map, h.len]
  simpa using this
 ·obtain ⟨q1, q2, q3⟩ := (h.kid c hc).2 k hF
  have := h.nb_lt
  exact ⟨by omega, by omega, q2⟩
end
end Go.Proofs.YtghmajlfmoggfaaGreat
