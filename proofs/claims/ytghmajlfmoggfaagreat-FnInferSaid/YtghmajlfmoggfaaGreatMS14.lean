import Derived.Test.YtghmajlfmoggfaaGreatMS13
import Derived.Test.YtghmajlfmoggfaaGreatMS8
import Derived.Test.YtghmajlfmoggfaaGreatMJ17
import Derived.Test.YtghmajlfmoggfaaGreatMK2
import Derived.Test.YtghmajlfmoggfaaGreatMH
set_option linter.unusedSimpArgs false
set_option linter.unusedVariables false
namespace Go.Proofs.YtghmajlfmoggfaaGreat
open Go.RowKit Go.Proofs.YtghmajlfmoggfaaGreatW.PrintWords Go.Proofs.YtghmajlfmoggfaaGreatW.PrintLast PFnMerge
structure PMI (d : Nat) (y x : S25) (j : Nat) (out : S25) : Prop where
 f0 : out.f0 = 2
 f1 : out.f1 = noStr
 f2 : out.f2 = noStr
 len : out.f3.length = out.f4.length
 nd : out.f3.Nodup
 keys : ∀ key, key ∈ out.f3 ↔ key ∈ y.f3 ∨ key ∈ x.f3.take j
 vals : ∀ key v, fld out key v → (∃ a b, fld y key a ∧ fld x key b ∧ MRelI true d a b v) ∨ (fld y key v ∧ key ∉ x.f3.take j) ∨ (fld x key v ∧ key ∉ y.f3)
 size : out.f3.length ≤ y.f3.length + j
 bnd : Bnd out
theorem PMI.start {d : Nat} {y x : S25} (hy : y.f0 = 2 ∧ y.f1 = noStr ∧ y.f2 = noStr ∧ y.f3.length = y.f4.length ∧ y.f3.Nodup) (hb : Bnd y) : PMI d y x 0 y :=
 ⟨hy.1, hy.2.1, hy.2.2.1, hy.2.2.2.1, hy.2.2.2.2, fun key => by simp, fun key v h => .inr (.inl ⟨h, by simp⟩), by omega, hb⟩
theorem PMI.done {d : Nat} {y x out : S25} (hy : y.f0 = 2) (h : PMI d y x x.f3.length out) : MRelI true (d + 1) y x out := by
 have hk := h.keys
 have hv := h.vals
 rw [List.take_of_length_le (Nat.le_refl _)] at hk hv
 exact .inr (.inl ⟨hy, h.f0, h.f1, h.f2, h.len, h.nd, hk, hv⟩)
theorem PMI.both {d : Nat} {y x out out' a b v : S25} {j : Nat} {key : ByteArray} (h : PMI d y x j out) (hnd : x.f3.Nodup) (hk : x.f3[j]? = some key) (hb : x.f4[j]? = some b) (ha : fld y key a) (hm : MRelI true d a b v) (hv : Bnd v) (hw : WithP out key v out') : PMI d y x (j + 1) out' := by
 have hkin : key ∈ out.f3 := (h.keys key).2 (.inl (by obtain ⟨i, h1, _⟩ := fld_at' ha; exact List.mem_of_getElem? h1))
 obtain ⟨w0, w1, w2, ⟨i, hi, hik, w3, w4⟩ | ⟨hn, _⟩⟩ := hw
 ·refine ⟨w0, w1, w2, by rw [w3, w4, List.length_set]; exact h.len, by rw [w3]; exact h.nd, fun k => ?_, fun k u hf => ?_, by rw [w3]; have := h.size; omega, ?_⟩
  ·rw [w3, h.keys k, mem_take_succ hk]
   constructor
   ·rintro (h1 | h1)
    ·exact .inl h1
    ·exact .inr (.inl h1)
   ·rintro (h1 | h1 | rfl)
    ·exact .inl h1
    ·exact .inr h1
    ·exact (h.keys k).1 hkin
  ·obtain ⟨i', h1, h2⟩ := fld_at' hf
   rw [w3] at h1
   rw [w4] at h2
   by_cases hii : i' = i
   ·subst hii
    rw [List.getElem?_set_self hi] at h2
    injection h2 with h2
    subst h2
    rw [hik] at h1
    injection h1 with h1
    subst h1
    exact .inl ⟨a, b, ha, fld_mk hk hb, hm⟩
   ·rw [List.getElem?_set_ne (fun e => hii e.symm)] at h2
    have hkk : k ≠ key := fun e => hii (by
     subst e
     exact (List.getElem?_inj (idx_lt h1) h.nd).1 (h1.trans hik.symm))
    rcases h.vals k u (fld_mk h1 h2) with h3 | ⟨h3, h4⟩ | h3
    ·exact .inl h3
    ·refine .inr (.inl ⟨h3, fun e => ?_⟩)
     rcases (mem_take_succ hk).1 e with e | e
     ·exact h4 e
     ·exact hkk e
    ·exact .inr (.inr h3)
  ·have hbo := h.bnd
   refine .mk _ (by rw [w1]; show (0 : Nat) ≤ _; omega) (by rw [w2]; show (0 : Nat) ≤ _; omega) (by rw [w3]; exact hbo.key) fun z hz => ?_
   rw [w4] at hz
   rcases List.mem_or_eq_of_mem_set hz with hz | rfl
   ·exact hbo.item z hz
   ·exact hv
 ·exact absurd hkin hn
theorem PMI.new {d : Nat} {y x out out' b : S25} {j : Nat} {key : ByteArray} (h : PMI d y x j out) (hnd : x.f3.Nodup) (hk : x.f3[j]? = some key) (hb : x.f4[j]? = some b) (hy : key ∉ y.f3) (hx : Bnd x) (hw : WithP out key b out') : PMI d y x (j + 1) out' := by
 have hnt : key ∉ x.f3.take j := fun e => by
  obtain ⟨i, hi⟩ := List.getElem?_of_mem e
  have hl := idx_lt hi
  rw [List.length_take] at hl
  rw [List.getElem?_take] at hi
  rw [if_pos (by omega)] at hi
  have := (List.getElem?_inj (idx_lt hi) hnd).1 (hi.trans hk.symm)
  omega
 have hkn : key ∉ out.f3 := fun e => ((h.keys key).1 e).elim hy hnt
 obtain ⟨w0, w1, w2, ⟨i, hi, hik, _⟩ | ⟨_, w3, w4⟩⟩ := hw
 ·exact absurd (List.mem_of_getElem? hik) hkn
 ·refine ⟨w0, w1, w2, by rw [w3, w4, List.length_append, List.length_append, h.len]; rfl, ?_, fun k => ?_, fun k u hf => ?_, by rw [w3, List.length_append]; have := h.size; simp only [List.length_singleton]; omega, ?_⟩
  ·rw [w3]
   exact List.nodup_append.2 ⟨h.nd, by simp, fun a ha b hb => by rw [List.mem_singleton.1 hb]; rintro rfl; exact hkn ha⟩
  ·rw [w3, List.mem_append, List.mem_singleton, h.keys k, mem_take_succ hk, or_assoc]
  ·unfold fld at hf
   rw [w3, w4, List.zip_append h.len] at hf
   rcases List.mem_append.1 hf with hf | hf
   ·have hfo : fld out k u := hf
    have hkk : k ≠ key := fun e => by
     obtain ⟨i, h1, _⟩ := fld_at' hfo
     exact hkn (e ▸ List.mem_of_getElem? h1)
    rcases h.vals k u hf with h3 | ⟨h3, h4⟩ | h3
    ·exact .inl h3
    ·refine .inr (.inl ⟨h3, fun e => ?_⟩)
     rcases (mem_take_succ hk).1 e with e | e
     ·exact h4 e
     ·exact hkk e
    ·exact .inr (.inr h3)
   ·simp only [List.zip_cons_cons, List.zip_nil_right, List.mem_singleton, Prod.mk.injEq] at hf
    obtain ⟨rfl, rfl⟩ := hf
    exact .inr (.inr ⟨fld_mk hk hb, hy⟩)
  ·refine .mk _ (by rw [w1]; show (0 : Nat) ≤ _; omega) (by rw [w2]; show (0 : Nat) ≤ _; omega) (fun k hk' => ?_) fun z hz => ?_
   ·rw [w3] at hk'
    rcases List.mem_append.1 hk' with hk' | hk'
    ·exact h.bnd.key k hk'
    ·rw [List.mem_singleton.1 hk']; exact hx.key key (List.mem_of_getElem? hk)
   ·rw [w4] at hz
    rcases List.mem_append.1 hz with hz | hz
    ·exact h.bnd.item z hz
    ·rw [List.mem_singleton.1 hz]; exact hx.item b (List.mem_of_getElem? hb)
structure LMr (d : Nat) (y x : S25) (j : Nat) (l : List S25) : Prop where
 len : l.length = (addN (y.f4.map nmo) ((x.f4.map nmo).take j)).length
 val : ∀ (i : Nat) s z, (addN (y.f4.map nmo) ((x.f4.map nmo).take j))[i]? = some s → l[i]? = some z →
  (∃ a b, elm y.f4 (y.f4.map nmo) s a ∧ elm x.f4 (x.f4.map nmo) s b ∧ s ∈ (x.f4.map nmo).take j ∧ MRelI true d a b z) ∨ (elm y.f4 (y.f4.map nmo) s z ∧ s ∉ (x.f4.map nmo).take j) ∨ (elm x.f4 (x.f4.map nmo) s z ∧ s ∉ y.f4.map nmo)
 bnd : ∀ z ∈ l, Bnd z
theorem elm_nmo {l : List S25} {i : Nat} {z : S25} (h : l[i]? = some z) : elm l (l.map nmo) (nmo z) z := ⟨i, by rw [List.getElem?_map, h]; rfl, h⟩
theorem LMr.start {d : Nat} {y x : S25} (hb : Bnd y) : LMr d y x 0 y.f4 := by
 refine ⟨by simp [addN], fun i s z hs hz => ?_, fun z hz => hb.item z hz⟩
 simp only [List.take_zero] at hs
 have e : addN (y.f4.map nmo) [] = y.f4.map nmo := rfl
 rw [e] at hs
 exact .inr (.inl ⟨⟨i, hs, hz⟩, by simp⟩)
theorem LMr.done {d : Nat} {y x : S25} {l : List S25} (h0 : y.f0 = 3) (hy : NamesL y.f4 (y.f4.map nmo)) (hx : NamesL x.f4 (x.f4.map nmo)) (h : LMr d y x x.f4.length l) : MRelI true (d + 1) y x ⟨3, noStr, noStr, [], l⟩ ∧ Bnd ⟨3, noStr, noStr, [], l⟩ := by
 have e : (x.f4.map nmo).take x.f4.length = x.f4.map nmo := List.take_of_length_le (by simp)
 have hl := h.len
 have hv := h.val
 rw [e] at hl hv
 refine ⟨.inr (.inr ⟨rfl, _, _, h0, hy, hx, rfl, rfl, rfl, rfl, hl, fun key v hk => ?_⟩), .mk _ (by show (0 : Nat) ≤ _; omega) (by show (0 : Nat) ≤ _; omega) (by simp) h.bnd⟩
 obtain ⟨i, h1, h2⟩ := hk
 rcases hv i key v h1 h2 with ⟨a, b, g1, g2, _, g3⟩ | g | g
 ·exact .inl ⟨a, b, g1, g2, g3⟩
 ·exact .inr (.inl g)
 ·exact .inr (.inr g)
theorem take_names {x : S25} {j : Nat} {b : S25} (hb : x.f4[j]? = some b) : (x.f4.map nmo).take (j + 1) = (x.f4.map nmo).take j ++ [nmo b] ∧ ((x.f4.map nmo).Nodup → nmo b ∉ (x.f4.map nmo).take j) := by
 have h1 : (x.f4.map nmo)[j]? = some (nmo b) := by rw [List.getElem?_map, hb]; rfl
 refine ⟨by rw [List.take_add_one, h1]; rfl, fun hn hm => ?_⟩
 obtain ⟨i, hi⟩ := List.getElem?_of_mem hm
 have hil := (List.getElem?_eq_some_iff.1 hi).1
 rw [List.length_take] at hil
 rw [List.getElem?_take_of_lt (by omega)] at hi
 have := nodup_idx hn hi h1
 omega
theorem LMr.both {d : Nat} {y x a b m : S25} {j i : Nat} {l : List S25} (h : LMr d y x j l) (hny : (y.f4.map nmo).Nodup) (hnx : (x.f4.map nmo).Nodup) (ha : y.f4[i]? = some a) (hb : x.f4[j]? = some b) (hab : nmo a = nmo b) (hm : MRelI true d a b m) (hbm : Bnd m) : LMr d y x (j + 1) (l.set i m) := by
 obtain ⟨ht, hnt⟩ := take_names hb
 have hnt := hnt hnx
 have hnd : (y.f4.map nmo)[i]? = some (nmo b) := by rw [List.getElem?_map, ha, ← hab]; rfl
 have hmem : nmo b ∈ y.f4.map nmo := List.mem_of_getElem? hnd
 have hsame : addN (y.f4.map nmo) ((x.f4.map nmo).take (j + 1)) = addN (y.f4.map nmo) ((x.f4.map nmo).take j) := by
  have h1 : (x.f4.map nmo)[j]? = some (nmo b) := by rw [List.getElem?_map, hb]; rfl
  rw [addN_take h1, hasB_yes (addN_mem.2 (.inl hmem)), if_pos rfl]
 have hnn := addN_nodup (l := (x.f4.map nmo).take j) hny
 obtain ⟨new, hap, _⟩ := addN_app (l := (x.f4.map nmo).take j) (acc := y.f4.map nmo)
 have hil := (List.getElem?_eq_some_iff.1 hnd).1
 have hni : (addN (y.f4.map nmo) ((x.f4.map nmo).take j))[i]? = some (nmo b) := by rw [hap, List.getElem?_append_left hil]; exact hnd
 refine ⟨by rw [hsame, List.length_set]; exact h.len, fun i' s z hs hz => ?_, fun z hz => ?_⟩
 ·rw [hsame] at hs
  rw [ht]
  by_cases hi : i' = i
  ·subst hi
   rw [hni] at hs
   injection hs with hs
   subst hs
   rw [List.getElem?_set_self (by rw [h.len]; exact (List.getElem?_eq_some_iff.1 hni).1)] at hz
   injection hz with hz
   subst hz
   exact .inl ⟨a, b, ⟨i', hnd, ha⟩, elm_nmo hb, by simp, hm⟩
  ·rw [List.getElem?_set_ne (fun e => hi e.symm)] at hz
   have hne : s ≠ nmo b := fun e => hi (nodup_idx hnn (e ▸ hs) hni)
   rcases h.val i' s z hs hz with ⟨a', b', g1, g2, g3, g4⟩ | ⟨g1, g2⟩ | g
   ·exact .inl ⟨a', b', g1, g2, by simp [g3], g4⟩
   ·exact .inr (.inl ⟨g1, by simp only [List.mem_append, List.mem_singleton]; rintro (e | e); exact g2 e; exact hne e⟩)
   ·exact .inr (.inr g)
 ·rcases List.mem_or_eq_of_mem_set hz with hz | rfl
  ·exact h.bnd z hz
  ·exact hbm
theorem LMr.new {d : Nat} {y x b : S25} {j : Nat} {l : List S25} (h : LMr d y x j l) (hnx : (x.f4.map nmo).Nodup) (hb : x.f4[j]? = some b) (hn : nmo b ∉ y.f4.map nmo) (hbb : Bnd b) : LMr d y x (j + 1) (l ++ [b]) := by
 obtain ⟨ht, hnt⟩ := take_names hb
 have hnt := hnt hnx
 have hno : nmo b ∉ addN (y.f4.map nmo) ((x.f4.map nmo).take j) := fun e => (addN_mem.1 e).elim hn hnt
 have hmore : addN (y.f4.map nmo) ((x.f4.map nmo).take (j + 1)) = addN (y.f4.map nmo) ((x.f4.map nmo).take j) ++ [nmo b] := by
  have h1 : (x.f4.map nmo)[j]? = some (nmo b) := by rw [List.getElem?_map, hb]; rfl
  rw [addN_take h1, hasB_no hno, if_neg (by decide)]
 refine ⟨by rw [hmore, List.length_append, List.length_append, h.len]; rfl, fun i' s z hs hz => ?_, fun z hz => ?_⟩
 ·rw [hmore] at hs
  rw [ht]
  by_cases hi : i' < l.length
  ·rw [List.getElem?_append_left (by rw [← h.len]; exact hi)] at hs
   rw [List.getElem?_append_left hi] at hz
   have hne : s ≠ nmo b := fun e => hno (e ▸ List.mem_of_getElem? hs)
   rcases h.val i' s z hs hz with ⟨a', b', g1, g2, g3, g4⟩ | ⟨g1, g2⟩ | g
   ·exact .inl ⟨a', b', g1, g2, by simp [g3], g4⟩
   ·exact .inr (.inl ⟨g1, by simp only [List.mem_append, List.mem_singleton]; rintro (e | e); exact g2 e; exact hne e⟩)
   ·exact .inr (.inr g)
  ·rw [List.getElem?_append_right (by rw [← h.len]; omega)] at hs
   rw [List.getElem?_append_right (by omega)] at hz
   rw [← h.len] at hs
   have h0 : i' - l.length = 0 := by
    have := (List.getElem?_eq_some_iff.1 hz).1
    simp only [List.length_singleton] at this
    omega
   rw [h0] at hs hz
   simp only [List.getElem?_cons_zero, Option.some.injEq] at hs hz
   subst hs; subst hz
   exact .inr (.inr ⟨elm_nmo hb, hn⟩)
 ·rcases List.mem_append.1 hz with hz | hz
  ·exact h.bnd z hz
  ·rw [List.mem_singleton.1 hz]; exact hbb
def MetR (d : Nat) (y : S25) (b : S25) (q : Nat) (met : Bool) (l l' : List S25) : Prop := (met = false ∧ l' = l ∧ nmo b ∉ (y.f4.map nmo).take q) ∨ (met = true ∧ ∃ (i : Nat) (a m : S25), i < q ∧ y.f4[i]? = some a ∧ nmo a = nmo b ∧ MRelI true d a b m ∧ Bnd m ∧ l' = l.set i m)
theorem MetR.skip {d : Nat} {y a b : S25} {q : Nat} {met : Bool} {l l' : List S25} (h : MetR d y b q met l l') (ha : y.f4[q]? = some a) (hne : nmo a ≠ nmo b) : MetR d y b (q + 1) met l l' := by
 have ht : (y.f4.map nmo).take (q + 1) = (y.f4.map nmo).take q ++ [nmo a] := (take_names ha).1
 rcases h with ⟨h1, h2, h3⟩ | ⟨h1, i, a', m, h2, h3⟩
 ·refine .inl ⟨h1, h2, ?_⟩
  rw [ht]
  simp only [List.mem_append, List.mem_singleton]
  rintro (e | e)
  ·exact h3 e
  ·exact hne e.symm
 ·exact .inr ⟨h1, i, a', m, by omega, h3⟩
theorem MetR.hit {d : Nat} {y a b m : S25} {q : Nat} {met : Bool} {l l' : List S25} (h : MetR d y b q met l l') (hny : (y.f4.map nmo).Nodup) (ha : y.f4[q]? = some a) (hab : nmo a = nmo b) (hm : MRelI true d a b m) (hb : Bnd m) : MetR d y b (q + 1) true l (l'.set q m) := by
 rcases h with ⟨_, h2, _⟩ | ⟨_, i, a', m', h2, h3, h4, _⟩
 ·exact .inr ⟨rfl, q, a, m, by omega, ha, hab, hm, hb, by rw [h2]⟩
 ·have e1 : (y.f4.map nmo)[i]? = some (nmo b) := by rw [List.getElem?_map, h3, ← h4]; rfl
  have e2 : (y.f4.map nmo)[q]? = some (nmo b) := by rw [List.getElem?_map, ha, ← hab]; rfl
  have := nodup_idx hny e1 e2
  omega
theorem MetR.len {d : Nat} {y b : S25} {q : Nat} {met : Bool} {l l' : List S25} (h : MetR d y b q met l l') : l'.length = l.length := by
 rcases h with ⟨_, h2, _⟩ | ⟨_, i, a', m', _, _, _, _, _, h2⟩
 ·rw [h2]
 ·rw [h2, List.length_set]
structure LB3 (w : World) (bx bY : Array Value) (W : World) : Prop where
 below : Below w.heap.size w W
 boxx : W.heap[w.heap.size]? = some (.cells bx 25 (0, 0))
 boxy : W.heap[w.heap.size + 1]? = some (.cells bY 25 (0, 0))
 boxr : W.heap[w.heap.size + 1 + 1]? = some (.cells #[.int .i64 0, .string noStr, .string noStr, nilS, nilS] 25 (0, 0))
theorem LB3.under {w : World} {bx bY : Array Value} {W W' : World} (h : LB3 w bx bY W) (hb : Below W.heap.size W W') : LB3 w bx bY W' :=
 ⟨h.below.trans (hb.mono h.below.size), (hb.block _ (lt_of_block h.boxx)).trans h.boxx, (hb.block _ (lt_of_block h.boxy)).trans h.boxy, (hb.block _ (lt_of_block h.boxr)).trans h.boxr⟩
theorem LB3.size {w : World} {bx bY : Array Value} {W : World} (h : LB3 w bx bY W) : w.heap.size + 3 ≤ W.heap.size := lt_of_block h.boxr
theorem LB3.fin {w : World} {bx bY : Array Value} {W : World} (h : LB3 w bx bY W) {P : Nat → Prop} {m : S25} {P3 P4 : Option Addr} {q3 q4 : Nat} (hn : NdG W (fun k => k ≠ w.heap.size + 1 + 1 ∧ (P k ∨ w.heap.size ≤ k)) m P3 q3 P4 q4) {b : Nat} (hb : b = w.heap.size + 1 + 1) :
  (((((W.setCell ⟨b, 0, none⟩ (.int .i64 m.f0)).setCell ⟨b, 1, none⟩ (.string m.f1)).setCell ⟨b, 2, none⟩ (.string m.f2)).setCell ⟨b, 3, none⟩ (.slice P3 m.f3.length q3)).setCell ⟨b, 4, none⟩ (.slice P4 m.f4.length q4)).heap[b]? = some (.cells #[.int .i64 m.f0, .string m.f1, .string m.f2, .slice P3 m.f3.length q3, .slice P4 m.f4.length q4] 25 (0, 0)) ∧ NdG (((((W.setCell ⟨b, 0, none⟩ (.int .i64 m.f0)).setCell ⟨b, 1, none⟩ (.string m.f1)).setCell ⟨b, 2, none⟩ (.string m.f2)).setCell ⟨b, 3, none⟩ (.slice P3 m.f3.length q3)).setCell ⟨b, 4, none⟩ (.slice P4 m.f4.length q4)) (fun k => P k ∨ w.heap.size ≤ k) m P3 q3 P4 q4 ∧ Below w.heap.size w (((((W.setCell ⟨b, 0, none⟩ (.int .i64 m.f0)).setCell ⟨b, 1, none⟩ (.string m.f1)).setCell ⟨b, 2, none⟩ (.string m.f2)).setCell ⟨b, 3, none⟩ (.slice P3 m.f3.length q3)).setCell ⟨b, 4, none⟩ (.slice P4 m.f4.length q4)) := by
 subst hb
 have hk := keep_put5 W (w.heap.size + 1 + 1) (.int .i64 m.f0) (.string m.f1) (.string m.f2) (.slice P3 m.f3.length q3) (.slice P4 m.f4.length q4)
 exact ⟨put5_blk h.boxr _ _ _ _ _, (hn.keep hk fun k hp e => hp.1 e).mono fun k hp => hp.2, h.below.trans (hk.below h.below.size fun k _ e => by omega)⟩
def okL (w : World) (P : Nat → Prop) (og : Option Nat) (k : Nat) : Prop := (∀ g, og = some g → k ≠ g) ∧ k ≠ w.heap.size + 1 + 1 ∧ (P k ∧ k < w.heap.size ∨ w.heap.size ≤ k)
structure LW (w : World) (P : Nat → Prop) (bx bY : Array Value) (ob : Nat) (vb v : Value) (l : List S25) (W : World) : Prop where
 b3 : LB3 w bx bY W
 boxo : W.heap[ob]? = some (.cells #[.int .i64 3, .string noStr, .string noStr, nilS, vb] 25 (0, 0))
 hob : w.heap.size + 1 + 1 < ob
 row : Kd.N k25 25 W (w.heap.size + 3) (okL w P (some ob)) v l
section
variable {w : World} {P : Nat → Prop} {bx bY : Array Value} {ob : Nat} {vb v v1 : Value} {l l' : List S25} {W W' w1 : World}
theorem LW.under (h : LW w P bx bY ob vb v l W) (hb : Below W.heap.size W W') : LW w P bx bY ob vb v l W' :=
 ⟨h.b3.under hb, (hb.block _ (lt_of_block h.boxo)).trans h.boxo, h.hob, Kd.N_below h.row hb⟩
theorem LW.grow (h : LW w P bx bY ob vb v l W) (hr : Kd.N k25 25 w1 (w.heap.size + 3) (okL w P (some ob)) v1 l') (hg : W.grownBy w1 v.ownBlock) : LW w P bx bY ob vb v1 l' w1 := by
 have hb := fun k hk => Kd.N_base h.row k hk
 have hne : ∀ k, k < w.heap.size + 3 → some k ≠ v.ownBlock := fun k hk e => by have := hb k e.symm; omega
 exact ⟨⟨h.b3.below.grown hg h.b3.below.size fun k hk => by have := hb k hk; omega, (hg.block _ (lt_of_block h.b3.boxx) (hne _ (by omega))).trans h.b3.boxx, (hg.block _ (lt_of_block h.b3.boxy) (hne _ (by omega))).trans h.b3.boxy, (hg.block _ (lt_of_block h.b3.boxr) (hne _ (by omega))).trans h.b3.boxr⟩,
  (hg.block _ (lt_of_block h.boxo) (fun he => (h.row.1 ob he.symm).1 ob rfl rfl)).trans h.boxo, h.hob, hr⟩
theorem LW.put4 (h : LW w P bx bY ob vb v l W) (u : Value) : LW w P bx bY ob u v l (W.setCell ⟨ob, 4, none⟩ u) := by
 have hk : Keep (fun k => k = ob) W (W.setCell ⟨ob, 4, none⟩ u) := (Keep.refl (fun k => k = ob) W).setCell ⟨ob, 4, none⟩ u fun _ => rfl
 have ho := h.hob
 exact ⟨⟨h.b3.below.trans (hk.below h.b3.below.size fun k _ e => by omega), hk.at_ h.b3.boxx (by omega), hk.at_ h.b3.boxy (by omega), hk.at_ h.b3.boxr (by omega)⟩,
  (blk_set h.boxo 4 u).trans (by simp only [List.setIfInBounds_toArray, List.set_cons_zero, List.set_cons_succ]), h.hob, Kd.N_step h.row fun k hk' hlt => hk.block k hlt (hk'.1 ob rfl)⟩
theorem LW.fresh (h : LW w P bx bY ob vb v l W) : ∀ k, W.heap.size ≤ k → okL w P (some ob) k := fun k hk => by
 have h1 := lt_of_block h.boxo
 have h2 := h.b3.size
 exact ⟨fun g e => by injection e with e; omega, by omega, .inr (by omega)⟩
theorem LW.okp (h : LW w P bx bY ob vb v l W) : ∀ k, (P k ∧ k < w.heap.size) → okL w P (some ob) k ∧ some k ≠ v.ownBlock := fun k ⟨hp, hk⟩ => by
 have h1 := h.hob
 exact ⟨⟨fun g e => by injection e with e; omega, by omega, .inl ⟨hp, hk⟩⟩, fun he => by have := Kd.N_base h.row _ he.symm; omega⟩
theorem LW.lit (h : LB3 w bx bY W) : Kd.N k25 25 (W.alloc (.cells #[] 25)) (w.heap.size + 3) (okL w P none) (.slice (some ⟨W.heap.size, 0, none⟩) 0 0) [] :=
 Kd.R_N (Kd.R_lower (R_empty k25 W 25 (okL w P none) ⟨(fun g e => nomatch e), by have := h.size; omega, .inr (by have := h.size; omega)⟩) h.size)
theorem LW.start (h : LB3 w bx bY W) (hr : Kd.N k25 25 W (w.heap.size + 3) (okL w P none) v l) {ob : Nat} (ho : ob = W.heap.size) : LW w P bx bY ob v v l (W.alloc (.cells #[.int .i64 3, .string noStr, .string noStr, nilS, v] 25)) := by
 subst ho
 refine ⟨h.under (below_alloc (Below.refl _ _) _), blk_new rfl _, by have := h.size; omega, Kd.N_mono (Kd.N_below (Kd.N_bound hr) (below_alloc (Below.refl _ _) _)) fun k hk => ⟨fun g e => ?_, hk.1.2⟩⟩
 injection e with e
 have := hk.2
 omega
theorem LW.nd {A : Option Addr} {n q : Nat} (h : LW w P bx bY ob vb (.slice A n q) l W) : n = l.length ∧ NdG W (fun k => k ≠ w.heap.size + 1 + 1 ∧ (P k ∨ w.heap.size ≤ k)) ⟨3, noStr, noStr, [], l⟩ none 0 A q := by
 have h4 := Kd.N_reads' h.row
 have n4 := h4.1
 subst n4
 exact ⟨rfl, Kd.F_nil _ _ _, Nat.le_refl _, Kd.F_mono (Kd.N_F h.row) fun k hk => ⟨hk.2.1, hk.2.2.imp (fun e => e.1) id⟩, h4.2.1⟩
end
end Go.Proofs.YtghmajlfmoggfaaGreat
namespace Go.Proofs.YtghmajlfmoggfaaGreat
open Go.RowKit Go.Proofs.YtghmajlfmoggfaaGreatW.PrintWords Go.Proofs.YtghmajlfmoggfaaGreatW.PrintLast PFnMerge
theorem NdG.some {w : World} {P : Nat → Prop} {x : S25} {A3 A4 : Option Addr} {c3 c4 : Nat} (h : NdG w P x A3 c3 A4 c4) (hne : x.f4 ≠ []) : ∃ ad, A4 = Option.some ad := by
 obtain ⟨ad, _, _, _, _, e, _⟩ := h.item 0 _ (List.getElem?_eq_getElem (List.length_pos_iff.2 hne))
 exact ⟨ad, e⟩
open Classical in
theorem named_back {x : S25} (h : namedB x = true) : named x := of_decide_eq_true h
theorem LB3.under3 {w : World} {bx bY : Array Value} {W W' : World} (h : LB3 w bx bY W) (hb : Below (w.heap.size + 3) W W') : LB3 w bx bY W' :=
 ⟨h.below.trans (hb.mono (by omega)), (hb.block _ (by omega)).trans h.boxx, (hb.block _ (by omega)).trans h.boxy, (hb.block _ (by omega)).trans h.boxr⟩
theorem named_of {d : Nat} {x : S25} (hx : TreeP (d + 1) x) (hc : ClearP (d + 1) x) (h : NamedS x) : named x := by
 obtain ⟨h0, ns, hn⟩ := h
 refine hc.2 h0 fun z hz => hasNm_field (hx.item z hz) ?_
 obtain ⟨i, hi⟩ := List.getElem?_of_mem hz
 have hil := (List.getElem?_eq_some_iff.1 hi).1
 exact (hn.2.2.2 i z _ hi (List.getElem?_eq_getElem (by rw [hn.1]; exact hil))).has
open Classical in
theorem named_same {x y : S25} (h : named x ↔ named y) : namedB x = namedB y := by
 unfold namedB
 exact decide_eq_decide.2 h
def MergedQI (P : Nat → Prop) (d : Nat) (y x : S25) (w : World) (e : Ending) (w' : World) : Prop := ∃ m A3 c3 A4 c4, e = .returned (ndV m A3 c3 A4 c4) ∧ MRelI true d y x m ∧ Bnd m ∧ NdG w' (fun k => P k ∨ w.heap.size ≤ k) m A3 c3 A4 c4 ∧ Below w.heap.size w w'
def MergedCI (d : Nat) : Prop := ∀ (P : Nat → Prop) (x y : S25), TreeB d x → TreeB d y → (AlikeM d y x ∧ ClearP d x ∧ ClearP d y) → Bnd x → Bnd y → ∀ (w : World) (A3 A4 B3 B4 : Option Addr) (c3 c4 d3 d4 : Nat), NdG w P x A3 c3 A4 c4 → NdG w P y B3 d3 B4 d4 → Calls Tryz.prog 12 #[ndV x A3 c3 A4 c4, ndV y B3 d3 B4 d4, .bool true] w fun e w' => MergedQI P d y x w e w'
structure MWI (P : Nat → Prop) (d : Nat) (y x : S25) (w : World) (bx bY : Array Value) (j : Nat) (out : S25) (P3 : Option Addr) (q3 : Nat) (P4 : Option Addr) (q4 : Nat) (wr : World) : Prop where
 below : Below w.heap.size w wr
 boxx : wr.heap[w.heap.size]? = some (.cells bx 25 (0, 0))
 boxy : wr.heap[w.heap.size + 1]? = some (.cells bY 25 (0, 0))
 boxr : wr.heap[w.heap.size + 1 + 1]? = some (.cells #[.int .i64 0, .string noStr, .string noStr, nilS, nilS] 25 (0, 0))
 boxo : wr.heap[w.heap.size + 1 + 1 + 1]? = some (.cells #[.int .i64 out.f0, .string out.f1, .string out.f2, .slice P3 out.f3.length q3, .slice P4 out.f4.length q4] 25 (0, 0))
 nd : NdG wr (fun k => k ≠ w.heap.size + 1 + 1 ∧ k ≠ w.heap.size + 1 + 1 + 1 ∧ (P k ∧ k < w.heap.size ∨ w.heap.size ≤ k)) out P3 q3 P4 q4
 pm : PMI d y x j out
section
variable {P : Nat → Prop} {d : Nat} {y x : S25} {w : World} {bx bY : Array Value} {j : Nat} {out : S25} {P3 P4 : Option Addr} {q3 q4 : Nat} {wr wr' : World}
theorem MWI.under (h : MWI P d y x w bx bY j out P3 q3 P4 q4 wr) (hb : Below wr.heap.size wr wr') : MWI P d y x w bx bY j out P3 q3 P4 q4 wr' :=
 ⟨h.below.trans (hb.mono h.below.size), (hb.block _ (lt_of_block h.boxx)).trans h.boxx, (hb.block _ (lt_of_block h.boxy)).trans h.boxy, (hb.block _ (lt_of_block h.boxr)).trans h.boxr, (hb.block _ (lt_of_block h.boxo)).trans h.boxo, h.nd.below hb, h.pm⟩
theorem MWI.put (h' : MWI P d y x w bx bY j out P3 q3 P4 q4 wr') {out' : S25} {R3 R4 : Option Addr} {s3 s4 b : Nat} (hb : b = w.heap.size + 1 + 1 + 1) (hpm : PMI d y x (j + 1) out') (hnd : NdG wr' (fun k => k ≠ w.heap.size + 1 + 1 ∧ k ≠ w.heap.size + 1 + 1 + 1 ∧ (P k ∧ k < w.heap.size ∨ w.heap.size ≤ k)) out' R3 s3 R4 s4) : MWI P d y x w bx bY (j + 1) out' R3 s3 R4 s4 (((((wr'.setCell ⟨b, 0, none⟩ (.int .i64 out'.f0)).setCell ⟨b, 1, none⟩ (.string out'.f1)).setCell ⟨b, 2, none⟩ (.string out'.f2)).setCell ⟨b, 3, none⟩ (.slice R3 out'.f3.length s3)).setCell ⟨b, 4, none⟩ (.slice R4 out'.f4.length s4)) := by
 subst hb
 have hk := keep_put5 wr' (w.heap.size + 1 + 1 + 1) (.int .i64 out'.f0) (.string out'.f1) (.string out'.f2) (.slice R3 out'.f3.length s3) (.slice R4 out'.f4.length s4)
 exact ⟨h'.below.trans (hk.below h'.below.size fun k _ e => by omega), hk.at_ h'.boxx (by omega), hk.at_ h'.boxy (by omega), hk.at_ h'.boxr (by omega), put5_blk h'.boxo _ _ _ _ _, hnd.keep hk fun k hp e => hp.2.1 e, hpm⟩
theorem MWI.fin (h : MWI P d y x w bx bY j out P3 q3 P4 q4 wr) {b : Nat} (hb : b = w.heap.size + 1 + 1) :
  (((((wr.setCell ⟨b, 0, none⟩ (.int .i64 out.f0)).setCell ⟨b, 1, none⟩ (.string out.f1)).setCell ⟨b, 2, none⟩ (.string out.f2)).setCell ⟨b, 3, none⟩ (.slice P3 out.f3.length q3)).setCell ⟨b, 4, none⟩ (.slice P4 out.f4.length q4)).heap[b]? = some (.cells #[.int .i64 out.f0, .string out.f1, .string out.f2, .slice P3 out.f3.length q3, .slice P4 out.f4.length q4] 25 (0, 0)) ∧ NdG (((((wr.setCell ⟨b, 0, none⟩ (.int .i64 out.f0)).setCell ⟨b, 1, none⟩ (.string out.f1)).setCell ⟨b, 2, none⟩ (.string out.f2)).setCell ⟨b, 3, none⟩ (.slice P3 out.f3.length q3)).setCell ⟨b, 4, none⟩ (.slice P4 out.f4.length q4)) (fun k => P k ∨ w.heap.size ≤ k) out P3 q3 P4 q4 ∧ Below w.heap.size w (((((wr.setCell ⟨b, 0, none⟩ (.int .i64 out.f0)).setCell ⟨b, 1, none⟩ (.string out.f1)).setCell ⟨b, 2, none⟩ (.string out.f2)).setCell ⟨b, 3, none⟩ (.slice P3 out.f3.length q3)).setCell ⟨b, 4, none⟩ (.slice P4 out.f4.length q4)) := by
 subst hb
 have hk := keep_put5 wr (w.heap.size + 1 + 1) (.int .i64 out.f0) (.string out.f1) (.string out.f2) (.slice P3 out.f3.length q3) (.slice P4 out.f4.length q4)
 exact ⟨put5_blk h.boxr _ _ _ _ _, (h.nd.keep hk fun k hp e => hp.1 e).mono fun k hp => hp.2.2.imp (fun e => e.1) id, h.below.trans (hk.below h.below.size fun k _ e => by omega)⟩
end
set_option maxRecDepth 20000 in
set_option maxHeartbeats 8000000 in
theorem merged12i : ∀ d, MergedCI d := by
 intro d
 induction d with
 | zero => intro P x y hx; exact hx.1.elim
 | succ d ih =>
  intro P x y hx hy hal hbx hby w A3 A4 B3 B4 c3 c4 d3 d4 ha hb
  obtain ⟨f0, f1, f2, f3, f4⟩ := x
  obtain ⟨g0, g1, g2, g3, g4⟩ := y
  have hk0 : g0 = f0 := hal.1.1
  subst hk0
  obtain ⟨L3, hL3⟩ : ∃ L3, L3 = f3.length := ⟨_, rfl⟩
  obtain ⟨L4, hL4⟩ : ∃ L4, L4 = f4.length := ⟨_, rfl⟩
  obtain ⟨M3, hM3⟩ : ∃ M3, M3 = g3.length := ⟨_, rfl⟩
  obtain ⟨M4, hM4⟩ : ∃ M4, M4 = g4.length := ⟨_, rfl⟩
  have hargs : ndV ⟨g0, f1, f2, f3, f4⟩ A3 c3 A4 c4 = .agg #[.int .i64 g0, .string f1, .string f2, .slice A3 L3 c3, .slice A4 L4 c4] := by rw [hL3, hL4]
  have hargs2 : ndV ⟨g0, g1, g2, g3, g4⟩ B3 d3 B4 d4 = .agg #[.int .i64 g0, .string g1, .string g2, .slice B3 M3 d3, .slice B4 M4 d4] := by rw [hM3, hM4]
  rw [hargs, hargs2]
  clear hargs hargs2
  have HX := Lib.hid (And.intro hx (And.intro hy (And.intro hal (And.intro hbx (And.intro hby (And.intro ha hb))))))
  have HL := Lib.hid (And.intro hL3 (And.intro hL4 (And.intro hM3 hM4)))
  have HI := Lib.hid ih
  by_cases hk : g0 = 2
  ·subst hk
   have hn3 : (L3 : Int) ≤ 1000000 := by have h1 := hx.len; have h2 := hx.1.nd.2 rfl; simp only at h1 h2; omega
   have hx2 : f1 = noStr ∧ f2 = noStr ∧ f3.length = f4.length ∧ f3.Nodup := by
    rcases hx.1 with ⟨h, _⟩ | ⟨_, h1, h2, h3, h4, _⟩ | ⟨h, _⟩
    ·simp at h
    ·exact ⟨h1, h2, h3, h4⟩
    ·simp at h
   have hy2 : g1 = noStr ∧ g2 = noStr ∧ g3.length = g4.length ∧ g3.Nodup := by
    rcases hy.1 with ⟨h, _⟩ | ⟨_, h1, h2, h3, h4, _⟩ | ⟨h, _⟩
    ·simp at h
    ·exact ⟨h1, h2, h3, h4⟩
    ·simp at h
   have H2 := Lib.hid (And.intro hx2 hy2)
   have hmw : MWI P d ⟨2, g1, g2, g3, g4⟩ ⟨2, f1, f2, f3, f4⟩ w #[.int .i64 2, .string f1, .string f2, .slice A3 L3 c3, .slice A4 L4 c4] #[.int .i64 2, .string g1, .string g2, .slice B3 M3 d3, .slice B4 M4 d4] 0 ⟨2, g1, g2, g3, g4⟩ B3 d3 B4 d4 ((((w.alloc (.cells #[.int .i64 2, .string f1, .string f2, .slice A3 L3 c3, .slice A4 L4 c4] 25)).alloc (.cells #[.int .i64 2, .string g1, .string g2, .slice B3 M3 d3, .slice B4 M4 d4] 25)).alloc (.cells #[.int .i64 0, .string { data := #[] }, .string { data := #[] }, .slice none 0 0, .slice none 0 0] 25)).alloc (.cells #[.int .i64 2, .string g1, .string g2, .slice B3 M3 d3, .slice B4 M4 d4] 25)) :=
    ⟨below_alloc (below_alloc (below_alloc (below_alloc (Below.refl _ _) _) _) _) _, blk_old _ (blk_old _ (blk_old _ (blk_new rfl _))), blk_old _ (blk_old _ (blk_new (by simp) _)), blk_old _ (blk_new (by simp) _), (blk_new (by simp) _).trans (by rw [hM3, hM4]), (hb.bound.below (below_alloc (below_alloc (below_alloc (below_alloc (Below.refl _ _) _) _) _) _)).mono fun k hp => ⟨by have := hp.2; omega, by have := hp.2; omega, .inl hp⟩,
     PMI.start ⟨rfl, hy2⟩ hby⟩
   have HMW := Lib.hid hmw
   clear hx hy hal hbx hby ha hb ih hL3 hL4 hM3 hM4 hx2 hy2 hmw
   go_enter Tryz.func12, Tryz.ntmps12
   go_wp2_with fail
   go_loopg [30] L3 (fun k i wr => ∃ j : Nat, j + k = L3 ∧ i = .int .i64 (j : Int) ∧ Hid (∃ out P3 q3 P4 q4, MWI P d ⟨2, g1, g2, g3, g4⟩ ⟨2, f1, f2, f3, f4⟩ w #[.int .i64 2, .string f1, .string f2, .slice A3 L3 c3, .slice A4 L4 c4] #[.int .i64 2, .string g1, .string g2, .slice B3 M3 d3, .slice B4 M4 d4] j out P3 q3 P4 q4 wr))
   case atStart => exact ⟨0, by omega, rfl, Lib.hid ⟨_, _, _, _, _, HMW.out⟩⟩
   case round =>
    obtain ⟨j, hj, rfl, hI⟩ := hrel
    obtain ⟨out, P3, q3, P4, q4, hmw⟩ := hI.out
    have HM := Lib.hid hmw
    by_cases hlt : 1 ≤ gk
    ·have hj2 : (j : Int) < (L3 : Int) := by omega
     have hj3 : j < L3 := by omega
     have hjl : j < f3.length := by have := HL.out.1; omega
     obtain ⟨key, hkey⟩ : ∃ key, f3[j]? = some key := ⟨_, List.getElem?_eq_getElem hjl⟩
     have hl34 : f3.length = f4.length := H2.out.1.2.2.1
     obtain ⟨a, haj⟩ : ∃ a, f4[j]? = some a := ⟨_, List.getElem?_eq_getElem (by omega)⟩
     have hj4 : (j : Int) < (L4 : Int) := by have := HL.out.2.1; omega
     have hj4' : j < L4 := by omega
     obtain ⟨ad3, rfl, x3⟩ := str_at (HX.out.2.2.2.2.2.1.now.keys) j key hjl hkey
     have x3' := (hmw.below.cell (World.block_lt_of_cell? w _ x3)).trans x3
     obtain ⟨b0, b1, b2, b3, b4⟩ := cl5 hmw.boxy
     have HK := Lib.hid (And.intro hkey (And.intro haj (List.mem_of_getElem? haj)))
     clear hjl hkey hl34 haj x3 hmw hI
     go_wp2_with fail
     have hcall := fieldG20 wr (fun k => k ≠ w.heap.size + 1 + 1 ∧ k ≠ w.heap.size + 1 + 1 + 1 ∧ (P k ∧ k < w.heap.size ∨ w.heap.size ≤ k)) ⟨2, g1, g2, g3, g4⟩ key B3 B4 d3 d4 ((HX.out.2.2.2.2.2.2.bound.below HM.out.below).mono fun k hp => ⟨by have := hp.2; omega, by have := hp.2; omega, .inl hp⟩) (fun _ => Nat.le_of_eq H2.out.2.2.2.1)
     simp only [ndV, ← HL.out.2.2.1, ← HL.out.2.2.2] at hcall
     refine hcall.mono ?_
     clear hcall
     rintro e w' ⟨hb, ⟨v, E3, e3, E4, e4, rfl, h0, h1⟩ | ⟨rfl, h0⟩⟩
     ·have HA1 := Lib.hid (HM.out.under hb)
      have HV := Lib.hid (And.intro h0 h1)
      clear h0 h1 hb b0 b1 b2 b3 b4
      obtain ⟨W, hW⟩ : ∃ W, W = w'.alloc (.cells #[.int .i64 v.f0, .string v.f1, .string v.f2, .slice E3 v.f3.length e3, .slice E4 v.f4.length e4] 25) := ⟨_, rfl⟩
      have HA2 := Lib.hid (show MWI P d ⟨2, g1, g2, g3, g4⟩ ⟨2, f1, f2, f3, f4⟩ w #[.int .i64 2, .string f1, .string f2, .slice (some ad3) L3 c3, .slice A4 L4 c4] #[.int .i64 2, .string g1, .string g2, .slice B3 M3 d3, .slice B4 M4 d4] j out P3 q3 P4 q4 W from hW ▸ HA1.out.under (below_alloc (Below.refl _ _) _))
      have HVW := Lib.hid (show NdG W (fun k => k ≠ w.heap.size + 1 + 1 ∧ k ≠ w.heap.size + 1 + 1 + 1 ∧ (P k ∧ k < w.heap.size ∨ w.heap.size ≤ k)) v E3 e3 E4 e4 from hW ▸ HV.out.2.below (below_alloc (Below.refl _ _) _))
      have HBX := Lib.hid (show W.heap[w'.heap.size]? = some (.cells #[.int .i64 v.f0, .string v.f1, .string v.f2, .slice E3 v.f3.length e3, .slice E4 v.f4.length e4] 25 (0, 0)) from hW ▸ blk_new rfl _)
      obtain ⟨ad4, C3, cc3, C4, cc4, e4_, y0, y1, y2, y3, y4, hnd⟩ := ((HX.out.2.2.2.2.2.1.bound.below HA2.out.below).mono (Q := (fun k => k ≠ w.heap.size + 1 + 1 ∧ k ≠ w.heap.size + 1 + 1 + 1 ∧ (P k ∧ k < w.heap.size ∨ w.heap.size ≤ k))) fun k hp => ⟨by have := hp.2; omega, by have := hp.2; omega, .inl hp⟩).item j a HK.out.2.1
      subst e4_
      have HND := Lib.hid hnd
      have htag := (HX.out.1.item a HK.out.2.2).1.not_null
      have x4 : W.cell? ⟨w.heap.size, 4, none⟩ = some (.slice (some ad4) L4 c4) := (blk_cell HA2.out.boxx 4).trans rfl
      have HY5 := Lib.hid (And.intro x4 (And.intro y0 (And.intro y1 (And.intro y2 (And.intro y3 y4)))))
      have x4w := x4
      have y2w := y2
      rw [hW] at x4w y2w
      have HWS := Lib.hid hW
      clear hnd hW x4 y0 y1 y2 y3 y4
      go_wp2_with fail
      rw [← HWS.out]
      clear x4w y2w htag x3'
      have x4 := HY5.out.1
      have y0 := HY5.out.2.1
      have y1 := HY5.out.2.2.1
      have y2 := HY5.out.2.2.2.1
      have y3 := HY5.out.2.2.2.2.1
      have y4 := HY5.out.2.2.2.2.2
      obtain ⟨vb, hvb⟩ : ∃ vb, vb = w'.heap.size := ⟨_, rfl⟩
      rw [← hvb] at HBX
      rw [← hvb]
      clear hvb
      obtain ⟨v0, v1, v2, v3, v4⟩ := cl5 HBX.out
      obtain ⟨o0, o1, o2, o3, o4⟩ := cl5 HA2.out.boxo
      refine start_ (n := 12) (S := fun w' => w'.cell? ⟨w.heap.size + 1 + 1 + 1, 0, none⟩ = some (.int .i64 out.f0) ∧ w'.cell? ⟨w.heap.size + 1 + 1 + 1, 1, none⟩ = some (.string out.f1) ∧ w'.cell? ⟨w.heap.size + 1 + 1 + 1, 2, none⟩ = some (.string out.f2) ∧ w'.cell? ⟨w.heap.size + 1 + 1 + 1, 3, none⟩ = some (.slice P3 out.f3.length q3) ∧ w'.cell? ⟨w.heap.size + 1 + 1 + 1, 4, none⟩ = some (.slice P4 out.f4.length q4) ∧ w'.cell? ⟨w.heap.size, 4, none⟩ = some (.slice (some ad4) L4 c4) ∧ w'.cell? (ad4.add (j * 5)) = some (.int .i64 a.f0) ∧ w'.cell? ⟨(ad4.add (j * 5)).block, (ad4.add (j * 5)).off + 1, none⟩ = some (.string a.f1) ∧ w'.cell? ⟨(ad4.add (j * 5)).block, (ad4.add (j * 5)).off + 2, none⟩ = some (.string a.f2) ∧ w'.cell? ⟨(ad4.add (j * 5)).block, (ad4.add (j * 5)).off + 3, none⟩ = some (.slice C3 a.f3.length cc3) ∧ w'.cell? ⟨(ad4.add (j * 5)).block, (ad4.add (j * 5)).off + 4, none⟩ = some (.slice C4 a.f4.length cc4) ∧ w'.cell? ⟨vb, 0, none⟩ = some (.int .i64 v.f0) ∧ w'.cell? ⟨vb, 1, none⟩ = some (.string v.f1) ∧ w'.cell? ⟨vb, 2, none⟩ = some (.string v.f2) ∧ w'.cell? ⟨vb, 3, none⟩ = some (.slice E3 v.f3.length e3) ∧ w'.cell? ⟨vb, 4, none⟩ = some (.slice E4 v.f4.length e4)) (ds := [11]) #[false, false, false, false, false, false, false, false, false, false, false, false] (by kernel_rfl) rfl rfl ⟨o0, o1, o2, o3, o4, x4, y0, y1, y2, y3, y4, v0, v1, v2, v3, v4⟩ (fun hHeld => ?_)
      refine pu 1 (some 63) (bl 12 2) ?_
      refine pu 2 (some 64) (bl 12 6) ?_
      refine pu 4 (some 66) (bl 12 22) ?_
      refine pu 8 (some 70) (bl 12 278) ?_
      refine tk 0 (some 62) (bl 12 279) hHeld ?_
      refine tk 3 (some 65) (bl 12 287) hHeld ?_
      refine pu 5 (some 67) (bl 12 319) ?_
      refine tk 6 (some 68) (bl 12 383) hHeld ?_
      refine tk 7 (some 69) (bl 12 511) hHeld ?_
      refine on_ 9 (some 71) (bl 12 1023) fun K hK => ?_
      refine gs_ Tryz.func12 #[ndV a C3 cc3 C4 cc4, ndV v E3 e3 E4 e4, .bool true] ?_
      refine (HI.out (fun k => k ≠ w.heap.size + 1 + 1 ∧ k ≠ w.heap.size + 1 + 1 + 1 ∧ (P k ∧ k < w.heap.size ∨ w.heap.size ≤ k)) a v (HX.out.1.item a HK.out.2.2) (HX.out.2.1.item v (by obtain ⟨_, i, _, h⟩ := HV.out.1; exact List.mem_of_getElem? h)) ⟨HX.out.2.2.1.1.2.1 rfl key v a (by obtain ⟨_, i, h1, h2⟩ := HV.out.1; exact fld_mk h1 h2) (fld_mk HK.out.1 HK.out.2.1), HX.out.2.2.1.2.1.1 a HK.out.2.2, HX.out.2.2.1.2.2.1 v (by obtain ⟨_, i, _, h⟩ := HV.out.1; exact List.mem_of_getElem? h)⟩ (HX.out.2.2.2.1.item a HK.out.2.2) (HX.out.2.2.2.2.1.item v (by obtain ⟨_, i, _, h⟩ := HV.out.1; exact List.mem_of_getElem? h)) W.drew C3 C4 E3 E4 cc3 cc4 e3 e4 (HND.out.below (below_drew (Below.refl _ _))) (HVW.out.below (below_drew (Below.refl _ _)))).mono ?_
      rintro e w9 ⟨m, R3, s3, R4, s4, rfl, hmr, hbm, hng, hbc⟩
      have HB9 := Lib.hid hbc
      have HMR := Lib.hid (And.intro hmr (And.intro hbm (hng.mono (Q := (fun k => k ≠ w.heap.size + 1 + 1 ∧ k ≠ w.heap.size + 1 + 1 + 1 ∧ (P k ∧ k < w.heap.size ∨ w.heap.size ≤ k))) (fun k hp => hp.elim id fun e => ⟨by have := lt_of_block HA2.out.boxo; have := (show W.heap.size ≤ W.drew.heap.size by simp); omega, by have := lt_of_block HA2.out.boxo; have := (show W.heap.size ≤ W.drew.heap.size by simp); omega, .inr (by have := lt_of_block HA2.out.boxo; have := (show W.heap.size ≤ W.drew.heap.size by simp); omega)⟩))))
      have HA9 := Lib.hid ((HA2.out.under (below_drew (Below.refl _ _))).under hbc)
      clear hmr hbm hng hbc
      refine ⟨_, rfl, ?_⟩
      refine hK.out _ _ (he16 HB9.out hHeld) (fun hHeld => ?_)
      clear hK K
      refine nr (some 71) ?_
      refine on_ 10 (some 72) (bl 12 2047) fun K hK => ?_
      refine gs_ Tryz.func17 #[ndV out P3 q3 P4 q4, .string key, ndV m R3 s3 R4 s4] ?_
      refine (with17 w9 (fun k => k ≠ w.heap.size + 1 + 1 ∧ k ≠ w.heap.size + 1 + 1 + 1 ∧ (P k ∧ k < w.heap.size ∨ w.heap.size ≤ k)) out m key P3 P4 R3 R4 q3 q4 s3 s4 HA9.out.nd HMR.out.2.2 HA9.out.pm.len (by have h1 := HA9.out.pm.len; have h2 := HA9.out.pm.size; have h3 := HX.out.2.1.len; have h4 := H2.out.2.2.2.1; have h5 := HX.out.1.len; have h6 := H2.out.1.2.2.1; have h7 := HL.out.1; simp only at h2 h3 h5; omega)).mono ?_
      rintro e wf ⟨out', U3, u3, U4, u4, rfl, hwp, hng, hbc⟩
      have HBF := Lib.hid hbc
      have HAF := Lib.hid (HA9.out.under hbc)
      have HNG := Lib.hid (hng.mono (Q := (fun k => k ≠ w.heap.size + 1 + 1 ∧ k ≠ w.heap.size + 1 + 1 + 1 ∧ (P k ∧ k < w.heap.size ∨ w.heap.size ≤ k))) (fun k hp => hp.elim id fun e => ⟨by have := lt_of_block HA9.out.boxo; have := HA9.out.below.size; omega, by have := lt_of_block HA9.out.boxo; have := HA9.out.below.size; omega, .inr (by have := lt_of_block HA9.out.boxo; have := HA9.out.below.size; omega)⟩))
      have HPM := Lib.hid (HA9.out.pm.both H2.out.1.2.2.2 HK.out.1 HK.out.2.1 (by obtain ⟨_, i, h1, h2⟩ := HV.out.1; exact fld_mk h1 h2) HMR.out.1 HMR.out.2.1 hwp)
      clear hwp hng hbc
      refine ⟨_, rfl, ?_⟩
      refine hK.out _ _ (he16 HBF.out hHeld) (fun hHeld => ?_)
      clear hK K
      refine nr (some 72) ?_
      refine ls_ 11 none (bl 12 4095) fun K hK => ?_
      have z0 := blk_frozen HAF.out.boxo 0
      have z1 := blk_frozen HAF.out.boxo 1
      have z2 := blk_frozen HAF.out.boxo 2
      have z3 := blk_frozen HAF.out.boxo 3
      have z4 := blk_frozen HAF.out.boxo 4
      have k0 := blk_cell HAF.out.boxo 0
      have k1 := blk_cell HAF.out.boxo 1
      have k2 := blk_cell HAF.out.boxo 2
      have k3 := blk_cell HAF.out.boxo 3
      have k4 := blk_cell HAF.out.boxo 4
      refine skip_ (w1 := ?_) (by rfl) rfl ?_ ?_
      rotate_left
      ·go_simp
       rfl
      have HMN := Lib.hid (HAF.out.put rfl HPM.out HNG.out)
      clear z0 z1 z2 z3 z4 k0 k1 k2 k3 k4
      refine hK.out _ _ ?_
      clear hK K
      refine done_ (by kernel_rfl) ?_
      go_wp2_with fail
      go_roundg (gk - 1)
      case measure => omega
      case rel => exact ⟨j + 1, by omega, by go_num, Lib.hid ⟨_, _, _, _, _, HMN.out⟩⟩
     ·have HA1 := Lib.hid (HM.out.under hb)
      have HV := Lib.hid h0
      clear h0 hb b0 b1 b2 b3 b4
      obtain ⟨W, hW⟩ : ∃ W, W = w'.alloc (.cells #[.int .i64 0, .string noStr, .string noStr, nilS, nilS] 25) := ⟨_, rfl⟩
      have HA2 := Lib.hid (show MWI P d ⟨2, g1, g2, g3, g4⟩ ⟨2, f1, f2, f3, f4⟩ w #[.int .i64 2, .string f1, .string f2, .slice (some ad3) L3 c3, .slice A4 L4 c4] #[.int .i64 2, .string g1, .string g2, .slice B3 M3 d3, .slice B4 M4 d4] j out P3 q3 P4 q4 W from hW ▸ HA1.out.under (below_alloc (Below.refl _ _) _))
      obtain ⟨ad4, C3, cc3, C4, cc4, e4_, y0, y1, y2, y3, y4, hnd⟩ := ((HX.out.2.2.2.2.2.1.bound.below HA2.out.below).mono (Q := (fun k => k ≠ w.heap.size + 1 + 1 ∧ k ≠ w.heap.size + 1 + 1 + 1 ∧ (P k ∧ k < w.heap.size ∨ w.heap.size ≤ k))) fun k hp => ⟨by have := hp.2; omega, by have := hp.2; omega, .inl hp⟩).item j a HK.out.2.1
      subst e4_
      have HND := Lib.hid hnd
      have htag := (HX.out.1.item a HK.out.2.2).1.not_null
      have x4 : W.cell? ⟨w.heap.size, 4, none⟩ = some (.slice (some ad4) L4 c4) := (blk_cell HA2.out.boxx 4).trans rfl
      have HY5 := Lib.hid (And.intro x4 (And.intro y0 (And.intro y1 (And.intro y2 (And.intro y3 y4)))))
      have x4w := x4
      have y2w := y2
      rw [hW] at x4w y2w
      have HWS := Lib.hid hW
      clear hnd hW x4 y0 y1 y2 y3 y4
      go_wp2_with fail
      rw [← HWS.out]
      clear x4w y2w htag x3'
      have x4 := HY5.out.1
      have y0 := HY5.out.2.1
      have y1 := HY5.out.2.2.1
      have y2 := HY5.out.2.2.2.1
      have y3 := HY5.out.2.2.2.2.1
      have y4 := HY5.out.2.2.2.2.2
      obtain ⟨o0, o1, o2, o3, o4⟩ := cl5 HA2.out.boxo
      refine start_ (n := 9) (S := fun w' => w'.cell? ⟨w.heap.size + 1 + 1 + 1, 0, none⟩ = some (.int .i64 out.f0) ∧ w'.cell? ⟨w.heap.size + 1 + 1 + 1, 1, none⟩ = some (.string out.f1) ∧ w'.cell? ⟨w.heap.size + 1 + 1 + 1, 2, none⟩ = some (.string out.f2) ∧ w'.cell? ⟨w.heap.size + 1 + 1 + 1, 3, none⟩ = some (.slice P3 out.f3.length q3) ∧ w'.cell? ⟨w.heap.size + 1 + 1 + 1, 4, none⟩ = some (.slice P4 out.f4.length q4) ∧ w'.cell? ⟨w.heap.size, 4, none⟩ = some (.slice (some ad4) L4 c4) ∧ w'.cell? (ad4.add (j * 5)) = some (.int .i64 a.f0) ∧ w'.cell? ⟨(ad4.add (j * 5)).block, (ad4.add (j * 5)).off + 1, none⟩ = some (.string a.f1) ∧ w'.cell? ⟨(ad4.add (j * 5)).block, (ad4.add (j * 5)).off + 2, none⟩ = some (.string a.f2) ∧ w'.cell? ⟨(ad4.add (j * 5)).block, (ad4.add (j * 5)).off + 3, none⟩ = some (.slice C3 a.f3.length cc3) ∧ w'.cell? ⟨(ad4.add (j * 5)).block, (ad4.add (j * 5)).off + 4, none⟩ = some (.slice C4 a.f4.length cc4)) (ds := [8]) #[false, false, false, false, false, false, false, false, false] (by kernel_rfl) rfl rfl ⟨o0, o1, o2, o3, o4, x4, y0, y1, y2, y3, y4⟩ (fun hHeld => ?_)
      refine pu 1 (some 42) (bl 9 2) ?_
      refine pu 2 (some 43) (bl 9 6) ?_
      refine pu 4 (some 45) (bl 9 22) ?_
      refine tk 0 (some 41) (bl 9 23) hHeld ?_
      refine tk 3 (some 44) (bl 9 31) hHeld ?_
      refine pu 5 (some 46) (bl 9 63) ?_
      refine tk 6 (some 47) (bl 9 127) hHeld ?_
      refine on_ 7 (some 48) (bl 9 255) fun K hK => ?_
      have HA9 := Lib.hid (HA2.out.under (below_drew (Below.refl _ _)))
      refine gs_ Tryz.func17 #[ndV out P3 q3 P4 q4, .string key, ndV a C3 cc3 C4 cc4] ?_
      refine (with17 W.drew (fun k => k ≠ w.heap.size + 1 + 1 ∧ k ≠ w.heap.size + 1 + 1 + 1 ∧ (P k ∧ k < w.heap.size ∨ w.heap.size ≤ k)) out a key P3 P4 C3 C4 q3 q4 cc3 cc4 HA9.out.nd (HND.out.below (below_drew (Below.refl _ _))) HA9.out.pm.len (by have h1 := HA9.out.pm.len; have h2 := HA9.out.pm.size; have h3 := HX.out.2.1.len; have h4 := H2.out.2.2.2.1; have h5 := HX.out.1.len; have h6 := H2.out.1.2.2.1; have h7 := HL.out.1; simp only at h2 h3 h5; omega)).mono ?_
      rintro e wf ⟨out', U3, u3, U4, u4, rfl, hwp, hng, hbc⟩
      have HBF := Lib.hid hbc
      have HAF := Lib.hid (HA9.out.under hbc)
      have HNG := Lib.hid (hng.mono (Q := (fun k => k ≠ w.heap.size + 1 + 1 ∧ k ≠ w.heap.size + 1 + 1 + 1 ∧ (P k ∧ k < w.heap.size ∨ w.heap.size ≤ k))) (fun k hp => hp.elim id fun e => ⟨by have := lt_of_block HA9.out.boxo; have := HA9.out.below.size; omega, by have := lt_of_block HA9.out.boxo; have := HA9.out.below.size; omega, .inr (by have := lt_of_block HA9.out.boxo; have := HA9.out.below.size; omega)⟩))
      have HPM := Lib.hid (HA9.out.pm.new H2.out.1.2.2.2 HK.out.1 HK.out.2.1 (fun e => HV.out (by first | exact ⟨rfl, e⟩ | exact ⟨trivial, e⟩ | exact e)) HX.out.2.2.2.1 hwp)
      clear hwp hng hbc
      refine ⟨_, rfl, ?_⟩
      refine hK.out _ _ (he11 HBF.out hHeld) (fun hHeld => ?_)
      clear hK K
      refine nr (some 48) ?_
      refine ls_ 8 none (bl 9 511) fun K hK => ?_
      have z0 := blk_frozen HAF.out.boxo 0
      have z1 := blk_frozen HAF.out.boxo 1
      have z2 := blk_frozen HAF.out.boxo 2
      have z3 := blk_frozen HAF.out.boxo 3
      have z4 := blk_frozen HAF.out.boxo 4
      have k0 := blk_cell HAF.out.boxo 0
      have k1 := blk_cell HAF.out.boxo 1
      have k2 := blk_cell HAF.out.boxo 2
      have k3 := blk_cell HAF.out.boxo 3
      have k4 := blk_cell HAF.out.boxo 4
      refine skip_ (w1 := ?_) (by rfl) rfl ?_ ?_
      rotate_left
      ·go_simp
       rfl
      have HMN := Lib.hid (HAF.out.put rfl HPM.out HNG.out)
      clear z0 z1 z2 z3 z4 k0 k1 k2 k3 k4
      refine hK.out _ _ ?_
      clear hK K
      refine done_ (by kernel_rfl) ?_
      go_wp2_with fail
      go_roundg (gk - 1)
      case measure => omega
      case rel => exact ⟨j + 1, by omega, by go_num, Lib.hid ⟨_, _, _, _, _, HMN.out⟩⟩
    ·have hqe : ¬ ((j : Int) < (L3 : Int)) := by omega
     have hqe' : ¬ (j < L3) := by omega
     have hjl : j = f3.length := by have := HL.out.1; omega
     have HPM := Lib.hid (show PMI d ⟨2, g1, g2, g3, g4⟩ ⟨2, f1, f2, f3, f4⟩ f3.length out from hjl ▸ hmw.pm)
     obtain ⟨o0, o1, o2, o3, o4⟩ := cl5 hmw.boxo
     obtain ⟨r0, r1, r2, r3, r4⟩ := cl5 hmw.boxr
     obtain ⟨rz0, rz1, rz2, rz3, rz4⟩ := fz5 hmw.boxr
     clear hmw hI hjl hj
     go_wp2_with fail
     have hfin := HM.out.fin rfl
     exact bodyPost_ret (results_cell_row rfl _ _ (w.heap.size + 1 + 1) 25 #[.int .i64 out.f0, .string out.f1, .string out.f2, .slice P3 out.f3.length q3, .slice P4 out.f4.length q4] (0, 0) _ rfl hfin.1 Tryz.underlying25 rfl (by kernel_rfl)) rfl ⟨out, P3, q3, P4, q4, rfl, PMI.done rfl HPM.out, HPM.out.bnd, hfin.2.1, hfin.2.2⟩
  ·have hkb : (g0 == 2) = false := beq_false_of_ne hk
   have HK := Lib.hid hk
   have HLB0 := Lib.hid (show LB3 w #[.int .i64 g0, .string f1, .string f2, .slice A3 L3 c3, .slice A4 L4 c4] #[.int .i64 g0, .string g1, .string g2, .slice B3 M3 d3, .slice B4 M4 d4] (((w.alloc (.cells #[.int .i64 g0, .string f1, .string f2, .slice A3 L3 c3, .slice A4 L4 c4] 25)).alloc (.cells #[.int .i64 g0, .string g1, .string g2, .slice B3 M3 d3, .slice B4 M4 d4] 25)).alloc (.cells #[.int .i64 0, .string { data := #[] }, .string { data := #[] }, .slice none 0 0, .slice none 0 0] 25)) from ⟨below_alloc (below_alloc (below_alloc (Below.refl _ _) _) _) _, blk_old _ (blk_old _ (blk_new rfl _)), blk_old _ (blk_new (by simp) _), blk_new (by simp) _⟩)
   by_cases hk3 : g0 = 3
   ·subst hk3
    obtain ⟨nx, hnx⟩ : ∃ b, b = namedB ⟨3, f1, f2, f3, f4⟩ := ⟨_, rfl⟩
    have hny : namedB ⟨3, g1, g2, g3, g4⟩ = nx := hnx ▸ named_same (hal.1.2.2 rfl).1
    have HN := Lib.hid (And.intro hnx hny)
    have hm4 : (M4 : Int) ≤ 1000000 := by have := hy.len; simp only at this; omega
    have hn4 : (L4 : Int) ≤ 1000000 := by have := hx.len; simp only at this; omega
    clear hx hy hal hbx hby ha hb ih hL3 hL4 hM3 hM4 hk hnx hny
    go_enter Tryz.func12, Tryz.ntmps12
    go_wp2_with fail
    have hcall := areNamed21 (((w.alloc (.cells #[.int .i64 3, .string f1, .string f2, .slice A3 L3 c3, .slice A4 L4 c4] 25)).alloc (.cells #[.int .i64 3, .string g1, .string g2, .slice B3 M3 d3, .slice B4 M4 d4] 25)).alloc (.cells #[.int .i64 0, .string { data := #[] }, .string { data := #[] }, .slice none 0 0, .slice none 0 0] 25)) ⟨3, f1, f2, f3, f4⟩ A3 A4 c3 c4 (HX.out.2.2.2.2.2.1.now.below HLB0.out.below) (fun z hz => (HX.out.1.item z hz).1.nd) (by have := HX.out.1.len; simp only at *; omega)
    simp only [ndV, ← HL.out.1, ← HL.out.2.1] at hcall
    refine hcall.mono ?_
    clear hcall
    rintro e w1 ⟨e7, hb⟩
    rw [← HN.out.1] at e7
    subst e7
    have HL1 := Lib.hid (HLB0.out.under hb)
    clear hb
    obtain ⟨x0, x1, x2, x3, x4⟩ := cl5 HL1.out.boxx
    obtain ⟨y0, y1, y2, y3, y4⟩ := cl5 HL1.out.boxy
    cases nx with
    | false =>
     obtain ⟨r0, r1, r2, r3, r4⟩ := cl5 HL1.out.boxr
     obtain ⟨rz0, rz1, rz2, rz3, rz4⟩ := fz5 HL1.out.boxr
     go_wp2_with fail
     have hfin := HL1.out.fin (P := P) (m := ⟨3, f1, f2, f3, f4⟩) ((HX.out.2.2.2.2.2.1.bound.below HL1.out.below).mono fun k hk => ⟨by have := hk.2; omega, .inl hk.1⟩) rfl
     simp only [← HL.out.1, ← HL.out.2.1] at hfin
     refine bodyPost_ret (results_cell_row rfl _ _ (w.heap.size + 1 + 1) 25 #[.int .i64 3, .string f1, .string f2, .slice A3 L3 c3, .slice A4 L4 c4] (0, 0) _ rfl hfin.1 Tryz.underlying25 rfl (by kernel_rfl)) rfl ?_
     refine ⟨⟨3, f1, f2, f3, f4⟩, A3, c3, A4, c4, ?_, .inl ⟨HK.out, fun hN => ?_, rfl⟩, HX.out.2.2.2.1, hfin.2.1, hfin.2.2⟩
     ·simp only [ndV, ← HL.out.1, ← HL.out.2.1]
     ·have h1 := named_true (named_of HX.out.2.1.1 HX.out.2.2.1.2.2 hN.2)
      rw [HN.out.2] at h1
      exact absurd h1 (by decide)
    | true =>
     obtain ⟨ad4, rfl⟩ := HX.out.2.2.2.2.2.1.some (by rcases HX.out.1.1 with ⟨h, _⟩ | ⟨h, _⟩ | ⟨_, _, _, _, h, _⟩; simp at h; simp at h; exact h)
     obtain ⟨bd4, rfl⟩ := HX.out.2.2.2.2.2.2.some (by rcases HX.out.2.1.1 with ⟨h, _⟩ | ⟨h, _⟩ | ⟨_, _, _, _, h, _⟩; simp at h; simp at h; exact h)
     have HNM := Lib.hid (And.intro (named_back HN.out.2) (named_back HN.out.1.symm))
     go_wp2_with fail
     have hcall := areNamed21 w1 ⟨3, g1, g2, g3, g4⟩ B3 (some bd4) d3 d4 (HX.out.2.2.2.2.2.2.now.below HL1.out.below) (fun z hz => (HX.out.2.1.item z hz).1.nd) (by have := HX.out.2.1.len; simp only at *; omega)
     simp only [ndV, ← HL.out.2.2.1, ← HL.out.2.2.2] at hcall
     refine hcall.mono ?_
     clear hcall
     rintro e w2 ⟨e7, hb⟩
     rw [HN.out.2] at e7
     subst e7
     have HL2 := Lib.hid (HL1.out.under hb)
     clear hb x0 x1 x2 x3 x4 y0 y1 y2 y3 y4
     have HLA := Lib.hid (HL2.out.under (below_alloc (Below.refl _ _) (.cells #[] 25)))
     have y4 : (w2.alloc (.cells #[] 25)).cell? ⟨w.heap.size + 1, 4, none⟩ = some (.slice (some bd4) M4 d4) := (blk_cell HLA.out.boxy 4).trans rfl
     have HLIT := Lib.hid (LW.lit (P := P) HL2.out)
     have hyf := Kd.F_below HX.out.2.2.2.2.2.2.bound.items HLA.out.below
     simp only [← HL.out.2.2.2] at hyf
     have HYF := Lib.hid hyf
     have HOK := Lib.hid (show ∀ k, (P k ∧ k < w.heap.size) → okL w P none k ∧ some k ≠ (Value.slice (some ⟨w2.heap.size, 0, none⟩) 0 0).ownBlock from fun k hk => ⟨⟨(fun g e => nomatch e), by have := hk.2; omega, .inl hk⟩, fun e => by have h1 := hk.2; have h2 := HL2.out.size; simp [Value.ownBlock] at e; omega⟩)
     have HFR := Lib.hid (show ∀ k, (w2.alloc (.cells #[] 25)).heap.size ≤ k → okL w P none k from fun k hk => ⟨(fun g e => nomatch e), by have := HLA.out.size; omega, .inr (by have := HLA.out.size; omega)⟩)
     clear hyf
     go_wp2_with (at_builtin; refine Kd.N_append_rows k25 (w0 := w2.alloc (.cells #[] 25)) (W := w2.alloc (.cells #[] 25)) (w.heap.size + 3) rfl _ _ 23 25 (.agg #[(.int .i64 0), (.string ⟨#[]⟩), (.string ⟨#[]⟩), (.slice none 0 0), (.slice none 0 0)]) 88 rfl Tryz.underlying23 info25 rfl (by decide) (by omega) (.slice (some ⟨w2.heap.size, 0, none⟩) 0 0) [] g4 (some bd4) M4 d4 (okL w P none) (fun k => P k ∧ k < w.heap.size) (by rfl) (by rfl) HLIT.out HYF.out HOK.out HFR.out (Below.refl _ _) HLA.out.size (by simp only [List.length_nil, Nat.zero_add]; omega) ?_; intro v1 w3 hr1 hb1 hg1 hat1; obtain ⟨P4, q4, rfl⟩ : ∃ A c, v1 = .slice A M4 c := (by obtain ⟨A, c, e⟩ := Kd.N_slice hr1; exact ⟨A, c, by rw [e, List.nil_append, ← HL.out.2.2.2]⟩); have HLW := Lib.hid (show LW w P #[.int .i64 3, .string f1, .string f2, .slice A3 L3 c3, .slice (some ad4) L4 c4] #[.int .i64 3, .string g1, .string g2, .slice B3 M3 d3, .slice (some bd4) M4 d4] w3.heap.size (.slice P4 M4 q4) (.slice P4 M4 q4) g4 (w3.alloc (.cells #[.int .i64 3, .string { data := #[] }, .string { data := #[] }, .slice none 0 0, .slice P4 M4 q4] 25)) from LW.start (HLA.out.under3 hb1) (by simpa using hr1) rfl); have x4 : (w3.alloc (.cells #[.int .i64 3, .string { data := #[] }, .string { data := #[] }, .slice none 0 0, .slice P4 M4 q4] 25)).cell? ⟨w.heap.size, 4, none⟩ = some (.slice (some ad4) L4 c4) := (blk_cell HLW.out.b3.boxx 4).trans rfl; clear hr1 hb1 hg1 hat1)
     clear x4 y4
     have HLS := Lib.hid (show LMr d ⟨3, g1, g2, g3, g4⟩ ⟨3, f1, f2, f3, f4⟩ 0 g4 from LMr.start HX.out.2.2.2.2.1)
     obtain ⟨ob, hob⟩ : ∃ ob, ob = w3.heap.size := ⟨_, rfl⟩
     obtain ⟨W3, hW3⟩ : ∃ W, W = w3.alloc (.cells #[.int .i64 3, .string { data := #[] }, .string { data := #[] }, .slice none 0 0, .slice P4 M4 q4] 25) := ⟨_, rfl⟩
     have HL3 := Lib.hid (show LW w P #[.int .i64 3, .string f1, .string f2, .slice A3 L3 c3, .slice (some ad4) L4 c4] #[.int .i64 3, .string g1, .string g2, .slice B3 M3 d3, .slice (some bd4) M4 d4] ob (.slice P4 M4 q4) (.slice P4 M4 q4) g4 W3 from by rw [hob, hW3]; exact HLW.out)
     rw [← hW3, ← hob]
     clear hob hW3
     go_loopg [102] L4 (fun k i wr => ∃ (j : Nat) (l : List S25) (A : Option Addr) (q : Nat), j + k = L4 ∧ i = .int .i64 (j : Int) ∧ Hid (LW w P #[.int .i64 3, .string f1, .string f2, .slice A3 L3 c3, .slice (some ad4) L4 c4] #[.int .i64 3, .string g1, .string g2, .slice B3 M3 d3, .slice (some bd4) M4 d4] ob (.slice A l.length q) (.slice A l.length q) l wr ∧ LMr d ⟨3, g1, g2, g3, g4⟩ ⟨3, f1, f2, f3, f4⟩ j l))
     case atStart => exact ⟨0, g4, P4, q4, by omega, rfl, Lib.hid ⟨by rw [← HL.out.2.2.2]; exact HL3.out, HLS.out⟩⟩
     case round =>
      obtain ⟨j, l, A, q, hj, rfl, hI⟩ := hrel
      obtain ⟨gk0, hgk0⟩ : ∃ g, g = gk := ⟨_, rfl⟩
      by_cases hlt : 1 ≤ gk
      ·have hj2 : (j : Int) < (L4 : Int) := by omega
       have hj3 : j < L4 := by omega
       obtain ⟨b, hbj⟩ : ∃ b, f4[j]? = some b := ⟨_, List.getElem?_eq_getElem (by have := HL.out.2.1; omega)⟩
       obtain ⟨ad', C3, cc3, C4, cc4, e4_, y0, y1, y2, y3, y4, hnd⟩ := (HX.out.2.2.2.2.2.1.bound.below hI.out.1.b3.below).item j b hbj
       injection e4_ with e4_
       subst e4_
       have z4 : (wr.alloc (.cells #[.int .i64 b.f0, .string b.f1, .string b.f2, .slice C3 b.f3.length cc3, .slice C4 b.f4.length cc4] 25)).cell? ⟨w.heap.size + 1, 4, none⟩ = some (.slice (some bd4) M4 d4) := (blk_cell (blk_old _ hI.out.1.b3.boxy) 4).trans rfl
       have HB := Lib.hid (And.intro hnd (And.intro hbj (List.mem_of_getElem? hbj)))
       clear hnd hbj
       go_wp2_with fail
       obtain ⟨W, hW⟩ : ∃ W, W = wr.alloc (.cells #[.int .i64 b.f0, .string b.f1, .string b.f2, .slice C3 b.f3.length cc3, .slice C4 b.f4.length cc4] 25) := ⟨_, rfl⟩
       obtain ⟨xb, hxb⟩ : ∃ xb, xb = wr.heap.size := ⟨_, rfl⟩
       have HW := Lib.hid (show (LW w P #[.int .i64 3, .string f1, .string f2, .slice A3 L3 c3, .slice (some ad4) L4 c4] #[.int .i64 3, .string g1, .string g2, .slice B3 M3 d3, .slice (some bd4) M4 d4] ob (.slice A l.length q) (.slice A l.length q) l W ∧ W.heap[xb]? = some (.cells #[.int .i64 b.f0, .string b.f1, .string b.f2, .slice C3 b.f3.length cc3, .slice C4 b.f4.length cc4] 25 (0, 0)) ∧ NdG W (fun k => P k ∧ k < w.heap.size) b C3 cc3 C4 cc4) ∧ ∀ k, (Value.slice A l.length q).ownBlock = some k → k < xb from hW ▸ ⟨⟨hI.out.1.under (below_alloc (Below.refl _ _) _), hxb ▸ blk_new rfl _, HB.out.1.below (below_alloc (Below.refl _ _) _)⟩, fun k e => hxb ▸ Kd.N_lt hI.out.1.row k e⟩)
       rw [← hW, ← hxb]
       clear hW hxb y0 y1 y2 y3 y4 z4
       go_loopg [109, 15] M4 (fun k i v3 wr => ∃ (p : Nat) (met : Bool) (l' : List S25) (A' : Option Addr) (q' : Nat), p + k = M4 ∧ i = .int .i64 (p : Int) ∧ v3 = .bool met ∧ Hid (((LW w P #[.int .i64 3, .string f1, .string f2, .slice A3 L3 c3, .slice (some ad4) L4 c4] #[.int .i64 3, .string g1, .string g2, .slice B3 M3 d3, .slice (some bd4) M4 d4] ob (.slice A' l'.length q') (.slice A' l'.length q') l' wr ∧ wr.heap[xb]? = some (.cells #[.int .i64 b.f0, .string b.f1, .string b.f2, .slice C3 b.f3.length cc3, .slice C4 b.f4.length cc4] 25 (0, 0)) ∧ NdG wr (fun k => P k ∧ k < w.heap.size) b C3 cc3 C4 cc4) ∧ ∀ k, (Value.slice A' l'.length q').ownBlock = some k → k < xb) ∧ MetR d ⟨3, g1, g2, g3, g4⟩ b p met l l'))
       case atStart => exact ⟨0, false, l, A, q, by omega, rfl, rfl, Lib.hid ⟨HW.out, .inl ⟨rfl, rfl, by simp⟩⟩⟩
       case round =>
        obtain ⟨p, met, l', A', q', hp, rfl, rfl, hJ⟩ := hrel
        by_cases hlt2 : 1 ≤ gk
        ·have hp2 : (p : Int) < (M4 : Int) := by omega
         have hp3 : p < M4 := by omega
         obtain ⟨a, hap⟩ : ∃ a, g4[p]? = some a := ⟨_, List.getElem?_eq_getElem (by have := HL.out.2.2.2; omega)⟩
         obtain ⟨bd', E3, e3, E4, e4, e4_, y0, y1, y2, y3, y4, hnd⟩ := (HX.out.2.2.2.2.2.2.bound.below hJ.out.1.1.1.b3.below).item p a hap
         injection e4_ with e4_
         subst e4_
         have HA := Lib.hid (And.intro hnd (And.intro hap (List.mem_of_getElem? hap)))
         clear hnd hap
         go_wp2_with fail
         obtain ⟨Z, hZ⟩ : ∃ Z, Z = wr.alloc (.cells #[.int .i64 a.f0, .string a.f1, .string a.f2, .slice E3 a.f3.length e3, .slice E4 a.f4.length e4] 25) := ⟨_, rfl⟩
         obtain ⟨yb, hyb⟩ : ∃ yb, yb = wr.heap.size := ⟨_, rfl⟩
         have HZ := Lib.hid (show (LW w P #[.int .i64 3, .string f1, .string f2, .slice A3 L3 c3, .slice (some ad4) L4 c4] #[.int .i64 3, .string g1, .string g2, .slice B3 M3 d3, .slice (some bd4) M4 d4] ob (.slice A' l'.length q') (.slice A' l'.length q') l' Z ∧ Z.heap[xb]? = some (.cells #[.int .i64 b.f0, .string b.f1, .string b.f2, .slice C3 b.f3.length cc3, .slice C4 b.f4.length cc4] 25 (0, 0)) ∧ NdG Z (fun k => P k ∧ k < w.heap.size) b C3 cc3 C4 cc4) ∧ Z.heap[yb]? = some (.cells #[.int .i64 a.f0, .string a.f1, .string a.f2, .slice E3 a.f3.length e3, .slice E4 a.f4.length e4] 25 (0, 0)) ∧ NdG Z (fun k => P k ∧ k < w.heap.size) a E3 e3 E4 e4 from hZ ▸ ⟨⟨hJ.out.1.1.1.under (below_alloc (Below.refl _ _) _), blk_old _ hJ.out.1.1.2.1, hJ.out.1.1.2.2.below (below_alloc (Below.refl _ _) _)⟩, hyb ▸ blk_new rfl _, HA.out.1.below (below_alloc (Below.refl _ _) _)⟩)
         rw [← hZ, ← hyb]
         clear hZ hyb y0 y1 y2 y3 y4
         obtain ⟨r0, r1, r2, r3, r4⟩ := cl5 HZ.out.2.1
         obtain ⟨t0, t1, t2, t3, t4⟩ := cl5 HZ.out.1.2.1
         refine start_ (n := 5) (S := fun w' => w'.cell? ⟨yb, 0, none⟩ = some (.int .i64 a.f0) ∧ w'.cell? ⟨yb, 1, none⟩ = some (.string a.f1) ∧ w'.cell? ⟨yb, 2, none⟩ = some (.string a.f2) ∧ w'.cell? ⟨yb, 3, none⟩ = some (.slice E3 a.f3.length e3) ∧ w'.cell? ⟨yb, 4, none⟩ = some (.slice E4 a.f4.length e4) ∧ w'.cell? ⟨xb, 0, none⟩ = some (.int .i64 b.f0) ∧ w'.cell? ⟨xb, 1, none⟩ = some (.string b.f1) ∧ w'.cell? ⟨xb, 2, none⟩ = some (.string b.f2) ∧ w'.cell? ⟨xb, 3, none⟩ = some (.slice C3 b.f3.length cc3) ∧ w'.cell? ⟨xb, 4, none⟩ = some (.slice C4 b.f4.length cc4)) (ds := []) #[false, false, false, false, false] (by kernel_rfl) rfl rfl ⟨r0, r1, r2, r3, r4, t0, t1, t2, t3, t4⟩ (fun hHeld => ?_)
         refine tk 0 (some 114) (bl 5 1) hHeld ?_
         refine tk 2 (some 116) (bl 5 5) hHeld ?_
         refine on_ 1 (some 115) (bl 5 7) fun K hK => ?_
         refine gs_ Tryz.func25 #[ndV a E3 e3 E4 e4] ?_
         refine (nameOf25 Z.drew a E3 E4 e3 e4 (HZ.out.2.2.now.below (below_drew (Below.refl _ _))) (HX.out.2.1.item a HA.out.2.2).1.nd).mono ?_
         rintro e w8 ⟨rfl, hbc⟩
         have HB8 := Lib.hid hbc
         clear hbc
         refine ⟨_, rfl, ?_⟩
         refine hK.out _ _ (he10 HB8.out hHeld) (fun hHeld => ?_)
         clear hK K
         refine nr (some 115) ?_
         refine on_ 3 (some 117) (bl 5 15) fun K hK => ?_
         refine gs_ Tryz.func25 #[ndV b C3 cc3 C4 cc4] ?_
         refine (nameOf25 w8 b C3 C4 cc3 cc4 (HZ.out.1.2.2.now.below ((below_drew (Below.refl Z.heap.size Z)).trans HB8.out)) (HX.out.1.item b HB.out.2.2).1.nd).mono ?_
         rintro e w9 ⟨rfl, hbc⟩
         have HBC := Lib.hid hbc
         have HB9 := Lib.hid (show Below Z.heap.size Z w9 from ((below_drew (Below.refl Z.heap.size Z)).trans HB8.out).trans (hbc.mono ((below_drew (Below.refl Z.heap.size Z)).trans HB8.out).size))
         clear hbc
         refine ⟨_, rfl, ?_⟩
         refine hK.out _ _ (he10 HBC.out hHeld) (fun hHeld => ?_)
         clear hK K
         refine nr (some 117) ?_
         refine pu 4 (some 118) (bl 5 31) ?_
         refine done_ (by kernel_rfl) ?_
         have HA9 := Lib.hid (show (LW w P #[.int .i64 3, .string f1, .string f2, .slice A3 L3 c3, .slice (some ad4) L4 c4] #[.int .i64 3, .string g1, .string g2, .slice B3 M3 d3, .slice (some bd4) M4 d4] ob (.slice A' l'.length q') (.slice A' l'.length q') l' w9 ∧ w9.heap[xb]? = some (.cells #[.int .i64 b.f0, .string b.f1, .string b.f2, .slice C3 b.f3.length cc3, .slice C4 b.f4.length cc4] 25 (0, 0)) ∧ NdG w9 (fun k => P k ∧ k < w.heap.size) b C3 cc3 C4 cc4) ∧ w9.heap[yb]? = some (.cells #[.int .i64 a.f0, .string a.f1, .string a.f2, .slice E3 a.f3.length e3, .slice E4 a.f4.length e4] 25 (0, 0)) ∧ NdG w9 (fun k => P k ∧ k < w.heap.size) a E3 e3 E4 e4 from ⟨⟨HZ.out.1.1.under HB9.out, (HB9.out.block _ (lt_of_block HZ.out.1.2.1)).trans HZ.out.1.2.1, HZ.out.1.2.2.below HB9.out⟩, (HB9.out.block _ (lt_of_block HZ.out.2.1)).trans HZ.out.2.1, HZ.out.2.2.below HB9.out⟩)
         clear r0 r1 r2 r3 r4 t0 t1 t2 t3 t4 HB8 HB9 HZ
         cases hnn : ((nmo a).toList == (nmo b).toList) with
         | false =>
          have HNN := Lib.hid hnn
          go_wp2_with fail
          go_roundg (gk - 1)
          case measure => omega
          case rel => exact ⟨p + 1, met, l', A', q', by omega, by go_num, rfl, Lib.hid ⟨⟨HA9.out.1, hJ.out.1.2⟩, hJ.out.2.skip HA.out.2.1 fun e => absurd HNN.out (by rw [e]; simp)⟩⟩
         | true =>
          have HNN := Lib.hid (toList_inj (beq_iff_eq.1 hnn))
          have hlen : l'.length = l.length := hJ.out.2.len
          have hml : M4 ≤ l.length := by
           have h1 := hI.out.2.len
           obtain ⟨new, h2, _⟩ := addN_app (l := (f4.map nmo).take j) (acc := g4.map nmo)
           rw [h1]
           simp only [h2, List.length_append, List.length_map, HL.out.2.2.2]
           omega
          obtain ⟨rg, cap, hv4, _⟩ := Kd.N_form HA9.out.1.1.row (by omega)
          injection hv4 with hv4 _ hv5
          subst hv4
          have hpl : (p : Int) < (l'.length : Int) := by omega
          have hpl' : p < l'.length := by omega
          clear hv5 hml hlen
          have o4 : w9.cell? ⟨ob, 4, none⟩ = some (.slice (some ⟨rg, 0, none⟩) l'.length q') := (blk_cell HA9.out.1.1.boxo 4).trans rfl
          obtain ⟨r0, r1, r2, r3, r4⟩ := cl5 HA9.out.2.1
          obtain ⟨t0, t1, t2, t3, t4⟩ := cl5 HA9.out.1.2.1
          go_wp2_with fail
          refine start_ (n := 10) (S := fun w' => w'.cell? ⟨ob, 4, none⟩ = some (.slice (some ⟨rg, 0, none⟩) l'.length q') ∧ w'.cell? ⟨yb, 0, none⟩ = some (.int .i64 a.f0) ∧ w'.cell? ⟨yb, 1, none⟩ = some (.string a.f1) ∧ w'.cell? ⟨yb, 2, none⟩ = some (.string a.f2) ∧ w'.cell? ⟨yb, 3, none⟩ = some (.slice E3 a.f3.length e3) ∧ w'.cell? ⟨yb, 4, none⟩ = some (.slice E4 a.f4.length e4) ∧ w'.cell? ⟨xb, 0, none⟩ = some (.int .i64 b.f0) ∧ w'.cell? ⟨xb, 1, none⟩ = some (.string b.f1) ∧ w'.cell? ⟨xb, 2, none⟩ = some (.string b.f2) ∧ w'.cell? ⟨xb, 3, none⟩ = some (.slice C3 b.f3.length cc3) ∧ w'.cell? ⟨xb, 4, none⟩ = some (.slice C4 b.f4.length cc4)) (ds := [8]) #[false, false, false, false, false, false, false, false, false, false] (by kernel_rfl) rfl rfl ⟨o4, r0, r1, r2, r3, r4, t0, t1, t2, t3, t4⟩ (fun hHeld => ?_)
          refine pu 0 (some 119) (bl 10 1) ?_
          refine pu 2 (some 121) (bl 10 5) ?_
          refine pu 5 (some 124) (bl 10 37) ?_
          refine tk 1 (some 120) (bl 10 39) hHeld ?_
          refine tk 3 (some 122) (bl 10 47) hHeld ?_
          refine tk 4 (some 123) (bl 10 63) hHeld ?_
          refine on_ 6 (some 125) (bl 10 127) fun K hK => ?_
          refine gs_ Tryz.func12 #[ndV b C3 cc3 C4 cc4, ndV a E3 e3 E4 e4, .bool true] ?_
          refine (HI.out (fun k => P k ∧ k < w.heap.size) b a (HX.out.1.item b HB.out.2.2) (HX.out.2.1.item a HA.out.2.2) ⟨(HX.out.2.2.1.1.2.2 rfl).2 HNM.out.1 a HA.out.2.2 b HB.out.2.2 HNN.out, HX.out.2.2.1.2.1.1 b HB.out.2.2, HX.out.2.2.1.2.2.1 a HA.out.2.2⟩ (HX.out.2.2.2.1.item b HB.out.2.2) (HX.out.2.2.2.2.1.item a HA.out.2.2) w9.drew C3 C4 E3 E4 cc3 cc4 e3 e4 (HA9.out.1.2.2.below (below_drew (Below.refl _ _))) (HA9.out.2.2.below (below_drew (Below.refl _ _)))).mono ?_
          rintro e w10 ⟨m, R3, s3, R4, s4, rfl, hmr, hbm, hng, hbc⟩
          have HMR := Lib.hid (And.intro hmr (And.intro hbm hng))
          have HBC := Lib.hid hbc
          have HL10 := Lib.hid ((HA9.out.1.1.under (below_drew (Below.refl _ _))).under hbc)
          clear hmr hbm hng hbc
          refine ⟨_, rfl, ?_⟩
          refine hK.out _ _ (he11 HBC.out hHeld) (fun hHeld => ?_)
          clear hK K
          refine nr (some 125) ?_
          refine pu 7 (some 126) (bl 10 255) ?_
          refine ls_ 8 none (bl 10 511) fun K hK => ?_
          obtain ⟨c, hcl, hFK, hcc, hfr⟩ := Kd.N_elem HL10.out.row z25 (p : Int) (by omega) (by omega)
          obtain ⟨d0, d1, d2, d3', d4', rfl⟩ : ∃ d0 d1 d2 d3 d4, c = [d0, d1, d2, d3, d4] := by
           match c, hcl with
           | [d0, d1, d2, d3, d4], _ => exact ⟨d0, d1, d2, d3, d4, rfl⟩
          have es : k25.sz = 5 := rfl
          have hcc0 := hcc
          simp only [Int.toNat_natCast, es] at hcc hfr
          have hrw : rg < w9.heap.size := Kd.N_lt HA9.out.1.1.row rg (by simp [Value.ownBlock])
          have hseg := Kd.N_seg HL10.out.row (p : Int) (by omega) (by omega) (c := [d0, d1, d2, d3', d4']) (seg := [.int .i64 m.f0, .string m.f1, .string m.f2, .slice R3 m.f3.length s3, .slice R4 m.f4.length s4]) (j := 0) (x' := m) (okp := fun k => (P k ∧ k < w.heap.size) ∨ w9.drew.heap.size ≤ k) rfl hcc0 (by simp [es]) (k25_mkF w10 _ m HMR.out.2.2.kcap HMR.out.2.2.keys HMR.out.2.2.icap HMR.out.2.2.items) (fun k hk => by
           rcases hk with hk | hk
           ·exact ⟨(HL10.out.okp k hk).1, fun e => (HL10.out.okp k hk).2 (by rw [e]; simp [Value.ownBlock])⟩
           ·exact ⟨HA9.out.1.1.fresh k hk, fun e => by have h1 : w9.heap.size ≤ k := hk; omega⟩)
          have hkp : Keep (fun k => k = rg) w10 (((((w10.setCell ⟨rg, p * 5, none⟩ (.int .i64 m.f0)).setCell ⟨rg, p * 5 + 1, none⟩ (.string m.f1)).setCell ⟨rg, p * 5 + 2, none⟩ (.string m.f2)).setCell ⟨rg, p * 5 + 3, none⟩ (.slice R3 m.f3.length s3)).setCell ⟨rg, p * 5 + 4, none⟩ (.slice R4 m.f4.length s4)) := (Keep.refl (fun k => k = rg) w10).grown hseg.2 (fun k _ e => by injection e with e; exact e.symm)
          have hxr : xb ≠ rg := by have := hJ.out.1.2 rg (by simp [Value.ownBlock]); omega
          have hrl := HL10.out.b3.size
          have hrb : w.heap.size + 3 ≤ rg := Kd.N_base HL10.out.row rg (by simp [Value.ownBlock])
          have HMN := Lib.hid (show LW w P #[.int .i64 3, .string f1, .string f2, .slice A3 L3 c3, .slice (some ad4) L4 c4] #[.int .i64 3, .string g1, .string g2, .slice B3 M3 d3, .slice (some bd4) M4 d4] ob (.slice (some ⟨rg, 0, none⟩) l'.length q') (.slice (some ⟨rg, 0, none⟩) l'.length q') (l'.set p m) (((((w10.setCell ⟨rg, p * 5, none⟩ (.int .i64 m.f0)).setCell ⟨rg, p * 5 + 1, none⟩ (.string m.f1)).setCell ⟨rg, p * 5 + 2, none⟩ (.string m.f2)).setCell ⟨rg, p * 5 + 3, none⟩ (.slice R3 m.f3.length s3)).setCell ⟨rg, p * 5 + 4, none⟩ (.slice R4 m.f4.length s4)) ∧ (((((w10.setCell ⟨rg, p * 5, none⟩ (.int .i64 m.f0)).setCell ⟨rg, p * 5 + 1, none⟩ (.string m.f1)).setCell ⟨rg, p * 5 + 2, none⟩ (.string m.f2)).setCell ⟨rg, p * 5 + 3, none⟩ (.slice R3 m.f3.length s3)).setCell ⟨rg, p * 5 + 4, none⟩ (.slice R4 m.f4.length s4)).heap[xb]? = some (.cells #[.int .i64 b.f0, .string b.f1, .string b.f2, .slice C3 b.f3.length cc3, .slice C4 b.f4.length cc4] 25 (0, 0)) ∧ NdG (((((w10.setCell ⟨rg, p * 5, none⟩ (.int .i64 m.f0)).setCell ⟨rg, p * 5 + 1, none⟩ (.string m.f1)).setCell ⟨rg, p * 5 + 2, none⟩ (.string m.f2)).setCell ⟨rg, p * 5 + 3, none⟩ (.slice R3 m.f3.length s3)).setCell ⟨rg, p * 5 + 4, none⟩ (.slice R4 m.f4.length s4)) (fun k => P k ∧ k < w.heap.size) b C3 cc3 C4 cc4 from ⟨HL10.out.grow hseg.1 hseg.2, hkp.at_ ((HBC.out.block _ (lt_of_block HA9.out.1.2.1)).trans HA9.out.1.2.1) hxr, ((HA9.out.1.2.2.below (below_drew (Below.refl _ _))).below HBC.out).keep hkp fun k hk e => by have := hk.2; omega⟩)
          have y0 : w10.cell? ⟨rg, p * 5, none⟩ = some d0 := hcc 0 _ rfl
          have y1 := hcc 1 _ rfl
          have y2 := hcc 2 _ rfl
          have y3 := hcc 3 _ rfl
          have y4 := hcc 4 _ rfl
          have u0 : w10.frozen? ⟨rg, p * 5, none⟩ = false := hfr 0
          have u1 := hfr 1
          have u2 := hfr 2
          have u3 := hfr 3
          have u4 := hfr 4
          clear hseg hcc0 hkp hxr hrl hrb hrw
          refine skip_ (w1 := ?_) (by rfl) rfl ?_ ?_
          rotate_left
          ·go_simp
           rfl
          clear y0 y1 y2 y3 y4 u0 u1 u2 u3 u4 hFK hcc hfr es hcl
          refine hK.out _ _ ?_
          clear hK K
          refine pu 9 (some 15) (bl 10 1023) ?_
          refine done_ (by kernel_rfl) ?_
          go_wp2_with fail
          go_roundg (gk - 1)
          case measure => omega
          case rel => exact ⟨p + 1, true, l'.set p m, some ⟨rg, 0, none⟩, q', by omega, by go_num, rfl, Lib.hid ⟨⟨⟨by rw [List.length_set]; exact HMN.out.1, HMN.out.2.1, HMN.out.2.2⟩, fun k e => hJ.out.1.2 k e⟩, hJ.out.2.hit HNM.out.1.2.2 HA.out.2.1 HNN.out HMR.out.1 HMR.out.2.1⟩⟩
        ·have hqe : ¬ ((p : Int) < (M4 : Int)) := by omega
         have hqe' : ¬ (p < M4) := by omega
         have HP := Lib.hid (show p = M4 by omega)
         have HJ := Lib.hid hJ.out
         clear hJ hp
         cases met with
         | true =>
          go_wp2_with fail
          go_roundg (gk0 - 1)
          case measure => omega
          case rel =>
           refine ⟨j + 1, l', A', q', by omega, by go_num, Lib.hid ⟨HJ.out.1.1.1, ?_⟩⟩
           rcases HJ.out.2 with ⟨h, _⟩ | ⟨_, i, a, m, _, h2, h3, h4, h5, h6⟩
           ·cases h
           ·rw [h6]
            exact hI.out.2.both HNM.out.1.2.2 HNM.out.2.2.2 h2 HB.out.2.1 h3 h4 h5
         | false =>
          have o4 : wr.cell? ⟨ob, 4, none⟩ = some (.slice A' l'.length q') := (blk_cell HJ.out.1.1.1.boxo 4).trans rfl
          obtain ⟨t0, t1, t2, t3, t4⟩ := cl5 HJ.out.1.1.2.1
          have HFK := Lib.hid (k25_mkF wr _ b HJ.out.1.1.2.2.kcap HJ.out.1.1.2.2.keys HJ.out.1.1.2.2.icap HJ.out.1.1.2.2.items)
          have hlb : l'.length ≤ 2000000 := by
           have h1 := hI.out.2.len
           have h2 : (addN (g4.map nmo) ((f4.map nmo).take j)).length ≤ (g4.map nmo).length + ((f4.map nmo).take j).length := addN_len
           have h3 := HJ.out.2.len
           simp only [List.length_map, List.length_take] at h2
           have h4 := HL.out.2.1
           have h5 := HL.out.2.2.2
           simp only at h1
           omega
          go_wp2_with (at_builtin; refine Kd.N_append k25 (w0 := wr) (W := wr) (w.heap.size + 3) rfl _ _ 23 25 (.agg #[(.int .i64 0), (.string ⟨#[]⟩), (.string ⟨#[]⟩), (.slice none 0 0), (.slice none 0 0)]) 88 rfl Tryz.underlying23 info25 rfl (by decide) (by omega) (.slice A' l'.length q') l' b [.int .i64 b.f0, .string b.f1, .string b.f2, .slice C3 b.f3.length cc3, .slice C4 b.f4.length cc4] (okL w P (some ob)) (fun k => P k ∧ k < w.heap.size) (by rfl) (by rfl) HFK.out HJ.out.1.1.1.okp HJ.out.1.1.1.fresh HJ.out.1.1.1.row (Below.refl _ _) HJ.out.1.1.1.b3.size (by omega) ?_; intro v1 w5 hr1 hb1 hg1 hat1; obtain ⟨A5, q5, rfl⟩ : ∃ A c, v1 = .slice A (l'.length + 1) c := (by obtain ⟨A, c, e⟩ := Kd.N_slice hr1; exact ⟨A, c, by rw [e, List.length_append]; rfl⟩); have HL5 := Lib.hid (HJ.out.1.1.1.grow hr1 hg1); have k4 := blk_cell HL5.out.boxo 4; have z4 := blk_frozen HL5.out.boxo 4; clear hr1 hb1 hg1 hat1)
          have HL6 := Lib.hid (HL5.out.put4 (.slice A5 (l'.length + 1) q5))
          go_roundg (gk0 - 1)
          case measure => omega
          case rel =>
           refine ⟨j + 1, l' ++ [b], A5, q5, by omega, by go_num, Lib.hid ⟨by rw [List.length_append]; exact HL6.out, ?_⟩⟩
           rcases HJ.out.2 with ⟨_, h2, h3⟩ | ⟨h, _⟩
           ·rw [h2]
            refine hI.out.2.new HNM.out.2.2.2 HB.out.2.1 ?_ (HX.out.2.2.2.1.item b HB.out.2.2)
            have h4 : nmo b ∉ (g4.map nmo).take p := h3
            rw [List.take_of_length_le (by rw [List.length_map]; have h5 := HP.out; have h6 := HL.out.2.2.2; omega)] at h4
            exact h4
           ·cases h
      ·have hqe : ¬ ((j : Int) < (L4 : Int)) := by omega
       have hqe' : ¬ (j < L4) := by omega
       have HJE := Lib.hid (show j = f4.length by have := HL.out.2.1; omega)
       obtain ⟨o0, o1, o2, o3, o4⟩ := cl5 hI.out.1.boxo
       obtain ⟨r0, r1, r2, r3, r4⟩ := cl5 hI.out.1.b3.boxr
       obtain ⟨rz0, rz1, rz2, rz3, rz4⟩ := fz5 hI.out.1.b3.boxr
       go_wp2_with fail
       have hfin := hI.out.1.b3.fin (P := P) (m := ⟨3, noStr, noStr, [], l⟩) hI.out.1.nd.2 rfl
       have hdone := LMr.done (x := ⟨3, f1, f2, f3, f4⟩) (y := ⟨3, g1, g2, g3, g4⟩) (d := d) rfl (named_names HX.out.2.1.1 HNM.out.1) (named_names HX.out.1.1 HNM.out.2) (show LMr d ⟨3, g1, g2, g3, g4⟩ ⟨3, f1, f2, f3, f4⟩ f4.length l from HJE.out ▸ hI.out.2)
       exact bodyPost_ret (results_cell_row rfl _ _ (w.heap.size + 1 + 1) 25 #[.int .i64 3, .string noStr, .string noStr, nilS, .slice A l.length q] (0, 0) _ rfl hfin.1 Tryz.underlying25 rfl (by kernel_rfl)) rfl ⟨⟨3, noStr, noStr, [], l⟩, none, 0, A, q, rfl, hdone.1, hdone.2, hfin.2.1, hfin.2.2⟩
   ·have hkc : (g0 == 3) = false := beq_false_of_ne hk3
    have HK3 := Lib.hid hk3
    clear hx hy hal hbx hby ha hb ih hL3 hL4 hM3 hM4 hk hk3
    go_enter Tryz.func12, Tryz.ntmps12
    go_wp2_with fail
    refine bodyPost_ret (results_cell_row rfl _ _ (w.heap.size + 1 + 1) 25 #[.int .i64 g0, .string f1, .string f2, .slice A3 L3 c3, .slice A4 L4 c4] (0, 0) _ rfl (blk_new (by simp) _) Tryz.underlying25 rfl (by kernel_rfl)) rfl ?_
    refine ⟨⟨g0, f1, f2, f3, f4⟩, A3, c3, A4, c4, ?_, .inl ⟨HK.out, fun h => HK3.out h.2.1, rfl⟩, HX.out.2.2.2.1, (HX.out.2.2.2.2.2.1.below (below_alloc (below_alloc (below_alloc (Below.refl _ _) _) _) _)).mono fun k hp => .inl hp, below_alloc (below_alloc (below_alloc (Below.refl _ _) _) _) _⟩
    simp only [ndV, ← HL.out.1, ← HL.out.2.1]
end Go.Proofs.YtghmajlfmoggfaaGreat
namespace Go.Proofs.YtghmajlfmoggfaaGreat
open Go.RowKit Go.Proofs.YtghmajlfmoggfaaGreatW.PrintWords Go.Proofs.YtghmajlfmoggfaaGreatW.PrintLast PFnMerge
theorem named_clear {d : Nat} {x : S25} (hx : TreeP (d + 1) x) (hc : ClearP (d + 1) x) (h : NamedS x) : named x := by
 obtain ⟨h0, ns, hn⟩ := h
 refine hc.2 h0 fun z hz => hasNm_field (hx.item z hz) ?_
 obtain ⟨i, hi⟩ := List.getElem?_of_mem hz
 have hil := (List.getElem?_eq_some_iff.1 hi).1
 exact (hn.2.2.2 i z _ hi (List.getElem?_eq_getElem (by rw [hn.1]; exact hil))).has
theorem NamedB.nmo {d : Nat} {z : S25} {s : ByteArray} (hz : TreeP d z) (h : NamedB z s) : nmo z = s := by
 obtain ⟨h0, tag, hf⟩ := h
 obtain ⟨i, h1, h2⟩ := fld_at' hf
 have e : fieldO z nameKey = some ⟨1, s, tag, [], []⟩ := fieldO_some hz.nd.1 ⟨h0, i, h1, h2⟩
 rw [Go.Proofs.YtghmajlfmoggfaaGreat.nmo, e]
 rfl
theorem elm_named {d : Nat} {l : List S25} {ns : List ByteArray} {s : ByteArray} {z : S25} (hl : ∀ z ∈ l, TreeP d z) (hn : NamesL l ns) (h : elm l ns s z) : z ∈ l ∧ nmo z = s := by
 obtain ⟨i, h1, h2⟩ := h
 have hm := List.mem_of_getElem? h2
 exact ⟨hm, (hn.2.2.2 i z s h2 h1).nmo (hl z hm)⟩
theorem alikeI_of : ∀ {d : Nat} {x y : S25}, TreeB d x → TreeB d y → ClearP d x → ClearP d y → AlikeM d x y → AlikeI true d x y := by
 intro d
 induction d with
 | zero => intro x y hx; exact hx.1.elim
 | succ d ih =>
  intro x y hx hy hcx hcy h
  refine ⟨h.1, fun h2 key a b ha hb => ?_, fun h3 _ => ?_⟩
  ·have hma := fld_mem ha
   have hmb := fld_mem hb
   exact ih (hx.item a hma) (hy.item b hmb) (hcx.1 a hma) (hcy.1 b hmb) (h.2.1 h2 key a b ha hb)
  ·obtain ⟨h4, h5⟩ := h.2.2 h3
   refine ⟨⟨fun hN => ?_, fun hN => ?_⟩, fun nx ny hnx hny s a b ha hb => ?_⟩
   ·have h6 := h4.1 (named_clear hx.1 hcx hN)
    exact ⟨h6.1, _, named_names hy.1 h6⟩
   ·have h6 := h4.2 (named_clear hy.1 hcy hN)
    exact ⟨h6.1, _, named_names hx.1 h6⟩
   ·obtain ⟨m1, e1⟩ := elm_named hx.1.item hnx ha
    obtain ⟨m2, e2⟩ := elm_named hy.1.item hny hb
    exact ih (hx.item a m1) (hy.item b m2) (hcx.1 a m1) (hcy.1 b m2) (h5 (named_clear hx.1 hcx ⟨h3, nx, hnx⟩) a m1 b m2 (e1.trans e2.symm))
theorem elm_one {l : List S25} {ns : List ByteArray} (hn : ns.Nodup) {s : ByteArray} {z z' : S25} (h : elm l ns s z) (h' : elm l ns s z') : z = z' := by
 obtain ⟨i, h1, h2⟩ := h
 obtain ⟨j, h3, h4⟩ := h'
 have := nodup_idx hn h1 h3
 subst this
 rw [h2] at h4
 injection h4
theorem elm_mem {l : List S25} {ns : List ByteArray} {s : ByteArray} {z : S25} (h : elm l ns s z) : z ∈ l ∧ s ∈ ns := by
 obtain ⟨i, h1, h2⟩ := h
 exact ⟨List.mem_of_getElem? h2, List.mem_of_getElem? h1⟩
theorem TreeN.nd : ∀ {n : Nat} {x : S25}, TreeN n x → x.f3.Nodup
 | 0, _, h => h.elim
 | n + 1, x, h => by
  rcases h with ⟨_, h, _⟩ | ⟨_, _, _, _, _, h, _⟩ | ⟨_, _, _, h, _⟩
  ·rw [h]; exact List.nodup_nil
  ·exact h
  ·rw [h]; exact List.nodup_nil
theorem names_one {n : Nat} {l : List S25} {ns ns' : List ByteArray} (hl : ∀ z ∈ l, TreeN n z) (h : NamesL l ns) (h' : NamesL l ns') : ns = ns' := by
 refine List.ext_getElem? fun i => ?_
 by_cases hi : i < l.length
 ·have hz := List.getElem?_eq_getElem hi
  have h1 := List.getElem?_eq_getElem (show i < ns.length by rw [h.1]; exact hi)
  have h2 := List.getElem?_eq_getElem (show i < ns'.length by rw [h'.1]; exact hi)
  obtain ⟨_, t1, f1⟩ := h.2.2.2 i _ _ hz h1
  obtain ⟨_, t2, f2⟩ := h'.2.2.2 i _ _ hz h2
  have := fld_one (hl _ (List.getElem_mem hi)).nd f1 f2
  injection this with _ this
  rw [h1, h2, this]
 ·rw [List.getElem?_eq_none (by rw [h.1]; omega), List.getElem?_eq_none (by rw [h'.1]; omega)]
theorem mrelI_same : ∀ {n : Nat} {d s m m' : S25}, TreeN n d → TreeN n s → AlikeI true n d s → MRelI true n d s m → MRelI true n d s m' → SameR n m m' := by
 intro n
 induction n with
 | zero => intro d s m m' h; exact h.elim
 | succ n ih =>
  intro d s m m' hd hs hal h h'
  rcases h with ⟨h0, hN, rfl⟩ | ⟨h2, m0, m1, m2, ml, mn, mk, mv⟩ | ⟨_, nd, ns, h3, hnd, hns, m0, m1, m2, m3, ml, mv⟩
  ·rcases h' with ⟨_, _, rfl⟩ | ⟨h2, _⟩ | ⟨_, nd, ns, h3, hnd, _⟩
   ·exact hs.same
   ·exact absurd h2 h0
   ·exact absurd ⟨rfl, h3, nd, hnd⟩ hN
  ·rcases h' with ⟨h0, _⟩ | ⟨_, p0, p1, p2, pl, pn, pk, pv⟩ | ⟨_, _, _, h3, _⟩
   ·exact absurd h2 h0
   ·have hd' : d.f3.Nodup ∧ ∀ z ∈ d.f4, TreeN n z := by
     rcases hd with ⟨h1, _⟩ | ⟨_, _, _, _, _, h5, h6⟩ | ⟨h1, _⟩
     ·omega
     ·exact ⟨h5, h6⟩
     ·omega
    have hs' : s.f3.Nodup ∧ ∀ z ∈ s.f4, TreeN n z := by
     have := hal.1
     rcases hs with ⟨h1, _⟩ | ⟨_, _, _, _, _, h5, h6⟩ | ⟨h1, _⟩
     ·omega
     ·exact ⟨h5, h6⟩
     ·omega
    have hle : m.f3.length = m'.f3.length := Nat.le_antisymm (nodup_len_le mn fun k hk => (pk k).2 ((mk k).1 hk)) (nodup_len_le pn fun k hk => (mk k).2 ((pk k).1 hk))
    refine ⟨m0.trans p0.symm, m1.trans p1.symm, fun h1 => by omega, hle, by omega, fun _ => ⟨pn, ml, fun key v hv => ?_⟩, fun h1 => absurd m0 h1⟩
    obtain ⟨v', hv'⟩ := fld_has pl ((pk key).2 ((mk key).1 (fld_key hv)))
    refine ⟨v', hv', ?_⟩
    rcases mv key v hv with ⟨a, b, ha, hb, hr⟩ | ⟨ha, hn⟩ | ⟨ha, hn⟩
    ·rcases pv key v' hv' with ⟨a', b', ha', hb', hr'⟩ | ⟨_, hn'⟩ | ⟨_, hn'⟩
     ·obtain rfl := fld_one hd'.1 ha ha'
      obtain rfl := fld_one hs'.1 hb hb'
      exact ih (hd'.2 a (fld_mem ha)) (hs'.2 b (fld_mem hb)) (hal.2.1 h2 key a b ha hb) hr hr'
     ·exact absurd (fld_key hb) hn'
     ·exact absurd (fld_key ha) hn'
    ·rcases pv key v' hv' with ⟨a', b', ha', hb', hr'⟩ | ⟨ha', _⟩ | ⟨hb', hn'⟩
     ·exact absurd (fld_key hb') hn
     ·obtain rfl := fld_one hd'.1 ha ha'
      exact (hd'.2 v (fld_mem ha)).same
     ·exact absurd (fld_key hb') hn
    ·rcases pv key v' hv' with ⟨a', b', ha', hb', hr'⟩ | ⟨ha', _⟩ | ⟨hb', hn'⟩
     ·exact absurd (fld_key ha') hn
     ·exact absurd (fld_key ha') hn
     ·obtain rfl := fld_one hs'.1 ha hb'
      exact (hs'.2 v (fld_mem ha)).same
   ·omega
  ·have hd' : ∀ z ∈ d.f4, TreeN n z := by
    rcases hd with ⟨h1, _⟩ | ⟨h1, _⟩ | ⟨_, _, _, _, _, h6⟩
    ·omega
    ·omega
    ·exact h6
   have hs' : ∀ z ∈ s.f4, TreeN n z := by
    have := hal.1
    rcases hs with ⟨h1, _⟩ | ⟨h1, _⟩ | ⟨_, _, _, _, _, h6⟩
    ·omega
    ·omega
    ·exact h6
   rcases h' with ⟨_, hN, _⟩ | ⟨h2, _⟩ | ⟨_, nd', ns', _, hnd', hns', p0, p1, p2, p3, pl, pv⟩
   ·exact absurd ⟨rfl, h3, nd, hnd⟩ hN
   ·omega
   ·obtain rfl := names_one hd' hnd hnd'
    obtain rfl := names_one hs' hns hns'
    refine ⟨m0.trans p0.symm, m1.trans p1.symm, fun h1 => by omega, by rw [m3, p3], by omega, fun h1 => by omega, fun _ i v v' hv hv' => ?_⟩
    have hil : i < (addN nd ns).length := by rw [← ml]; exact (List.getElem?_eq_some_iff.1 hv).1
    have hk := List.getElem?_eq_getElem hil
    rcases mv _ v ⟨i, hk, hv⟩ with ⟨a, b, ha, hb, hr⟩ | ⟨ha, hn⟩ | ⟨ha, hn⟩
    ·rcases pv _ v' ⟨i, hk, hv'⟩ with ⟨a', b', ha', hb', hr'⟩ | ⟨_, hn'⟩ | ⟨_, hn'⟩
     ·obtain rfl := elm_one hnd.2.1 ha ha'
      obtain rfl := elm_one hns.2.1 hb hb'
      exact ih (hd' a (elm_mem ha).1) (hs' b (elm_mem hb).1) ((hal.2.2 h3 rfl).2 nd ns hnd hns _ a b ha hb) hr hr'
     ·exact absurd (elm_mem hb).2 hn'
     ·exact absurd (elm_mem ha).2 hn'
    ·rcases pv _ v' ⟨i, hk, hv'⟩ with ⟨a', b', ha', hb', hr'⟩ | ⟨ha', _⟩ | ⟨hb', hn'⟩
     ·exact absurd (elm_mem hb').2 hn
     ·obtain rfl := elm_one hnd.2.1 ha ha'
      exact (hd' v (elm_mem ha).1).same
     ·exact absurd (elm_mem hb').2 hn
    ·rcases pv _ v' ⟨i, hk, hv'⟩ with ⟨a', b', ha', hb', hr'⟩ | ⟨ha', _⟩ | ⟨hb', hn'⟩
     ·exact absurd (elm_mem ha').2 hn
     ·exact absurd (elm_mem ha').2 hn
     ·obtain rfl := elm_one hns.2.1 ha hb'
      exact (hs' v (elm_mem ha).1).same
theorem mrelI_size : ∀ {n : Nat} {d s m : S25}, TreeN n d → TreeN n s → AlikeI true n d s → MRelI true n d s m → SzN n m := by
 intro n
 induction n with
 | zero => intro d s m h; exact h.elim
 | succ n ih =>
  intro d s m hd hs hal h
  rcases h with ⟨_, _, rfl⟩ | ⟨h2, m0, m1, m2, ml, mn, mk, mv⟩ | ⟨_, nd, ns, h3, hnd, hns, m0, m1, m2, m3, ml, mv⟩
  ·exact hs.size
  ·have hd' : d.f3.length ≤ 100 ∧ ∀ z ∈ d.f4, TreeN n z := by
    rcases hd with ⟨h1, _⟩ | ⟨_, _, _, h3, h4, h5, h6⟩ | ⟨h1, _⟩
    ·omega
    ·exact ⟨by omega, h6⟩
    ·omega
   have hs' : s.f3.length ≤ 100 ∧ ∀ z ∈ s.f4, TreeN n z := by
    have := hal.1
    rcases hs with ⟨h1, _⟩ | ⟨_, _, _, h3, h4, h5, h6⟩ | ⟨h1, _⟩
    ·omega
    ·exact ⟨by omega, h6⟩
    ·omega
   have hle : m.f3.length ≤ (d.f3 ++ s.f3).length := nodup_len_le mn fun k hk => List.mem_append.2 ((mk k).1 hk)
   rw [List.length_append] at hle
   refine ⟨by omega, fun z hz => ?_⟩
   obtain ⟨i, hi⟩ := List.getElem?_of_mem hz
   have hlt := (List.getElem?_eq_some_iff.1 hi).1
   rcases mv _ z (fld_mk (List.getElem?_eq_getElem (ml ▸ hlt)) hi) with ⟨a, b, ha, hb, hr⟩ | ⟨ha, hn⟩ | ⟨ha, hn⟩
   ·exact ih (hd'.2 a (fld_mem ha)) (hs'.2 b (fld_mem hb)) (hal.2.1 h2 _ a b ha hb) hr
   ·exact (hd'.2 z (fld_mem ha)).size
   ·exact (hs'.2 z (fld_mem ha)).size
  ·have hd' : d.f4.length ≤ 100 ∧ ∀ z ∈ d.f4, TreeN n z := by
    rcases hd with ⟨h1, _⟩ | ⟨h1, _⟩ | ⟨_, _, _, _, h5, h6⟩
    ·omega
    ·omega
    ·exact ⟨h5, h6⟩
   have hs' : s.f4.length ≤ 100 ∧ ∀ z ∈ s.f4, TreeN n z := by
    have := hal.1
    rcases hs with ⟨h1, _⟩ | ⟨h1, _⟩ | ⟨_, _, _, _, h5, h6⟩
    ·omega
    ·omega
    ·exact ⟨h5, h6⟩
   have hle : (addN nd ns).length ≤ nd.length + ns.length := addN_len
   have l1 := hnd.1
   have l2 := hns.1
   refine ⟨by omega, fun z hz => ?_⟩
   obtain ⟨i, hi⟩ := List.getElem?_of_mem hz
   have hlt := (List.getElem?_eq_some_iff.1 hi).1
   rcases mv _ z ⟨i, List.getElem?_eq_getElem (ml ▸ hlt), hi⟩ with ⟨a, b, ha, hb, hr⟩ | ⟨ha, hn⟩ | ⟨ha, hn⟩
   ·exact ih (hd'.2 a (elm_mem ha).1) (hs'.2 b (elm_mem hb).1) ((hal.2.2 h3 rfl).2 nd ns hnd hns _ a b ha hb) hr
   ·exact (hd'.2 z (elm_mem ha).1).size
   ·exact (hs'.2 z (elm_mem ha).1).size
end Go.Proofs.YtghmajlfmoggfaaGreat
