import Derived.Test.YtghmajlfmoggfaaGreatMJ6
import Derived.Test.YtghmajlfmoggfaaGreatME9
import Derived.Test.YtghmajlfmoggfaaGreatMH
import Derived.Test.YtghmajlfmoggfaaGreatMJ15
set_option linter.unusedSimpArgs false
set_option linter.unusedVariables false
namespace Go.Proofs.YtghmajlfmoggfaaGreat
open Go.RowKit Go.Proofs.YtghmajlfmoggfaaGreatW.PrintWords Go.Proofs.YtghmajlfmoggfaaGreatW.PrintLast PFnMerge
def elm (l : List S25) (ns : List ByteArray) (s : ByteArray) (z : S25) : Prop := ∃ i : Nat, ns[i]? = some s ∧ l[i]? = some z
def NamedS (x : S25) : Prop := x.f0 = 3 ∧ ∃ ns, NamesL x.f4 ns
def AlikeI (inf : Bool) : Nat → S25 → S25 → Prop
 | 0, _, _ => False
 | n + 1, x, y => x.f0 = y.f0 ∧ (x.f0 = 2 → ∀ key a b, fld x key a → fld y key b → AlikeI inf n a b) ∧
  (x.f0 = 3 → inf = true → (NamedS x ↔ NamedS y) ∧ ∀ nx ny, NamesL x.f4 nx → NamesL y.f4 ny → ∀ s a b, elm x.f4 nx s a → elm y.f4 ny s b → AlikeI inf n a b)
def MRelI (inf : Bool) : Nat → S25 → S25 → S25 → Prop
 | 0, _, _, _ => False
 | n + 1, d, s, m => (d.f0 ≠ 2 ∧ ¬ (inf = true ∧ NamedS d) ∧ m = s) ∨
  (d.f0 = 2 ∧ m.f0 = 2 ∧ m.f1 = noStr ∧ m.f2 = noStr ∧ m.f3.length = m.f4.length ∧ m.f3.Nodup ∧ (∀ key, key ∈ m.f3 ↔ key ∈ d.f3 ∨ key ∈ s.f3) ∧
   ∀ key v, fld m key v → (∃ a b, fld d key a ∧ fld s key b ∧ MRelI inf n a b v) ∨ (fld d key v ∧ key ∉ s.f3) ∨ (fld s key v ∧ key ∉ d.f3)) ∨
  (inf = true ∧ ∃ nd ns, d.f0 = 3 ∧ NamesL d.f4 nd ∧ NamesL s.f4 ns ∧ m.f0 = 3 ∧ m.f1 = noStr ∧ m.f2 = noStr ∧ m.f3 = [] ∧ m.f4.length = (addN nd ns).length ∧
   ∀ key v, elm m.f4 (addN nd ns) key v → (∃ a b, elm d.f4 nd key a ∧ elm s.f4 ns key b ∧ MRelI inf n a b v) ∨ (elm d.f4 nd key v ∧ key ∉ ns) ∨ (elm s.f4 ns key v ∧ key ∉ nd))
def NmF (w : World) (b : Nat) (s : ByteArray) (F : Nat → Prop) : Prop := ∃ C kids kid tag, MapAt w b C kids ∧ kids.find? (hasKey nmKey) = some kid ∧ NodeB w kid.cb 8 tag s nilS ∧ (tag.toList == [33, 33, 110, 117, 108, 108]) = false ∧ F b ∧ (∀ k, C.ownBlock = some k → F k) ∧ (∀ c ∈ kids, F c.kb) ∧ F kid.cb
theorem NmF.nm {w : World} {b : Nat} {s : ByteArray} {F : Nat → Prop} (h : NmF w b s F) : NmB w b s := by
 obtain ⟨C, kids, kid, tag, h1, h2, h3, h4, _⟩ := h
 exact ⟨C, kids, kid, tag, h1, h2, h3, h4⟩
theorem NmF.mono {w : World} {b : Nat} {s : ByteArray} {F G : Nat → Prop} (h : NmF w b s F) (hg : ∀ k, F k → G k) : NmF w b s G := by
 obtain ⟨C, kids, kid, tag, h1, h2, h3, h4, h5, h6, h7, h8⟩ := h
 exact ⟨C, kids, kid, tag, h1, h2, h3, h4, hg _ h5, fun k e => hg _ (h6 k e), fun c hc => hg _ (h7 c hc), hg _ h8⟩
theorem NmF.keep {w w' : World} {b : Nat} {s : ByteArray} {F T : Nat → Prop} (h : NmF w b s F) (hk : Keep T w w') (ht : ∀ k, F k → TB w k → ¬ T k) : NmF w' b s F := by
 obtain ⟨C, kids, kid, tag, h1, h2, h3, h4, h5, h6, h7, h8⟩ := h
 obtain ⟨Fr, hrow⟩ := h1.row
 exact ⟨C, kids, kid, tag, h1.keepx hk (ht _ h5 h1.node.tb) (fun k e => ht _ (h6 k e) (hrow.bound.1 k e).2) fun c hc => ht _ (h7 c hc) (h1.keys c hc).tb, h2, h3.move (hk.block _ h3.lt (ht _ h8 h3.tb)), h4, h5, h6, h7, h8⟩
theorem nmF_of {y : S25} (h0 : y.f0 = 2) (hn : y.f3.Nodup) {s tag : ByteArray} (hf : fld y nmKey ⟨1, s, tag, [], []⟩) (ht : (tag.toList == [33, 33, 110, 117, 108, 108]) = false) {w : World} {b : Nat} {F : Nat → Prop} (hr : Rep w b y F) : NmF w b s F := by
 cases hr with
 | sc _ text tag _ h hF => simp at h0
 | sq _ C kids _ h hF hr hd hk hc => simp at h0
 | mp _ C kids _ h hF hr hd hk hc =>
  obtain ⟨c, hcm, hck, hcy⟩ := zip_kid.1 hf
  have hfi := find_of_nodup hn hcm
  rw [hck] at hfi
  have hrc := hc c hcm
  rw [hcy] at hrc
  refine ⟨C, kids, c, tag, ⟨h, ⟨_, hr⟩, fun c hc => (hk c hc).1⟩, hfi, ?_, ht, hF, fun k e => (hr.1 k e).1, fun c hc => ((hk c hc).2.2 _ (hk c hc).2.1).1, ((hk c hcm).2.2 _ hrc.root.1).1⟩
  cases hrc with
  | sc _ _ _ _ h _ => exact h
theorem GoodI.nodup {inf : Bool} {n : Nat} {y : S25} (hg : GoodI inf n y) (h0 : y.f0 = 2) : y.f3.Nodup := by
 cases n with
 | zero => exact hg.elim
 | succ n =>
  rcases hg with ⟨h1, _⟩ | ⟨h1, _⟩ | ⟨_, _, _, hn, _, _⟩
  ·omega
  ·omega
  ·exact hn
theorem GoodI.item {inf : Bool} {n : Nat} {y : S25} (hg : GoodI inf (n + 1) y) (h0 : y.f0 = 2) : ∀ z ∈ y.f4, GoodI inf n z := by
 rcases hg with ⟨h1, _⟩ | ⟨h1, _⟩ | ⟨_, _, _, _, _, h⟩
 ·omega
 ·omega
 ·exact h
theorem GoodI.tag {inf : Bool} {n : Nat} {y : S25} (hg : GoodI inf n y) (h0 : y.f0 = 1) : (y.f2.toList == [33, 33, 110, 117, 108, 108]) = false := by
 cases n with
 | zero => exact hg.elim
 | succ n =>
  rcases hg with ⟨_, h⟩ | ⟨h1, _⟩ | ⟨h1, _⟩
  ·exact h
  ·omega
  ·omega
theorem GoodI.nmF {inf : Bool} {n : Nat} {y : S25} (hg : GoodI inf n y) {s : ByteArray} (hs : NamedB y s) {w : World} {b : Nat} {F : Nat → Prop} (hr : Rep w b y F) : NmF w b s F := by
 obtain ⟨h0, tag, hf⟩ := hs
 refine nmF_of h0 (hg.nodup h0) hf ?_ hr
 cases n with
 | zero => exact hg.elim
 | succ n => exact (hg.item h0 _ (fld_mem hf)).tag rfl
theorem MRelI.nmF {inf : Bool} {n : Nat} {d s m : S25} {nm : ByteArray} (hgd : GoodI inf n d) (hgs : GoodI inf n s) (hd : NamedB d nm) (hs : NamedB s nm) (h : MRelI inf n d s m) : m.f0 = 2 ∧ ∀ {w : World} {b : Nat} {F : Nat → Prop}, Rep w b m F → NmF w b nm F := by
 obtain ⟨d0, td, fd⟩ := hd
 obtain ⟨s0, ts, fs⟩ := hs
 cases n with
 | zero => exact hgd.elim
 | succ n =>
  rcases h with ⟨h0, _⟩ | ⟨_, m0, m1, m2, ml, mn, mk, mv⟩ | ⟨_, _, _, h0, _⟩
  ·exact absurd d0 h0
  ·refine ⟨m0, fun hr => ?_⟩
   obtain ⟨v, hv⟩ := fld_has ml ((mk nmKey).2 (.inl (fld_key fd)))
   have hvs : v = ⟨1, nm, ts, [], []⟩ := by
    rcases mv nmKey v hv with ⟨a, b, ha, hb, hr⟩ | ⟨_, hn⟩ | ⟨_, hn⟩
    ·obtain rfl := fld_one (hgd.nodup d0) ha fd
     obtain rfl := fld_one (hgs.nodup s0) hb fs
     cases n with
     | zero => exact hr.elim
     | succ n =>
      rcases hr with ⟨_, _, h⟩ | ⟨h, _⟩ | ⟨_, _, _, h, _⟩
      ·exact h
      ·simp at h
      ·simp at h
    ·exact absurd (fld_key fs) hn
    ·exact absurd (fld_key fd) hn
   subst hvs
   exact nmF_of m0 mn hv ((hgs.item s0 _ (fld_mem fs)).tag rfl) hr
  ·omega
theorem putL_new : ∀ {E : List Nat} {new : List ByteArray} {bd : List Nat} {nd : List ByteArray}, E.length = new.length → (nd ++ new).Nodup → (E.zip new).foldl putL (bd, nd) = (bd ++ E, nd ++ new)
 | [], [], bd, nd, _, _ => by simp
 | [], _ :: _, _, _, h, _ => by simp at h
 | _ :: _, [], _, _, h, _ => by simp at h
 | e :: E, s :: new, bd, nd, h, hn => by
  have hs : s ∉ nd := fun hm => by
   rw [List.nodup_append] at hn
   exact hn.2.2 s hm s (by simp) rfl
  have h1 : putL (bd, nd) (e, s) = (bd ++ [e], nd ++ [s]) := by
   unfold putL
   rw [hasB_no hs, if_neg (by decide)]
  rw [List.zip_cons_cons, List.foldl_cons, h1, putL_new (by simpa using h) (by simpa using hn)]
  simp
theorem putAll_new {bd E : List Nat} {nd new : List ByteArray} (hl : bd.length = nd.length) (hn : (nd ++ new).Nodup) (hE : E.length = new.length) : ((bd ++ E).zip (nd ++ new)).foldl putL (bd, nd) = (bd ++ E, nd ++ new) := by
 rw [List.zip_append hl, List.foldl_append, putAll_same hl (List.nodup_append.1 hn).1, putL_new hE hn]
theorem addN_app {l : List ByteArray} : ∀ {acc : List ByteArray}, ∃ new, addN acc l = acc ++ new ∧ (∀ s ∈ new, s ∈ l ∧ s ∉ acc) := by
 induction l with
 | nil => intro acc; exact ⟨[], by simp [addN], by simp⟩
 | cons a r ih =>
  intro acc
  have h0 : addN acc (a :: r) = addN (if hasB acc a then acc else acc ++ [a]) r := rfl
  by_cases ha : a ∈ acc
  ·obtain ⟨new, h1, h2⟩ := ih (acc := acc)
   refine ⟨new, by rw [h0, hasB_yes ha, if_pos rfl, h1], fun s hs => ⟨by simp [(h2 s hs).1], (h2 s hs).2⟩⟩
  ·obtain ⟨new, h1, h2⟩ := ih (acc := acc ++ [a])
   refine ⟨a :: new, by rw [h0, hasB_no ha, if_neg (by decide), h1]; simp, fun s hs => ?_⟩
   rcases List.mem_cons.1 hs with rfl | hs
   ·exact ⟨by simp, ha⟩
   ·have := h2 s hs
    exact ⟨by simp [this.1], fun h => this.2 (by simp [h])⟩
theorem addN_mem {l : List ByteArray} : ∀ {acc : List ByteArray} {s : ByteArray}, s ∈ addN acc l ↔ s ∈ acc ∨ s ∈ l := by
 induction l with
 | nil => intro acc s; simp [addN]
 | cons a r ih =>
  intro acc s
  have h0 : addN acc (a :: r) = addN (if hasB acc a then acc else acc ++ [a]) r := rfl
  rw [h0, ih]
  by_cases ha : a ∈ acc
  ·rw [hasB_yes ha, if_pos rfl]
   constructor
   ·rintro (h | h)
    ·exact .inl h
    ·exact .inr (by simp [h])
   ·rintro (h | h)
    ·exact .inl h
    ·rcases List.mem_cons.1 h with rfl | h
     ·exact .inl ha
     ·exact .inr h
  ·rw [hasB_no ha, if_neg (by decide)]
   simp only [List.mem_append, List.mem_singleton, List.mem_cons]
   grind
theorem addN_nodup {l : List ByteArray} : ∀ {acc : List ByteArray}, acc.Nodup → (addN acc l).Nodup := by
 induction l with
 | nil => intro acc h; exact h
 | cons a r ih =>
  intro acc h
  have h0 : addN acc (a :: r) = addN (if hasB acc a then acc else acc ++ [a]) r := rfl
  rw [h0]
  by_cases ha : a ∈ acc
  ·rw [hasB_yes ha, if_pos rfl]
   exact ih h
  ·rw [hasB_no ha, if_neg (by decide)]
   refine ih (List.nodup_append.2 ⟨h, by simp, ?_⟩)
   intro x hx y hy e
   simp at hy
   subst hy
   subst e
   exact ha hx
structure MJ (inf : Bool) (lim n b : Nat) (kd ks : List Kid) (Fd Fs : Nat → Prop) (P : List (List UInt8)) (C : Value) (K : List Kid) (w : World) : Prop where
 hlim : lim ≤ w.heap.size
 node : NodeB w b 4 noStr noStr C
 row : PRow w (fun k => (Fd k ∨ lim ≤ k) ∧ k ≠ b) C (K.flatMap Kid.two)
 dis : ∀ c ∈ K, ∀ c' ∈ K, c.key ≠ c'.key → ∀ k, c.F k → c'.F k → False
 kid : ∀ c ∈ K, NodeB w c.kb 8 noStr c.key nilS ∧ c.F c.kb ∧ ∀ k, c.F k → (Fd k ∨ Fs k ∨ lim ≤ k) ∧ k ≠ b ∧ C.ownBlock ≠ some k ∧ k < w.heap.size
 rep : ∀ c ∈ K, Rep w c.cb c.y (fun k => c.F k ∧ k ≠ c.kb)
 nodup : (K.map (·.key)).Nodup
 keys : ∀ key, key ∈ K.map (·.key) ↔ key ∈ kd.map (·.key) ∨ key ∈ ks.map (·.key) ∧ key.data.toList ∈ P
 old : ∀ c ∈ K, c.key.data.toList ∉ P → c ∈ kd
 val : ∀ c ∈ K, c.key.data.toList ∈ P → (∃ a ∈ kd, ∃ s ∈ ks, a.key = c.key ∧ s.key = c.key ∧ MRelI inf n a.y s.y c.y) ∨ (∃ a ∈ kd, a.key = c.key ∧ a.y = c.y ∧ c.key ∉ ks.map (·.key)) ∨ (∃ s ∈ ks, s.key = c.key ∧ s.y = c.y ∧ c.key ∉ kd.map (·.key))
 foot : ∀ c ∈ K, ∀ k, c.F k → (∃ a ∈ kd, a.key = c.key ∧ a.F k) ∨ (∃ s ∈ ks, s.key = c.key ∧ s.F k) ∨ lim ≤ k
 src : ∀ s ∈ ks, s.key.data.toList ∉ P → Rep w s.cb s.y (fun k => s.F k ∧ k ≠ s.kb)
 scl : ∀ s ∈ ks, ∀ text tag, s.y = ⟨1, text, tag, [], []⟩ → NodeB w s.cb 8 tag text nilS
structure MS (lim b : Nat) (kd ks : List Kid) (Fd Fs : Nat → Prop) : Prop where
 kdF : ∀ a ∈ kd, ∀ k, a.F k → Fd k ∧ k < lim
 ksF : ∀ a ∈ ks, ∀ k, a.F k → Fs k ∧ k ≠ b ∧ k < lim
 ds : ∀ k, Fd k → Fs k → False
 ksd : ∀ a ∈ ks, ∀ a' ∈ ks, a.key ≠ a'.key → ∀ k, a.F k → a'.F k → False
 root : ∀ s ∈ ks, s.F s.cb ∧ s.cb ≠ s.kb
 one : ∀ a ∈ ks, ∀ a' ∈ ks, a.key = a'.key → a = a'
section
variable {inf : Bool} {lim n b : Nat} {kd ks : List Kid} {Fd Fs : Nat → Prop} {P : List (List UInt8)} {C : Value} {K : List Kid} {w w' : World}
theorem MJ.map (h : MJ inf lim n b kd ks Fd Fs P C K w) : MapAt w b C K := ⟨h.node, ⟨_, h.row⟩, fun c hc => (h.kid c hc).1⟩
theorem MJ.frame (h : MJ inf lim n b kd ks Fd Fs P C K w) {T : Nat → Prop} (hT : Spares w T) (hk : Keep T w w') : MJ inf lim n b kd ks Fd Fs P C K w' := by
 refine ⟨Nat.le_trans h.hlim hk.size, hT.node hk h.node, ?_, h.dis, fun c hc => ⟨hT.node hk (h.kid c hc).1, (h.kid c hc).2.1, fun k hF => ?_⟩, fun c hc => hT.rep hk (h.rep c hc), h.nodup, h.keys, h.old, h.val, h.foot, fun s hs hn => hT.rep hk (h.src s hs hn), fun s hs text tag e => hT.node hk (h.scl s hs text tag e)⟩
 ·exact (h.row.bound.move fun k hF => hk.block k hF.2.lt (hT k hF.2)).mono fun k hF => hF.1
 ·obtain ⟨h1, h2, h3, h4⟩ := (h.kid c hc).2.2 k hF
  exact ⟨h1, h2, h3, Nat.lt_of_lt_of_le h4 hk.size⟩
theorem MJ.start (h : NodeB w b 4 noStr noStr C) (hr : PRow w (fun k => Fd k ∧ k ≠ b) C (kd.flatMap Kid.two))
  (hd : kd.Pairwise fun c d => ∀ k, c.F k → d.F k → False) (hk : ∀ c ∈ kd, NodeB w c.kb 8 noStr c.key nilS ∧ c.F c.kb ∧ ∀ k, c.F k → Fd k ∧ k ≠ b ∧ C.ownBlock ≠ some k) (hc : ∀ c ∈ kd, Rep w c.cb c.y (fun k => c.F k ∧ k ≠ c.kb))
  (hn : (kd.map (·.key)).Nodup) (htb : ∀ k, Fd k → TB w k) (hs : ∀ s ∈ ks, Rep w s.cb s.y (fun k => s.F k ∧ k ≠ s.kb)) : MJ inf w.heap.size n b kd ks Fd Fs [] C kd w := by
 refine ⟨Nat.le_refl _, h, hr.mono fun k hF => ⟨.inl hF.1, hF.2⟩, fun c hc c' hc' hne => pair_dis hd hc hc' hne, fun c hc => ⟨(hk c hc).1, (hk c hc).2.1, fun k hF => ?_⟩, hc, hn, by simp, fun c hc _ => hc, by simp, fun c hc k hF => .inl ⟨c, hc, rfl, hF⟩, fun s h _ => hs s h, fun s h text tag e => ?_⟩
 ·obtain ⟨q1, q2, q3⟩ := (hk c hc).2.2 k hF
  exact ⟨.inl q1, q2, q3, (htb k q1).lt⟩
 ·have hq := hs s h
  rw [e] at hq
  cases hq with
  | sc _ _ _ _ h _ => exact h
theorem MJ.step (h : MJ inf lim n b kd ks Fd Fs P C K w) (hM : MS lim b kd ks Fd Fs) {c : Kid} {ym : S25} {T Gk Gr : Nat → Prop} (hP : c.key.data.toList ∉ P) (hc : c ∈ K)
  (hGr : ∀ k, Gr k → ∃ s ∈ ks, s.key = c.key ∧ s.F k ∧ k ≠ s.kb) (hGk : ∀ k, Gk k → Gr k ∧ ∀ s ∈ ks, s.key = c.key → s.y.f0 ≠ 1)
  (hv : (∃ s ∈ ks, s.key = c.key ∧ MRelI inf n c.y s.y ym) ∨ (c.y = ym ∧ c.key ∉ ks.map (·.key)))
  (hT : Spares w T) (hk : Keep (fun k => (c.F k ∧ k ≠ c.kb) ∨ Gk k ∨ T k) w w') (hrep : Rep w' c.cb ym (fun k => (c.F k ∧ k ≠ c.kb) ∨ Gr k ∨ (w.heap.size ≤ k ∧ k < w'.heap.size))) :
  MJ inf lim n b kd ks Fd Fs (P ++ [c.key.data.toList]) C (K.map (Kid.upd c.key ym fun k => Gr k ∨ (w.heap.size ≤ k ∧ k < w'.heap.size))) w' := by
 have hlim := h.hlim
 obtain ⟨hcn, hckb, hcF⟩ := h.kid c hc
 have hckd : c ∈ kd := h.old c hc hP
 have hGF : ∀ k, Gr k → Fs k ∧ k ≠ b ∧ k < lim := fun k hg => by
  obtain ⟨s, hs, _, hF, _⟩ := hGr k hg
  exact hM.ksF s hs k hF
 have hnt : ∀ k, ¬ (c.F k ∧ k ≠ c.kb) → ¬ Gr k → TB w k → ¬ ((c.F k ∧ k ≠ c.kb) ∨ Gk k ∨ T k) := fun k h1 h2 h3 h => h.elim h1 fun h => h.elim (fun h => h2 (hGk k h).1) (hT k h3)
 have hCl : ∀ k, C.ownBlock = some k → k < w.heap.size := fun k hc => own_lt h.row.2 k hc
 have hsC : ∀ k, Gr k → C.ownBlock ≠ some k := fun k hF hc => by
  rcases (h.row.1 k hc).1 with h1 | h1
  ·exact hM.ds k h1 (hGF k hF).1
  ·have := (hGF k hF).2.2; omega
 have hdn0 : ∀ c' ∈ K, c'.key ≠ c.key → ∀ k, c'.F k → Gr k → False := by
  intro c' hc' hne k hF hF'
  obtain ⟨s, hs, hsk, hsF, _⟩ := hGr k hF'
  rcases h.foot c' hc' k hF with ⟨a, ha, _, haF⟩ | ⟨a, ha, hak, haF⟩ | hl
  ·exact hM.ds k (hM.kdF a ha k haF).1 (hGF k hF').1
  ·refine hM.ksd a ha s hs ?_ k haF hsF
   rw [hak, hsk]
   exact hne
  ·have := (hGF k hF').2.2; omega
 have hdn : ∀ c' ∈ K, c'.key ≠ c.key → ∀ k, c'.F k → (Gr k ∨ (w.heap.size ≤ k ∧ k < w'.heap.size)) → False := by
  rintro c' hc' hne k hF (hF' | ⟨hF', _⟩)
  ·exact hdn0 c' hc' hne k hF hF'
  ·have := ((h.kid c' hc').2.2 k hF).2.2.2
   omega
 have hnkb : ∀ a ∈ K, ¬ Gr a.kb := fun a ha hg => by
  rcases h.foot a ha _ (h.kid a ha).2.1 with ⟨d, hd, _, hdF⟩ | ⟨s', hs', _, _⟩ | hl
  ·exact hM.ds _ (hM.kdF d hd _ hdF).1 (hGF _ hg).1
  ·by_cases he : a.key = c.key
   ·have := kid_unique h.nodup ha hc he
    subst this
    exact hM.ds _ (hM.kdF a hckd _ (h.kid a ha).2.1).1 (hGF _ hg).1
   ·exact hdn0 a ha he _ (h.kid a ha).2.1 hg
  ·have := (hGF _ hg).2.2; omega
 have hsrcT : ∀ s ∈ ks, s.key ≠ c.key → ∀ k, s.F k → TB w k → ¬ ((c.F k ∧ k ≠ c.kb) ∨ Gk k ∨ T k) := fun s hs hne k hF ht => by
  refine hnt k (fun hq => hM.ds k (hM.kdF c hckd k hq.1).1 (hM.ksF s hs k hF).1) (fun hg => ?_) ht
  obtain ⟨s', hs', hk', hF', _⟩ := hGr k hg
  exact hM.ksd s hs s' hs' (by rw [hk']; exact hne) k hF hF'
 refine ⟨Nat.le_trans hlim hk.size, h.node.move (hk.block _ h.node.lt (hnt b (fun hb => (hcF b hb.1).2.1 rfl) (fun hg => (hGF b hg).2.1 rfl) h.node.tb)), ?_, ?_, ?_, ?_, ?_, ?_, ?_, ?_, ?_, ?_, ?_⟩
 ·rw [upd_two]
  refine ⟨h.row.1, own_move h.row.2 fun k hb => hk.block k (hCl k hb) (hnt k (fun hF => (hcF k hF.1).2.2.1 hb) (fun hg => hsC k hg hb) (h.row.bound.1 k hb).2)⟩
 ·intro x hx x' hx' hne k hF hF'
  obtain ⟨a, ha, rfl⟩ := List.mem_map.1 hx
  obtain ⟨a', ha', rfl⟩ := List.mem_map.1 hx'
  have hne : a.key ≠ a'.key := hne
  rcases hF with hF | ⟨hk1, hF⟩ <;> rcases hF' with hF' | ⟨hk2, hF'⟩
  ·exact h.dis a ha a' ha' hne k hF hF'
  ·exact hdn a ha (by rw [← hk2]; exact hne) k hF hF'
  ·exact hdn a' ha' (by rw [← hk1]; exact hne.symm) k hF' hF
  ·exact hne (hk1.trans hk2.symm)
 ·intro x hx
  obtain ⟨a, ha, rfl⟩ := List.mem_map.1 hx
  obtain ⟨h1, h2, h3⟩ := h.kid a ha
  refine ⟨h1.move (hk.block _ h1.lt (hnt _ ?_ (hnkb a ha) h1.tb)), .inl h2, ?_⟩
  ·rintro ⟨q1, q2⟩
   by_cases he : a.key = c.key
   ·exact q2 (by rw [kid_unique h.nodup ha hc he])
   ·exact h.dis a ha c hc he _ h2 q1
  ·rintro k (hF | ⟨_, hF | ⟨hF, hF2⟩⟩)
   ·obtain ⟨q1, q2, q3, q4⟩ := h3 k hF
    exact ⟨q1, q2, q3, Nat.lt_of_lt_of_le q4 hk.size⟩
   ·obtain ⟨q1, q2, q3⟩ := hGF k hF
    exact ⟨.inr (.inl q1), q2, hsC k hF, by have := hk.size; omega⟩
   ·refine ⟨.inr (.inr (by omega)), by have := h.node.lt; omega, fun hb => by have := hCl k hb; omega, hF2⟩
 ·intro x hx
  obtain ⟨a, ha, rfl⟩ := List.mem_map.1 hx
  by_cases he : a.key = c.key
  ·have := kid_unique h.nodup ha hc he
   subst this
   show Rep w' a.cb (if a.key = a.key then ym else a.y) _
   rw [if_pos rfl]
   refine hrep.mono fun k hF => ?_
   have hkbl : a.kb < w.heap.size := hcn.lt
   rcases hF with hF | hF | hF
   ·exact ⟨.inl hF.1, hF.2⟩
   ·exact ⟨.inr ⟨rfl, .inl hF⟩, fun e => hnkb a ha ((show k = a.kb from e) ▸ hF)⟩
   ·exact ⟨.inr ⟨rfl, .inr hF⟩, by show k ≠ a.kb; omega⟩
  ·show Rep w' a.cb (if a.key = c.key then ym else a.y) _
   rw [if_neg he]
   refine ((h.rep a ha).step fun k hF ht => hk.block k ht.lt (hnt k (fun hq => h.dis a ha c hc he k hF.1 hq.1) (fun hg => hdn0 a ha he k hF.1 hg) ht)).mono fun k hF => ⟨.inl hF.1, hF.2⟩
 ·rw [upd_keys]
  exact h.nodup
 ·intro key
  rw [upd_keys, h.keys key]
  constructor
  ·rintro (h1 | ⟨h1, h2⟩)
   ·exact .inl h1
   ·exact .inr ⟨h1, by simp [h2]⟩
  ·rintro (h1 | ⟨h1, h2⟩)
   ·exact .inl h1
   ·simp only [List.mem_append, List.mem_singleton] at h2
    rcases h2 with h2 | h2
    ·exact .inr ⟨h1, h2⟩
    ·exact .inl (by rw [bytes_ext h2]; exact List.mem_map_of_mem hckd)
 ·intro x hx hn
  obtain ⟨a, ha, rfl⟩ := List.mem_map.1 hx
  have hn : a.key.data.toList ∉ P ++ [c.key.data.toList] := hn
  simp only [List.mem_append, List.mem_singleton, not_or] at hn
  have he : a.key ≠ c.key := fun e => hn.2 (by rw [e])
  have : Kid.upd c.key ym (fun k => Gr k ∨ (w.heap.size ≤ k ∧ k < w'.heap.size)) a = a := by
   unfold Kid.upd
   rw [if_neg he]
   cases a
   congr 1
   funext k
   simp [show ¬ _ = _ from he]
  rw [this]
  exact h.old a ha hn.1
 ·intro x hx hn
  obtain ⟨a, ha, rfl⟩ := List.mem_map.1 hx
  have hn : a.key.data.toList ∈ P ++ [c.key.data.toList] := hn
  by_cases he : a.key = c.key
  ·have := kid_unique h.nodup ha hc he
   subst this
   have hy : (Kid.upd a.key ym (fun k => Gr k ∨ (w.heap.size ≤ k ∧ k < w'.heap.size)) a).y = ym := if_pos rfl
   rw [hy]
   rcases hv with ⟨s, hs, h1, h2⟩ | ⟨h1, h2⟩
   ·exact .inl ⟨a, hckd, s, hs, rfl, h1, h2⟩
   ·exact .inr (.inl ⟨a, hckd, rfl, h1, h2⟩)
  ·simp only [List.mem_append, List.mem_singleton] at hn
   have hnP : a.key.data.toList ∈ P := hn.elim id fun e => absurd (bytes_ext e) he
   have := h.val a ha hnP
   have hy : (Kid.upd c.key ym (fun k => Gr k ∨ (w.heap.size ≤ k ∧ k < w'.heap.size)) a).y = a.y := if_neg he
   rw [hy]
   exact this
 ·intro x hx k hF
  obtain ⟨a, ha, rfl⟩ := List.mem_map.1 hx
  rcases hF with hF | ⟨hk1, hF | ⟨hF, _⟩⟩
  ·exact h.foot a ha k hF
  ·obtain ⟨s, hs, hsk, hsF, _⟩ := hGr k hF
   exact .inr (.inl ⟨s, hs, by show s.key = a.key; rw [hsk, hk1], hsF⟩)
  ·exact .inr (.inr (by omega))
 ·intro s hs hn
  simp only [List.mem_append, List.mem_singleton, not_or] at hn
  exact (h.src s hs hn.1).step fun k hF ht => hk.block k ht.lt (hsrcT s hs (fun e => hn.2 (by rw [e])) k hF.1 ht)
 ·intro s hs text tag e
  have hq := h.scl s hs text tag e
  refine hq.move (hk.block _ hq.lt ?_)
  by_cases he : s.key = c.key
  ·rintro (h1 | h1 | h1)
   ·exact hM.ds _ (hM.kdF c hckd _ h1.1).1 (hM.ksF s hs _ (hM.root s hs).1).1
   ·exact (hGk _ h1).2 s hs he (by rw [e])
   ·exact hT _ hq.tb h1
  ·exact hsrcT s hs he _ (hM.root s hs).1 hq.tb
theorem MJ.new (h : MJ inf lim n b kd ks Fd Fs P C K w) (hM : MS lim b kd ks Fd Fs) {key : ByteArray} {s : Kid} {kb mid : Nat} {C' : Value} {T : Nat → Prop} (hP : key.data.toList ∉ P) (hs : s ∈ ks) (hsk : s.key = key) (hkd : key ∉ kd.map (·.key)) (hbF : Fd b)
  (hmid : w.heap.size ≤ mid) (hrep : Rep w' s.cb s.y (fun k => (s.F k ∧ k ≠ s.kb) ∨ (w.heap.size ≤ k ∧ k < mid))) (g1 : mid ≤ kb) (g2 : NodeB w' kb 8 noStr key nilS) (g3 : NodeB w' b 4 noStr noStr C') (g4 : w'.ownsRow 0 69 1 C' ((K.flatMap Kid.two).length + 2) ((K.flatMap Kid.two).map ptrV ++ [ptrV kb, ptrV s.cb])) (g5 : C'.ownBlock = C.ownBlock ∨ ∃ g, C'.ownBlock = some g ∧ mid ≤ g ∧ g ≠ kb)
  (hT : Spares w T) (hk : Keep (fun k => k = b ∨ C.ownBlock = some k ∨ (s.F k ∧ k ≠ s.kb) ∨ T k) w w') :
  MJ inf lim n b kd ks Fd Fs (P ++ [key.data.toList]) C' (K ++ [{ key := key, kb := kb, cb := s.cb, y := s.y, F := fun k => k = kb ∨ (s.F k ∧ k ≠ s.kb) ∨ (w.heap.size ≤ k ∧ k < mid) }]) w' := by
 have hlim := h.hlim
 have hnt : ∀ k, k ≠ b → C.ownBlock ≠ some k → ¬ s.F k → TB w k → ¬ (k = b ∨ C.ownBlock = some k ∨ (s.F k ∧ k ≠ s.kb) ∨ T k) := fun k h1 h2 h4 h3 h => by
  rcases h with h | h | h | h
  ·exact h1 h
  ·exact h2 h
  ·exact h4 h.1
  ·exact hT k h3 h
 have hCl : ∀ k, C.ownBlock = some k → k < w.heap.size := fun k hc => own_lt h.row.2 k hc
 have hbl := h.node.lt
 have hkK : key ∉ K.map (·.key) := by
  rw [h.keys key]
  rintro (h1 | ⟨_, h1⟩)
  ·exact hkd h1
  ·exact hP h1
 have hnC : ∀ k, k < mid → C.ownBlock ≠ some k → C'.ownBlock ≠ some k := fun k hl hc => by
  rcases g5 with g5 | ⟨g, g5, g6, _⟩
  ·rw [g5]; exact hc
  ·rw [g5]; intro e; injection e with e; omega
 have hsF : ∀ k, s.F k → Fs k ∧ k ≠ b ∧ k < lim := hM.ksF s hs
 have hCd : ∀ k, C.ownBlock = some k → (Fd k ∨ lim ≤ k) ∧ k ≠ b := h.row.1
 have hsC : ∀ k, s.F k → C.ownBlock ≠ some k := fun k hF hc => by
  rcases (hCd k hc).1 with h1 | h1
  ·exact hM.ds k h1 (hsF k hF).1
  ·have := (hsF k hF).2.2; omega
 have hds0 : ∀ c ∈ K, ∀ k, c.F k → s.F k → False := by
  intro c hc k hF hsk'
  rcases h.foot c hc k hF with ⟨a, ha, _, haF⟩ | ⟨a, ha, hak, haF⟩ | hl
  ·exact hM.ds k (hM.kdF a ha k haF).1 (hsF k hsk').1
  ·refine hM.ksd a ha s hs ?_ k haF hsk'
   rw [hak, hsk]
   intro e
   exact hkK (List.mem_map.2 ⟨c, hc, e⟩)
  ·have := (hsF k hsk').2.2; omega
 have hdn : ∀ c ∈ K, ∀ k, c.F k → (k = kb ∨ (s.F k ∧ k ≠ s.kb) ∨ (w.heap.size ≤ k ∧ k < mid)) → False := by
  rintro c hc k hF (rfl | hsk' | hsk')
  ·have := ((h.kid c hc).2.2 k hF).2.2.2
   omega
  ·exact hds0 c hc k hF hsk'.1
  ·have := ((h.kid c hc).2.2 k hF).2.2.2
   omega
 have hkbl := g2.lt
 refine ⟨Nat.le_trans hlim hk.size, g3, ⟨?_, ?_⟩, ?_, ?_, ?_, ?_, ?_, ?_, ?_, ?_, ?_, ?_⟩
 ·intro k hc
  rcases g5 with g5 | ⟨g, g5, g6, _⟩
  ·rw [g5] at hc; exact hCd k hc
  ·rw [g5] at hc; injection hc with hc; subst hc
   exact ⟨.inr (by omega), by omega⟩
 ·have e1 : (K ++ [({ key := key, kb := kb, cb := s.cb, y := s.y, F := fun k => k = kb ∨ (s.F k ∧ k ≠ s.kb) ∨ (w.heap.size ≤ k ∧ k < mid) } : Kid)]).flatMap Kid.two = K.flatMap Kid.two ++ [kb, s.cb] := by simp [Kid.two]
  rw [e1]
  simpa using g4
 ·intro c hc c' hc' hne k hF hF'
  simp only [List.mem_append, List.mem_singleton] at hc hc'
  rcases hc with hc | rfl <;> rcases hc' with hc' | rfl
  ·exact h.dis c hc c' hc' hne k hF hF'
  ·exact hdn c hc k hF hF'
  ·exact hdn c' hc' k hF' hF
  ·exact hne rfl
 ·intro c hc
  simp only [List.mem_append, List.mem_singleton] at hc
  rcases hc with hc | rfl
  ·obtain ⟨h1, h2, h3⟩ := h.kid c hc
   have hq := h3 c.kb h2
   refine ⟨h1.move (hk.block _ h1.lt (hnt _ hq.2.1 hq.2.2.1 (fun hF => hds0 c hc _ h2 hF) h1.tb)), h2, fun k hF => ?_⟩
   obtain ⟨q1, q2, q3, q4⟩ := h3 k hF
   exact ⟨q1, q2, hnC k (by omega) q3, Nat.lt_of_lt_of_le q4 hk.size⟩
  ·refine ⟨g2, .inl rfl, ?_⟩
   rintro k (rfl | hF | hF)
   ·refine ⟨.inr (.inr (by omega)), by omega, ?_, g2.lt⟩
    rcases g5 with g5 | ⟨g, g5, g6, g7⟩
    ·rw [g5]; intro hc; have := hCl _ hc; omega
    ·rw [g5]; intro e; injection e with e; exact g7 e
   ·obtain ⟨q1, q2, q3⟩ := hsF k hF.1
    exact ⟨.inr (.inl q1), q2, hnC k (by omega) (hsC k hF.1), by have := hk.size; omega⟩
   ·exact ⟨.inr (.inr (by omega)), by omega, hnC k hF.2 (fun e => by have := hCl k e; omega), by omega⟩
 ·intro c hc
  simp only [List.mem_append, List.mem_singleton] at hc
  rcases hc with hc | rfl
  ·exact (h.rep c hc).step fun k hF ht => hk.block k ht.lt (hnt k ((h.kid c hc).2.2 k hF.1).2.1 ((h.kid c hc).2.2 k hF.1).2.2.1 (fun hq => hds0 c hc k hF.1 hq) ht)
  ·refine hrep.mono fun k hF => ⟨.inr hF, ?_⟩
   show k ≠ kb
   rcases hF with hF | hF
   ·have := (hsF k hF.1).2.2
    omega
   ·omega
 ·rw [List.map_append, List.nodup_append]
  refine ⟨h.nodup, by simp, ?_⟩
  intro x hx y hy e
  simp at hy
  subst hy
  subst e
  exact hkK hx
 ·intro key'
  rw [List.map_append, List.mem_append, h.keys key']
  simp only [List.map_cons, List.map_nil, List.mem_singleton, List.mem_append]
  constructor
  ·rintro ((h1 | ⟨h1, h2⟩) | rfl)
   ·exact .inl h1
   ·exact .inr ⟨h1, .inl h2⟩
   ·exact .inr ⟨List.mem_map.2 ⟨s, hs, hsk⟩, .inr rfl⟩
  ·rintro (h1 | ⟨h1, h2 | h2⟩)
   ·exact .inl (.inl h1)
   ·exact .inl (.inr ⟨h1, h2⟩)
   ·exact .inr (bytes_ext h2)
 ·intro c hc hn
  simp only [List.mem_append, List.mem_singleton] at hc hn
  rcases hc with hc | rfl
  ·exact h.old c hc fun hp => hn (.inl hp)
  ·exact absurd (.inr rfl) hn
 ·intro c hc hn
  simp only [List.mem_append, List.mem_singleton] at hc hn
  rcases hc with hc | rfl
  ·rcases hn with hn | hn
   ·exact h.val c hc hn
   ·exact absurd (List.mem_map.2 ⟨c, hc, bytes_ext hn⟩) hkK
  ·exact .inr (.inr ⟨s, hs, hsk, rfl, hkd⟩)
 ·intro c hc k hF
  simp only [List.mem_append, List.mem_singleton] at hc
  rcases hc with hc | rfl
  ·exact h.foot c hc k hF
  ·rcases hF with rfl | hF | hF
   ·exact .inr (.inr (by omega))
   ·exact .inr (.inl ⟨s, hs, hsk, hF.1⟩)
   ·exact .inr (.inr (by omega))
 ·intro s' hs' hn
  simp only [List.mem_append, List.mem_singleton, not_or] at hn
  have hne : s'.key ≠ s.key := fun e => hn.2 (by rw [e, hsk])
  refine (h.src s' hs' hn.1).step fun k hF ht => hk.block k ht.lt (hnt k (hM.ksF s' hs' k hF.1).2.1 (fun e => ?_) (fun hq => hM.ksd s' hs' s hs hne k hF.1 hq) ht)
  rcases (hCd k e).1 with h1 | h1
  ·exact hM.ds k h1 (hM.ksF s' hs' k hF.1).1
  ·have := (hM.ksF s' hs' k hF.1).2.2; omega
 ·intro s' hs' text tag e
  by_cases hne : s'.key = s.key
  ·by_cases hss : s' = s
   ·subst hss
    rw [e] at hrep
    cases hrep with
    | sc _ _ _ _ h _ => exact h
   ·exact absurd (hM.one s' hs' s hs hne) hss
  ·have hq := h.scl s' hs' text tag e
   have hF := (hM.root s' hs').1
   refine hq.move (hk.block _ hq.lt (hnt _ (hM.ksF s' hs' _ hF).2.1 (fun e => ?_) (fun hq => hM.ksd s' hs' s hs hne _ hF hq) hq.tb))
   rcases (hCd _ e).1 with h1 | h1
   ·exact hM.ds _ h1 (hM.ksF s' hs' _ hF).1
   ·have := (hM.ksF s' hs' _ hF).2.2; omega
theorem MJ.done {ns : List (List UInt8)} (h : MJ inf lim n b kd ks Fd Fs ns C K w) (hns : ∀ x, x ∈ ns ↔ (∃ k ∈ kd, k.key.data.toList = x) ∨ ∃ k ∈ ks, k.key.data.toList = x) (hb : Fd b) :
  ∃ ym, MRelI inf (n + 1) ⟨2, noStr, noStr, kd.map (·.key), kd.map (·.y)⟩ ⟨2, noStr, noStr, ks.map (·.key), ks.map (·.y)⟩ ym ∧ Rep w b ym (fun k => Fd k ∨ Fs k ∨ (lim ≤ k ∧ k < w.heap.size)) := by
 have hkeys : ∀ key, key ∈ K.map (·.key) ↔ key ∈ kd.map (·.key) ∨ key ∈ ks.map (·.key) := fun key => by
  rw [h.keys key]
  constructor
  ·rintro (h1 | ⟨h1, _⟩)
   ·exact .inl h1
   ·exact .inr h1
  ·rintro (h1 | h1)
   ·exact .inl h1
   ·obtain ⟨k, hk, rfl⟩ := List.mem_map.1 h1
    exact .inr ⟨h1, (hns _).2 (.inr ⟨k, hk, rfl⟩)⟩
 refine ⟨⟨2, noStr, noStr, K.map (·.key), K.map (·.y)⟩, .inr (.inl ⟨rfl, rfl, rfl, rfl, by simp, h.nodup, hkeys, ?_⟩), .mp b C K _ h.node (.inl hb) ⟨fun k e => ?_, h.row.2⟩ ?_ (fun c hc => ⟨(h.kid c hc).1, (h.kid c hc).2.1, fun k hF => ?_⟩) h.rep⟩
 ·intro key v hf
  obtain ⟨c, hc, rfl, rfl⟩ := zip_kid.1 hf
  have hp : c.key.data.toList ∈ ns := by
   rw [hns]
   rcases (hkeys c.key).1 (List.mem_map_of_mem hc) with h1 | h1
   ·obtain ⟨k, hk, he⟩ := List.mem_map.1 h1
    exact .inl ⟨k, hk, by rw [he]⟩
   ·obtain ⟨k, hk, he⟩ := List.mem_map.1 h1
    exact .inr ⟨k, hk, by rw [he]⟩
  rcases h.val c hc hp with ⟨a, ha, s, hs, h1, h2, h3⟩ | ⟨a, ha, h1, h2, h3⟩ | ⟨s, hs, h1, h2, h3⟩
  ·exact .inl ⟨a.y, s.y, zip_kid.2 ⟨a, ha, h1, rfl⟩, zip_kid.2 ⟨s, hs, h2, rfl⟩, h3⟩
  ·exact .inr (.inl ⟨zip_kid.2 ⟨a, ha, h1, h2⟩, h3⟩)
  ·exact .inr (.inr ⟨zip_kid.2 ⟨s, hs, h1, h2⟩, h3⟩)
 ·obtain ⟨h1, h2⟩ := h.row.1 k e
  exact ⟨h1.elim .inl fun h1 => .inr (.inr ⟨h1, own_lt h.row.2 k e⟩), h2⟩
 ·exact (List.pairwise_map.1 h.nodup).imp_of_mem fun ha hb hne => h.dis _ ha _ hb hne
 ·obtain ⟨q1, q2, q3, q4⟩ := (h.kid c hc).2.2 k hF
  exact ⟨q1.imp id fun q => q.imp id fun q => ⟨q, q4⟩, q2, q3⟩
end
end Go.Proofs.YtghmajlfmoggfaaGreat
namespace Go.Proofs.YtghmajlfmoggfaaGreat
open Go.RowKit Go.Proofs.YtghmajlfmoggfaaGreatW.PrintWords Go.Proofs.YtghmajlfmoggfaaGreatW.PrintLast PFnMerge
def BothI (inf : Bool) (d : Nat) (w : World) (sb : Nat) (path : Value) (bd bs : Nat) (yd ys : S25) (Fd Fs : Nat → Prop) (q : Option Addr) (w' : World) : Prop :=
 ∃ r b' ym, q = some ⟨r, 0, none⟩ ∧ RNB w' r b' ∧ MRelI inf d yd ys ym ∧ Rep w' b' ym (fun k => Fd k ∨ Fs k ∨ (w.heap.size ≤ k ∧ k < w'.heap.size)) ∧ Shape9 w w' ∧ (∀ s, NamedB yd s → NamedB ys s → NmF w' bs s Fs) ∧
  (b' = bd ∧ ys.f0 ≠ 1 ∧ Keep (fun k => Fd k ∨ Fs k ∨ k = sb ∨ path.ownBlock = some k) w w' ∨ b' = bs ∧ ym = ys ∧ yd.f0 ≠ 2 ∧ Rep w' bs ys Fs ∧ Keep (fun k => k = sb ∨ path.ownBlock = some k) w w')
def BIC (inf : Bool) (d : Nat) : Prop := ∀ (yd ys : S25), GoodI inf d yd → GoodI inf d ys → AlikeI inf d yd ys → ∀ (w : World) (bd bs : Nat) (Fd Fs : Nat → Prop), Rep w bd yd Fd → Rep w bs ys Fs → (∀ k, Fd k → TB w k) → (∀ k, Fs k → TB w k) → (∀ k, Fd k → Fs k → False) → ∀ (rd rs : Nat), RNB w rd bd → RNB w rs bs →
 ∀ (V path : Value) (sb c n m : Nat), SrcAt w sb (some ⟨rd, 0, none⟩) (some ⟨rs, 0, none⟩) → 2 ≤ c → VisW w m V → m + d ≤ 300 → PathOk w path n → n + d ≤ 1000 →
 Calls Tryz.prog 38 #[wkV V path (.int .i64 0) sb c inf] w fun e w' => ∃ q, e = .returned (.tuple #[.pointer q, .nilIface]) ∧ BothI inf d w sb path bd bs yd ys Fd Fs q w'
theorem mrelI_node {inf : Bool} {n : Nat} {d s m : S25} (h : MRelI inf n d s m) (hg : Good n s) {w : World} {b : Nat} {F : Nat → Prop} (hr : Rep w b m F) : ∃ k tag val A l c, NodeB w b k tag val (.slice A l c) ∧ (k == 1) = false ∧ (tag.toList == [33, 33, 110, 117, 108, 108]) = false := by
 cases n with
 | zero => exact h.elim
 | succ n =>
  rcases h with ⟨_, _, rfl⟩ | ⟨_, h2, _⟩ | ⟨_, _, _, _, _, _, h2, _⟩
  ·obtain ⟨k, tag, val, A, l, c, h1, h2, h3, _⟩ := hg.node hr
   exact ⟨k, tag, val, A, l, c, h1, h2, h3⟩
  ·cases hr with
   | sc _ text tag _ h hF => simp at h2
   | sq _ C kids _ h hF hr hd hk hc => simp at h2
   | mp _ C kids _ h hF hr hd hk hc =>
    obtain ⟨A, c, rfl, _, _⟩ := hr.slice
    exact ⟨4, noStr, noStr, A, _, c, h, rfl, nostr_ne⟩
  ·cases hr with
   | sc _ text tag _ h hF => simp at h2
   | mp _ C kids _ h hF hr hd hk hc => simp at h2
   | sq _ C kids _ h hF hr hd hk hc =>
    obtain ⟨A, c, rfl, _, _⟩ := hr.slice
    exact ⟨2, noStr, noStr, A, _, c, h, rfl, nostr_ne⟩
theorem path_ne66 {w : World} {path : Value} {n : Nat} (hp : PathOk w path n) : ∀ k, path.ownBlock = some k → ∀ cs, w.heap[k]? ≠ some (.cells cs 66 (0, 0)) := fun k hk cs he => by
 obtain ⟨xs, h⟩ := hp
 obtain ⟨cells, hc⟩ := own_typed h k hk
 rw [hc] at he
 injection he with he
 injection he with _ he
 cases he
theorem both_stepI {inf : Bool} {d : Nat} (ih : BIC inf d) {w' : World} {b r0 rs sb c n m : Nat} {C : Value} {kids ks : List Kid} {kid s : Kid} {V path : Value} {name : List UInt8} {wb : Nat} {Fc Fs : Nat → Prop}
  (hs : SrcAt w' sb (some ⟨r0, 0, none⟩) (some ⟨rs, 0, none⟩)) (hr : RNB w' r0 b) (hm : MapAt w' b C kids) (hks : KidsQ w' (some ⟨rs, 0, none⟩) ks) (hbox : w'.heap[wb]? = some (.cells #[V, .pointer none, .slice (some ⟨sb, 0, none⟩) 2 c, path, .bool inf, .bool false, .int .i64 0] 66 (0, 0)))
  (hf : kids.find? (hasKey ⟨name.toArray⟩) = some kid) (hfk : ks.find? (hasKey ⟨name.toArray⟩) = some s) (hne : (⟨name.toArray⟩ : ByteArray).toList.isEmpty = false) (hgd : GoodI inf d kid.y) (hgs : GoodI inf d s.y) (hal : AlikeI inf d kid.y s.y) (hrd : Rep w' kid.cb kid.y Fc) (hrs : Rep w' s.cb s.y Fs)
  (hFc : ∀ k, Fc k → TB w' k) (hFs : ∀ k, Fs k → TB w' k) (hdis : ∀ k, Fc k → Fs k → False) (hb : ¬ (Fc b ∨ Fs b)) (hC : ∀ k, C.ownBlock = some k → ¬ (Fc k ∨ Fs k)) (hkb : ∀ c' ∈ kids, ¬ (Fc c'.kb ∨ Fs c'.kb))
  (hV : VisW w' m V) (hmd : m + d + 1 ≤ 300) (hp : PathOk w' path n) (hnd : n + d + 1 ≤ 1000) :
  Calls Tryz.prog 61 #[wkV V path (.int .i64 0) sb c inf, .string ⟨name.toArray⟩] w' fun e w1 => ∃ g cap sm, e = .returned (.tuple #[.slice (some ⟨g, 0, none⟩) 2 cap, .pointer none, .map (some sm)]) ∧ PathOk w1 path n ∧
   w1.heap[wb]? = some (.cells #[V, .pointer none, .slice (some ⟨sb, 0, none⟩) 2 c, path, .bool inf, .bool false, .int .i64 0] 66 (0, 0)) ∧ ∀ path' w2, PathApp w1 w2 path path' n → Calls Tryz.prog 38 #[wkV (.iface 66 (wkV V path (.int .i64 0) sb c inf)) path' (.int .i64 0) g cap inf] w2 fun e w3 => ∃ q, e = .returned (.tuple #[.pointer q, .nilIface]) ∧ StyM w3 sm ∧ PtrQ w3 q ∧
    ∀ fb w4, Below w3.heap.size w3 w4 → w4.cell? ⟨fb, 0, none⟩ = some (.iface 104 (fsV ⟨name.toArray⟩ q)) → Calls Tryz.prog 62 #[.pointer (some ⟨r0, 0, none⟩), .slice (some ⟨fb, 0, none⟩) 1 1] w4 fun e w5 => ∃ q', e = .returned (.tuple #[.pointer q', .nilIface]) ∧
     (∃ ym, MRelI inf d kid.y s.y ym ∧ Rep w5 kid.cb ym (fun k => Fc k ∨ Fs k ∨ (w'.heap.size ≤ k ∧ k < w5.heap.size))) ∧
     Keep (fun k => Fc k ∨ (Fs k ∧ s.y.f0 ≠ 1) ∨ path.ownBlock = some k) w' w5 ∧ Shape9 w' w5 := by
 refine (fieldValue61c w' hs (.inr ⟨r0, b, C, rfl, hr, hm⟩) hks).mono ?_
 rintro e w1 ⟨g, cap, sm, dv, sv, rfl, ⟨hcap, hge⟩, hB1, hs1, hst1, hfd, hfs⟩
 have hp1 := hp.shape (Shape9.of_below hB1)
 refine ⟨g, cap, sm, rfl, hp1, (hB1.block _ (lt_of_block hbox)).trans hbox, ?_⟩
 intro path' w2 happ
 have sf2 := hp1.soft
 have hs2 : SrcAt w2 g dv sv := happ.keep.src hs1 (src_ne_path hs1 hp1)
 have hrd2 := hp1.spares.rep happ.keep (hrd.under hB1)
 have hrs2 := hp1.spares.rep happ.keep (hrs.under hB1)
 have hm2 := hp1.spares.map happ.keep (hm.under hB1)
 have hFc2 : ∀ k, Fc k → TB w2 k := fun k hk => ((hFc k hk).under hB1).keep happ.keep (hp1.spares k ((hFc k hk).under hB1))
 have hFs2 : ∀ k, Fs k → TB w2 k := fun k hk => ((hFs k hk).under hB1).keep happ.keep (hp1.spares k ((hFs k hk).under hB1))
 obtain ⟨vs, rfl, hvs⟩ := hfs.2 s hfk
 obtain ⟨vr, rfl, hvr⟩ := hfd.2 kid hf
 have hV2 : VisW w2 m V := (hV.mono (K66.of_below hB1)).mono (K66.of_keep happ.keep (path_ne66 hp1))
 refine (ih kid.y s.y hgd hgs hal w2 kid.cb s.cb Fc Fs hrd2 hrs2 hFc2 hFs2 hdis vr vs (sf2.rnb happ.keep hvr) (sf2.rnb happ.keep hvs) (.iface 66 (wkV V path (.int .i64 0) sb c inf)) path' g cap (n + 1) (m + 1) hs2 hcap hV2.nest (by omega) happ.ok (by omega)).mono ?_
 rintro e w3 ⟨q, rfl, r', b', ym, rfl, hr3, hM, hrep3, hsh3, _, halt⟩
 have sfp : Soft w2 fun k => k = g ∨ path'.ownBlock = some k := hs2.soft.or happ.ok.soft
 have spp : Spares w2 fun k => k = g ∨ path'.ownBlock = some k := hs2.spares.or happ.ok.spares
 have sf3 : Soft w2 fun k => Fc k ∨ Fs k ∨ k = g ∨ path'.ownBlock = some k := (tb_soft hFc2).or ((tb_soft hFs2).or sfp)
 have hk3 : Keep (fun k => Fc k ∨ (Fs k ∧ s.y.f0 ≠ 1) ∨ k = g ∨ path'.ownBlock = some k) w2 w3 := by
  rcases halt with ⟨_, h0, h⟩ | ⟨_, _, _, _, h⟩
  ·exact h.mono fun k _ h => h.imp id fun h => h.imp (fun h => ⟨h, h0⟩) id
  ·exact h.mono fun k _ h => .inr (.inr h)
 have hk3s : Keep (fun k => Fc k ∨ Fs k ∨ k = g ∨ path'.ownBlock = some k) w2 w3 := hk3.mono fun k _ h => h.imp id fun h => h.imp (fun h => h.1) id
 refine ⟨_, rfl, sf3.sty hk3s (sf2.sty happ.keep hst1), .inr ⟨r', _, _, rfl, hr3⟩, ?_⟩
 intro fb w4 hB4 hcell
 have hr4 : RNB w4 r0 b := (sf3.rnb hk3s (sf2.rnb happ.keep (hr.under hB1))).under hB4
 have hnp : ∀ k, TB w2 k → ¬ (Fc k ∨ Fs k) → ¬ (Fc k ∨ Fs k ∨ k = g ∨ path'.ownBlock = some k) := fun k ht hn h => h.elim (fun h => hn (.inl h)) fun h => h.elim (fun h => hn (.inr h)) (spp k ht)
 obtain ⟨Fr, hrow2⟩ := hm2.row
 have hm3 : MapAt w3 b C kids := hm2.keepx hk3s (hnp b hm2.node.tb hb) (fun k hk => hnp k (hrow2.bound.1 k hk).2 (hC k hk)) fun c' hc' => hnp _ (hm2.keys c' hc').tb (hkb c' hc')
 have hm4 := hm3.under hB4
 have k1 : Keep (fun k => Fc k ∨ (Fs k ∧ s.y.f0 ≠ 1) ∨ path.ownBlock = some k) w' w2 := (Keep.of_below hB1 _).trans happ.keep fun k _ hk => .inr (.inr hk)
 have k2 : Keep (fun k => Fc k ∨ (Fs k ∧ s.y.f0 ≠ 1) ∨ path.ownBlock = some k) w' w3 := k1.trans hk3 fun k hk hT => by
  rcases hT with hT | hT | rfl | hT
  ·exact .inl hT
  ·exact .inr (.inl hT)
  ·omega
  ·rcases happ.at_ with h | ⟨k', h, hk'⟩
   ·rw [← h]; exact .inr (.inr hT)
   ·rw [h] at hT; injection hT with hT; subst hT
    have := hB1.size
    omega
 have k4 := k2.then hB4
 have hsz := k4.size
 have hsz1 : w'.heap.size ≤ w2.heap.size := k1.size
 have hB4s := hB4.size
 have hsh4 := ((((Shape9.of_below hB1).trans happ.shape).trans hsh3).trans (Shape9.of_below hB4))
 have hrep4 := hrep3.under hB4
 obtain ⟨k, tag, val, A, l, c', hn1, hn2, hn3⟩ := mrelI_node hM hgs.good hrep4
 rcases halt with ⟨rfl, _⟩ | ⟨rfl, rfl, _, hrb3, hk3'⟩
 ·have hset := set_found (kd := noStr) (c1 := noStr) (c2 := noStr) (c3 := noStr) w4 hr4 hm4 hne hf hn1 hn2 (hr3.under hB4) hn1 hn2 hn3
  refine (pipe1 (fun q' w5 => _) w4 hr4 hm4.node rfl hcell (meth187 _ _ _ _ _ _ _ _ _) enter187 (hset.mono ?_))
  rintro e w5 ⟨q', rfl, hn5, hk5⟩
  have hk5' := hk5.same (hn5.trans hn1.symm)
  have hs5 := hk5'.size
  exact ⟨q', rfl, ⟨ym, hM, ((Spares.none w4).rep hk5' hrep4).mono fun k hk => hk.imp id fun hk => hk.imp id fun hk => ⟨by omega, by omega⟩⟩, k4.trans hk5' fun k _ h => h.elim, hsh4.trans (Shape9.of_keep hk5' fun _ _ h => h.elim)⟩
 ·have hrd4 := (spp.rep hk3' hrd2).under hB4
  have hrs4 := hrb3.under hB4
  have hFs4 : ∀ k, Fs k → TB w4 k := fun k hk => ((hFs2 k hk).keep hk3' (spp k (hFs2 k hk))).under hB4
  obtain ⟨k0, tag0, val0, A0, l0, c0, hd1, hd2, hd3, _⟩ := hgd.good.node hrd4
  have hset := set_found (kd := noStr) (c1 := noStr) (c2 := noStr) (c3 := noStr) w4 hr4 hm4 hne hf hd1 hd2 (hr3.under hB4) hn1 hn2 hn3
  refine (pipe1 (fun q' w5 => _) w4 hr4 hm4.node rfl hcell (meth187 _ _ _ _ _ _ _ _ _) enter187 (hset.mono ?_))
  rintro e w5 ⟨q', rfl, hn5, hk5⟩
  have hrc := hrd.root
  refine ⟨q', rfl, ⟨_, hM, ?_⟩, k4.trans hk5 fun k _ h => .inl (by rw [h]; exact hrc), hsh4.trans (Shape9.of_keep hk5 ?_)⟩
  ·have hcp := hrs4.copy (b := kid.cb) (hn5.trans hn1.symm) fun k hk hne => by
    have hkc : k ≠ kid.cb := by rintro rfl; exact hdis _ hrc hk
    exact ⟨hkc, hk5.block k (hFs4 k hk).lt hkc⟩
   refine hcp.mono fun k hk => ?_
   rcases hk with rfl | hk
   ·exact .inl hrc
   ·exact .inr (.inl hk.1)
  ·rintro k cur rfl hc
   have := hd1
   rw [NodeB, hc] at this
   injection this with this
   injection this with _ this
   cases this
theorem new_stepI {inf : Bool} {d : Nat} (ih : YC inf d) {w' : World} {b r0 rs sb c n m : Nat} {C : Value} {kids ks : List Kid} {s : Kid} {V path : Value} {name : List UInt8} {wb : Nat} {Fs : Nat → Prop}
  (hs : SrcAt w' sb (some ⟨r0, 0, none⟩) (some ⟨rs, 0, none⟩)) (hr : RNB w' r0 b) (hm : MapAt w' b C kids) (hks : KidsQ w' (some ⟨rs, 0, none⟩) ks) (hbox : w'.heap[wb]? = some (.cells #[V, .pointer none, .slice (some ⟨sb, 0, none⟩) 2 c, path, .bool inf, .bool false, .int .i64 0] 66 (0, 0)))
  (hf : kids.find? (hasKey ⟨name.toArray⟩) = none) (hfk : ks.find? (hasKey ⟨name.toArray⟩) = some s) (hne : (⟨name.toArray⟩ : ByteArray).toList.isEmpty = false) (hg : GoodI inf d s.y) (hrep : Rep w' s.cb s.y Fs)
  (hFs : ∀ k, Fs k → TB w' k) (hb : ¬ Fs b) (hC : ∀ k, C.ownBlock = some k → ¬ Fs k) (hkb : ∀ c' ∈ kids, ¬ Fs c'.kb) (hV : VisW w' m V) (hmd : m + d + 1 ≤ 300) (hp : PathOk w' path n) (hnd : n + d + 1 ≤ 1000) (hkl : kids.length ≤ 5000) :
  Calls Tryz.prog 61 #[wkV V path (.int .i64 0) sb c inf, .string ⟨name.toArray⟩] w' fun e w1 => ∃ g cap sm, e = .returned (.tuple #[.slice (some ⟨g, 0, none⟩) 2 cap, .pointer none, .map (some sm)]) ∧ PathOk w1 path n ∧
   w1.heap[wb]? = some (.cells #[V, .pointer none, .slice (some ⟨sb, 0, none⟩) 2 c, path, .bool inf, .bool false, .int .i64 0] 66 (0, 0)) ∧ ∀ path' w2, PathApp w1 w2 path path' n → Calls Tryz.prog 38 #[wkV (.iface 66 (wkV V path (.int .i64 0) sb c inf)) path' (.int .i64 0) g cap inf] w2 fun e w3 => ∃ q, e = .returned (.tuple #[.pointer q, .nilIface]) ∧ StyM w3 sm ∧ PtrQ w3 q ∧
    ∀ fb w4, Below w3.heap.size w3 w4 → w4.cell? ⟨fb, 0, none⟩ = some (.iface 104 (fsV ⟨name.toArray⟩ q)) → Calls Tryz.prog 62 #[.pointer (some ⟨r0, 0, none⟩), .slice (some ⟨fb, 0, none⟩) 1 1] w4 fun e w5 => ∃ q', e = .returned (.tuple #[.pointer q', .nilIface]) ∧
     (∃ kb C' mid, w'.heap.size ≤ mid ∧ Rep w5 s.cb s.y (fun k => Fs k ∨ (w'.heap.size ≤ k ∧ k < mid)) ∧ mid ≤ kb ∧ NodeB w5 kb 8 noStr ⟨name.toArray⟩ nilS ∧ NodeB w5 b 4 noStr noStr C' ∧ w5.ownsRow 0 69 1 C' ((kids.flatMap Kid.two).length + 2) ((kids.flatMap Kid.two).map ptrV ++ [ptrV kb, ptrV s.cb]) ∧ (C'.ownBlock = C.ownBlock ∨ ∃ g, C'.ownBlock = some g ∧ mid ≤ g ∧ g ≠ kb)) ∧
     Keep (fun k => k = b ∨ C.ownBlock = some k ∨ Fs k ∨ path.ownBlock = some k) w' w5 ∧ Shape9 w' w5 := by
 refine (fieldValue61c w' hs (.inr ⟨r0, b, C, rfl, hr, hm⟩) hks).mono ?_
 rintro e w1 ⟨g, cap, sm, dv, sv, rfl, ⟨hcap, hge⟩, hB1, hs1, hst1, hfd, hfs⟩
 have hp1 := hp.shape (Shape9.of_below hB1)
 refine ⟨g, cap, sm, rfl, hp1, (hB1.block _ (lt_of_block hbox)).trans hbox, ?_⟩
 intro path' w2 happ
 have sf2 := hp1.soft
 have hs2 : SrcAt w2 g dv sv := happ.keep.src hs1 (src_ne_path hs1 hp1)
 have hrep2 := hp1.spares.rep happ.keep (hrep.under hB1)
 have hm2 := hp1.spares.map happ.keep (hm.under hB1)
 have hFs2 : ∀ k, Fs k → TB w2 k := fun k hk => ((hFs k hk).under hB1).keep happ.keep (hp1.spares k ((hFs k hk).under hB1))
 obtain ⟨vs, rfl, hvs⟩ := hfs.2 s hfk
 obtain rfl := hfd.1 hf
 have hq2 : YQ w2 s.y none (some ⟨vs, 0, none⟩) s.cb Fs s.cb (fun _ => False) := .inl ⟨rfl, fun _ h => h, .inl rfl, .inr ⟨vs, rfl, sf2.rnb happ.keep hvs⟩, by rintro ⟨_, h⟩; cases h⟩
 have hV2 : VisW w2 m V := (hV.mono (K66.of_below hB1)).mono (K66.of_keep happ.keep (path_ne66 hp1))
 refine (ih s.y hg w2 s.cb Fs s.cb _ hrep2 hFs2 _ _ hq2 (.iface 66 (wkV V path (.int .i64 0) sb c inf)) path' g cap (n + 1) (m + 1) hs2 hcap hV2.nest (by omega) happ.ok (by omega)).mono ?_
 rintro e w3 ⟨q, rfl, r', b', rfl, hr3, hrep3, hsh3, halt⟩
 obtain ⟨rfl, hk3⟩ : b' = s.cb ∧ Keep (fun k => Fs k ∨ k = g ∨ path'.ownBlock = some k) w2 w3 := by
  rcases halt with h | ⟨h, _, _, hk⟩
  ·exact h
  ·exact ⟨h, hk.mono fun k _ h => .inr h⟩
 have sfp : Soft w2 fun k => k = g ∨ path'.ownBlock = some k := hs2.soft.or happ.ok.soft
 have spp : Spares w2 fun k => k = g ∨ path'.ownBlock = some k := hs2.spares.or happ.ok.spares
 have sf3 : Soft w2 fun k => Fs k ∨ k = g ∨ path'.ownBlock = some k := (tb_soft hFs2).or sfp
 refine ⟨_, rfl, sf3.sty hk3 (sf2.sty happ.keep hst1), .inr ⟨r', _, _, rfl, hr3⟩, ?_⟩
 intro fb w4 hB4 hcell
 have hr4 : RNB w4 r0 b := (sf3.rnb hk3 (sf2.rnb happ.keep (hr.under hB1))).under hB4
 have hnp : ∀ k, TB w2 k → ¬ Fs k → ¬ (Fs k ∨ k = g ∨ path'.ownBlock = some k) := fun k ht hn h => h.elim hn (spp k ht)
 obtain ⟨Fr, hrow2⟩ := hm2.row
 have hm3 : MapAt w3 b C kids := hm2.keepx hk3 (hnp b hm2.node.tb hb) (fun k hk => hnp k (hrow2.bound.1 k hk).2 (hC k hk)) fun c' hc' => hnp _ (hm2.keys c' hc').tb (hkb c' hc')
 have hm4 : MapAt w4 b C kids := hm3.under hB4
 have hrep4 := hrep3.under hB4
 obtain ⟨k, tag, val, A, l, c', hn1, hn2, hn3, _⟩ := hg.good.node hrep4
 obtain ⟨Fr4, hrow4⟩ := hm4.row
 obtain ⟨AC, cC, rfl, _, _⟩ := hrow4.slice
 have hset := set_new (kd := noStr) w4 hr4 hm4 hne hf (hr3.under hB4) hn1 hn2 hn3 hrow4.2 (by rw [two_length]; omega)
 have k1 : Keep (fun k => Fs k ∨ path.ownBlock = some k) w' w2 := (Keep.of_below hB1 (fun k => Fs k ∨ path.ownBlock = some k)).trans happ.keep fun k _ hk => .inr hk
 have k2 : Keep (fun k => Fs k ∨ path.ownBlock = some k) w' w3 := k1.trans hk3 fun k hk hT => by
  rcases hT with hT | rfl | hT
  ·exact .inl hT
  ·omega
  ·rcases happ.at_ with h | ⟨k', h, hk'⟩
   ·rw [← h]; exact .inr hT
   ·rw [h] at hT; injection hT with hT; subst hT
    have := hB1.size
    omega
 have k3 := k2.then hB4
 have hsz := k3.size
 have hsz1 : w'.heap.size ≤ w2.heap.size := k1.size
 have hB4s := hB4.size
 have hbl : b < w'.heap.size := hm.node.lt
 have hCl : ∀ k, (Value.slice AC (kids.flatMap Kid.two).length cC).ownBlock = some k → k < w'.heap.size := fun k e => by
  obtain ⟨F0, hrow0⟩ := hm.row
  exact own_lt hrow0.2 k e
 have hsh4 := ((((Shape9.of_below hB1).trans happ.shape).trans hsh3).trans (Shape9.of_below hB4))
 refine (pipe1 (fun q' w5 => _) w4 hr4 hm4.node rfl hcell (meth187 _ _ _ _ _ _ _ _ _) enter187 (hset.mono ?_))
 rintro e w5 ⟨q', kb, C', rfl, g1, g2, g3, g4, g5, g6⟩
 refine ⟨q', rfl, ⟨kb, C', w4.heap.size, hsz, ?_, g1, g2, g3, g4, g5⟩, (k3.mono fun k _ h => .inr (.inr h)).trans g6 fun k _ h => h.elim .inl fun h => .inr (.inl h), hsh4.trans (Shape9.of_keep g6 ?_)⟩
 ·refine (hrep4.mono (G := fun k => Fs k ∨ (w'.heap.size ≤ k ∧ k < w4.heap.size)) fun k hk => ?_).step fun k hF ht => g6.block k ht.lt ?_
  ·rcases hk with hk | hk | hk
   ·exact .inl hk
   ·exact hk.elim
   ·exact .inr ⟨by omega, by omega⟩
  ·rcases hF with hF | hF
   ·rintro (h | h)
    ·exact hb (h ▸ hF)
    ·exact hC k h hF
   ·rintro (h | h)
    ·omega
    ·have := hCl k h; omega
 ·rintro k cur (rfl | h) hc
  ·have := hm4.node
   rw [NodeB, hc] at this
   injection this with this
   injection this with _ this
   cases this
  ·obtain ⟨cs, hcs⟩ := own_typed hrow4.2 k h
   rw [hc] at hcs
   injection hcs with hcs
   injection hcs with _ hcs
   cases hcs
section
variable {inf : Bool} {lim n b : Nat} {kd ks : List Kid} {Fd Fs : Nat → Prop} {P : List (List UInt8)} {C : Value} {K : List Kid} {w : World}
theorem MJ.kb_src (h : MJ inf lim n b kd ks Fd Fs P C K w) (hM : MS lim b kd ks Fd Fs) {c s : Kid} (hc : c ∈ K) (hs : s ∈ ks) (hP : s.key.data.toList ∉ P) : ¬ s.F c.kb := fun hF => by
 rcases h.foot c hc _ (h.kid c hc).2.1 with ⟨a, ha, _, haF⟩ | ⟨a, ha, hak, haF⟩ | hl
 ·exact hM.ds _ (hM.kdF a ha _ haF).1 (hM.ksF s hs _ hF).1
 ·by_cases he : a.key = s.key
  ·have hcd := h.old c hc (by rw [← hak, he]; exact hP)
   exact hM.ds _ (hM.kdF c hcd _ (h.kid c hc).2.1).1 (hM.ksF s hs _ hF).1
  ·exact hM.ksd a ha s hs he _ haF hF
 ·have := (hM.ksF s hs _ hF).2.2; omega
theorem MJ.own_src (h : MJ inf lim n b kd ks Fd Fs P C K w) (hM : MS lim b kd ks Fd Fs) {s : Kid} (hs : s ∈ ks) {k : Nat} (e : C.ownBlock = some k) : ¬ s.F k := fun hF => by
 rcases (h.row.1 k e).1 with h1 | h1
 ·exact hM.ds k h1 (hM.ksF s hs k hF).1
 ·have := (hM.ksF s hs k hF).2.2; omega
end
set_option maxHeartbeats 2000000 in
theorem both_map {inf : Bool} {d : Nat} (ih : BIC inf d) {w : World} {bd bs c m n sb rd rs : Nat} {Cd Cs V path : Value} {kd ks : List Kid} {Fd Fs : Nat → Prop}
  (hMd : MapR w bd Cd kd Fd) (hMs : MapR w bs Cs ks Fs) (htd : ∀ k, Fd k → TB w k) (hts : ∀ k, Fs k → TB w k) (hdis : ∀ k, Fd k → Fs k → False) (hlkd : kd.length ≤ 1000) (hlks : ks.length ≤ 1000) (hkdn : kd ≠ []) (hksn : ks ≠ []) (hnod : (kd.map (·.key)).Nodup) (gnod : (ks.map (·.key)).Nodup)
  (hkeys : ∀ k ∈ kd.map (·.key), k.toList.isEmpty = false ∧ k.size ≤ 1000000 ∧ (patchKey.toList == k.toList) = false) (gkeys : ∀ k ∈ ks.map (·.key), k.toList.isEmpty = false ∧ k.size ≤ 1000000 ∧ (patchKey.toList == k.toList) = false)
  (hitems : ∀ z ∈ kd.map (·.y), GoodI inf d z) (gitems : ∀ z ∈ ks.map (·.y), GoodI inf d z) (hal : ∀ a ∈ kd, ∀ s ∈ ks, a.key = s.key → AlikeI inf d a.y s.y)
  (hrnd : RNB w rd bd) (hrns : RNB w rs bs) (hs : SrcAt w sb (some ⟨rd, 0, none⟩) (some ⟨rs, 0, none⟩)) (hV : VisW w m V) (hmd : m + d + 1 ≤ 300) (hp : PathOk w path n) (hnd : n + d + 1 ≤ 1000) (w0 : World) (hb0 : Below w.heap.size w w0) :
  Calls Tryz.prog 47 #[wkV V path (.int .i64 0) sb c inf] w0 fun e w' => ∃ q, e = .returned (.tuple #[.pointer q, .nilIface]) ∧ BothI inf (d + 1) w sb path bd bs ⟨2, noStr, noStr, kd.map (·.key), kd.map (·.y)⟩ ⟨2, noStr, noStr, ks.map (·.key), ks.map (·.y)⟩ Fd Fs q w' := by
 have hFdr := hMd.root
 have hpatd : kd.find? (hasKey patchKey) = none := by
  rw [List.find?_eq_none]
  intro x hx
  have := (hkeys x.key (List.mem_map_of_mem hx)).2.2
  simpa [hasKey] using this
 have hpats : ks.find? (hasKey patchKey) = none := by
  rw [List.find?_eq_none]
  intro x hx
  have := (gkeys x.key (List.mem_map_of_mem hx)).2.2
  simpa [hasKey] using this
 have hmqd : MapQ w (some ⟨rd, 0, none⟩) := ⟨rd, bd, Cd, kd, rfl, hrnd, hMd.at, hkdn, hpatd⟩
 have hmqs : MapQ w (some ⟨rs, 0, none⟩) := ⟨rs, bs, Cs, ks, rfl, hrns, hMs.at, hksn, hpats⟩
 have htv : ∀ k, TV bs Cs ks Fs k → TB w k := fun k h => hts k h.1
 have hS : Spares w (fun k => k = sb ∨ path.ownBlock = some k) := hs.spares.or hp.spares
 have hT : Soft w (fun k => Fd k ∨ TV bs Cs ks Fs k ∨ k = sb ∨ path.ownBlock = some k) := (tb_soft htd).or ((tb_soft htv).or (hs.soft.or hp.soft))
 have hM : MS w.heap.size bd kd ks Fd Fs := by
  refine ⟨fun a ha k hF => ?_, fun a ha k hF => ?_, hdis, fun a ha a' ha' hne => pair_dis hMs.dis ha ha' hne, fun s hs => (hMs.rep s hs).root, fun a ha a' ha' he => kid_unique gnod ha ha' he⟩
  ·have q := ((hMd.kid a ha).2.2 k hF).1
   exact ⟨q, (htd k q).lt⟩
  ·have q := ((hMs.kid a ha).2.2 k hF).1
   exact ⟨q, by rintro rfl; exact hdis _ hFdr q, (hts k q).lt⟩
 have hsTV : ∀ s ∈ ks, ∀ k, s.F k ∧ k ≠ s.kb → TV bs Cs ks Fs k := fun s hsm k hk => by
  obtain ⟨i, hi⟩ := List.getElem?_of_mem hsm
  exact hMs.tv (i := i) ⟨s, hi, hk⟩
 have hrb := hMs.row.bound
 have hmsw : ∀ w', Keep (fun k => Fd k ∨ TV bs Cs ks Fs k ∨ k = sb ∨ path.ownBlock = some k) w w' → MapAt w' bs Cs ks := fun w' hkp => by
  refine hMs.at.keepx hkp ?_ ?_ ?_
  ·rintro (h | h | h)
   ·exact hdis _ h hMs.root
   ·exact h.2.1 rfl
   ·exact hS bs hMs.node.tb h
  ·rintro k e (h | h | h)
   ·exact hdis _ h (hMs.row.1 k e).1
   ·exact h.2.2.1 e
   ·exact hS k (hrb.1 k e).2 h
  ·rintro c hc (h | h | h)
   ·exact hdis _ h ((hMs.kid c hc).2.2 _ (hMs.kid c hc).2.1).1
   ·exact h.2.2.2 c hc rfl
   ·exact hS _ (hMs.kid c hc).1.tb h
 refine (walkMap47w (r := rd) (m := m) w0 (hV.mono (K66.of_below hb0)) (by omega) (n := n) (by omega) (hp.shape (Shape9.of_below hb0))
  (fun P w' => (∃ C K, MJ inf w.heap.size d bd kd ks Fd Fs P C K w' ∧ K.length ≤ kd.length + P.length) ∧ Keep (fun k => Fd k ∨ TV bs Cs ks Fs k ∨ k = sb ∨ path.ownBlock = some k) w w' ∧ Shape9 w w' ∧ SrcAt w' sb (some ⟨rd, 0, none⟩) (some ⟨rs, 0, none⟩) ∧ w'.heap[w0.heap.size]? = some (.cells #[V, .pointer none, .slice (some ⟨sb, 0, none⟩) 2 c, path, .bool inf, .bool false, .int .i64 0] 66 (0, 0)))
  (fun ns => (∀ x, x ∈ ns ↔ (∃ k ∈ kd, k.key.data.toList = x) ∨ ∃ k ∈ ks, k.key.data.toList = x) ∧ ns.length ≤ 2000) ?_ ?_ ?_ ?_ ?_).mono ?_
 ·exact fun w1 hb1 => visitMap_d w1 (hs.under (hb0.trans (hb1.mono hb0.size))) (hmqd.under (hb0.trans (hb1.mono hb0.size))) (.inr (hmqs.under (hb0.trans (hb1.mono hb0.size))))
 ·intro w1 hb1 hbx
  have hb2 := hb0.trans (hb1.mono hb0.size)
  refine (setDest57 (q := some ⟨rd, 0, none⟩) w1 (hs.under hb2)).mono ?_
  rintro e w2 ⟨rfl, hs2, hk2⟩
  have hkw2 : Keep (fun k => k = sb) w w2 := (Keep.of_below hb2 _).trans hk2 fun k _ h => h
  refine ⟨rfl, ⟨Cd, kd, (MJ.start hMd.node hMd.row hMd.dis hMd.kid hMd.rep hnod htd hMs.rep).frame hs.spares hkw2, by simp⟩, hkw2.mono fun k _ h => .inr (.inr (.inl h)), (Shape9.of_below hb2).trans (Shape9.of_keep hk2 ?_), hs2, hk2.at_ hbx ?_⟩
  ·rintro k cur rfl hc
   obtain ⟨cur', h1, _⟩ := hs.under hb2
   rw [h1] at hc
   injection hc with hc
   injection hc with _ hc
   cases hc
  ·intro e
   have := hs.lt
   have := hb0.size
   omega
 ·exact fun P w' h => h.2.2.2.2
 ·rintro w' ⟨⟨C, K, hMI, hKl⟩, hkk, hsh, hsr', hbx⟩
  have hKl' : K.length ≤ 1000 := by simp at hKl; omega
  have hKk : ∀ key, key ∈ K.map (·.key) ↔ key ∈ kd.map (·.key) := fun key => by rw [hMI.keys key]; simp
  have hd' : SrcKeys w' (some ⟨rd, 0, none⟩) (K.map (·.key)) := SrcKeys.of_map (hT.rnb hkk hrnd) hMI.map (by omega)
  have hs' : SrcKeys w' (some ⟨rs, 0, none⟩) (ks.map (·.key)) := SrcKeys.of_map (hT.rnb hkk hrns) (hmsw w' hkk) (by omega)
  refine (fieldNames58 sortC w' hsr' hd' hs' (fun s hs => by have := (hkeys s ((hKk s).1 hs)).2.1; unfold maxLen; omega) (fun s hs => by have := (gkeys s hs).2.1; unfold maxLen; omega) (by simp; omega) (by simp; omega)).mono ?_
  rintro e w'' ⟨g, cap, ns, rfl, hnod', hmem, hnl, hrow, hB⟩
  refine ⟨g, cap, ns, rfl, hnod', ⟨fun x => ?_, by simp at hnl; omega⟩, hrow, ⟨C, K, hMI.frame (Spares.none _) (Keep.of_below hB _), hKl⟩, hkk.then hB, hsh.trans (Shape9.of_below hB), hsr'.under hB, (hB.block _ (lt_of_block hbx)).trans hbx⟩
  rw [hmem x]
  constructor
  ·rintro (⟨s, h1, h2⟩ | ⟨s, h1, h2⟩)
   ·obtain ⟨k, hkm, rfl⟩ := List.mem_map.1 ((hKk s).1 h1)
    exact .inl ⟨k, hkm, h2⟩
   ·obtain ⟨k, hkm, rfl⟩ := List.mem_map.1 h1
    exact .inr ⟨k, hkm, h2⟩
  ·rintro (⟨k, hkm, h2⟩ | ⟨k, hkm, h2⟩)
   ·exact .inl ⟨k.key, (hKk _).2 (List.mem_map_of_mem hkm), h2⟩
   ·exact .inr ⟨k.key, List.mem_map_of_mem hkm, h2⟩
 ·rintro P name rest w' ⟨hNm, hNl⟩ hNd ⟨⟨C, K, hMI, hKl⟩, hkk, hsh, hsr', hbx⟩
  have hPl : P.length ≤ 2000 := by simp at hNl; omega
  have hnP : name ∉ P := by
   intro hm
   rw [List.nodup_append] at hNd
   exact hNd.2.2 name hm name (by simp) rfl
  have hpl : ∀ k, path.ownBlock = some k → k < w0.heap.size := fun k hk => by have := hp.lt k hk; have := hb0.size; omega
  have hpk := hp.shape hsh
  have hr0' := hT.rnb hkk hrnd
  have hksq : KidsQ w' (some ⟨rs, 0, none⟩) ks := .inr ⟨rs, bs, Cs, rfl, hT.rnb hkk hrns, hmsw w' hkk⟩
  have hkn : ∀ {key : ByteArray}, key.data.toList = name → key = ⟨name.toArray⟩ := fun h => key_of h
  have hsbtb : ¬ TB w' sb := fun h => hsr'.spares sb h rfl
  have hbxtb : ¬ TB w' w0.heap.size := fun h => tb_ne h (by decide) hbx
  have hwl : w.heap.size ≤ w'.heap.size := hkk.size
  have hV' : VisW w' m V := hV.mono (K66.of_keep hkk fun k hk cs => by
   rcases hk with h | h | rfl | h
   ·exact tb_ne (htd k h) (by decide)
   ·exact tb_ne (htv k h) (by decide)
   ·obtain ⟨cur, h1, _⟩ := hs
    intro he
    rw [h1] at he
    injection he with he
    injection he with _ he
    cases he
   ·exact path_ne66 hp k h cs)
  by_cases hkd : (⟨name.toArray⟩ : ByteArray) ∈ kd.map (·.key)
  ·have hKm : (⟨name.toArray⟩ : ByteArray) ∈ K.map (·.key) := (hMI.keys _).2 (.inl hkd)
   obtain ⟨k0, hk0, hk0n⟩ := List.mem_map.1 hKm
   obtain ⟨kid, hf, hmem, hkey⟩ := find_key ⟨k0, hk0, hk0n⟩
   have hkl : kid.key.data.toList = name := by rw [hkey]
   have hkP : kid.key.data.toList ∉ P := by rw [hkl]; exact hnP
   have hold : kid ∈ kd := hMI.old kid hmem hkP
   have hne' : (⟨name.toArray⟩ : ByteArray).toList.isEmpty = false := (hkeys _ hkd).1
   have hgk : GoodI inf d kid.y := hitems _ (List.mem_map_of_mem hold)
   have hrkb := (hMI.rep kid hmem).bound
   have hkb0 : ∀ c' ∈ K, ¬ (kid.F c'.kb ∧ c'.kb ≠ kid.kb) := fun c' hc' h => by
    by_cases he : c'.key = kid.key
    ·have := kid_unique hMI.nodup hc' hmem he
     subst this
     exact h.2 rfl
    ·exact hMI.dis c' hc' kid hmem he _ (hMI.kid c' hc').2.1 h.1
   by_cases hks : (⟨name.toArray⟩ : ByteArray) ∈ ks.map (·.key)
   ·obtain ⟨s0, hs0, hs0n⟩ := List.mem_map.1 hks
    obtain ⟨s, hfs, hsm, hskey⟩ := find_key ⟨s0, hs0, hs0n⟩
    have hsk : s.key = kid.key := hskey.trans hkey.symm
    have hsP : s.key.data.toList ∉ P := by rw [hsk]; exact hkP
    have hgs' : GoodI inf d s.y := gitems _ (List.mem_map_of_mem hsm)
    have hrsb := (hMI.src s hsm hsP).bound
    refine (both_stepI ih (wb := w0.heap.size) hsr' hr0' hMI.map hksq hbx hf hfs hne' hgk hgs' (hal kid hold s hsm hsk.symm) hrkb hrsb (fun k h => h.2) (fun k h => h.2) (fun k h1 h2 => hdis k (hM.kdF kid hold k h1.1.1).1 (hM.ksF s hsm k h2.1.1).1)
     (fun h => ?_) (fun k hC h => ?_) (fun c' hc' h => ?_) hV' (by omega) hpk (by omega)).mono ?_
    ·rcases h with h | h
     ·exact ((hMI.kid kid hmem).2.2 _ h.1.1).2.1 rfl
     ·exact (hM.ksF s hsm _ h.1.1).2.1 rfl
    ·rcases h with h | h
     ·exact ((hMI.kid kid hmem).2.2 _ h.1.1).2.2.1 hC
     ·exact hMI.own_src hM hsm hC h.1.1
    ·rcases h with h | h
     ·exact hkb0 c' hc' h.1
     ·exact hMI.kb_src hM hc' hsm hsP h.1.1
    rintro e w1 ⟨g, cap, sm, rfl, h1, h2, h3⟩
    refine ⟨g, cap, sm, rfl, h1, h2, fun path' w2 happ => (h3 path' w2 happ).mono ?_⟩
    rintro e w3 ⟨q, rfl, h4, h5, h6⟩
    refine ⟨q, rfl, h4, h5, fun fb w4 hb4 hc4 => (h6 fb w4 hb4 hc4).mono ?_⟩
    rintro e w5 ⟨q', rfl, ⟨ym, hMm, hrep5⟩, hk5, hsh5⟩
    have hMI5 := hMI.step (w' := w5) (Gr := fun k => s.F k ∧ k ≠ s.kb) (Gk := fun k => (s.F k ∧ k ≠ s.kb) ∧ s.y.f0 ≠ 1) hM hkP hmem (fun k h => ⟨s, hsm, hsk, h⟩) (fun k h => ⟨h.1, fun s' hs' he => by rw [hM.one s' hs' s hsm (he.trans hsk.symm)]; exact h.2⟩) (.inl ⟨s, hsm, hsk, hMm⟩) hpk.spares
     (hk5.mono fun k _ h => h.imp (fun h => h.1) fun h => h.imp (fun h => ⟨h.1.1, h.2⟩) id) (hrep5.mono fun k h => h.imp (fun h => h.1) fun h => h.imp (fun h => h.1) id)
    rw [hkl] at hMI5
    refine ⟨q', rfl, ⟨⟨C, _, hMI5, by simp; omega⟩, hkk.trans hk5 fun k _ h => ?_, hsh.trans hsh5, hk5.src hsr' fun h => ?_, hk5.at_ hbx fun h => ?_⟩, hk5.mono fun k _ h => ?_⟩
    ·rcases h with h | h | h
     ·exact .inl (hM.kdF kid hold k h.1.1).1
     ·exact .inr (.inl (hsTV s hsm k h.1.1))
     ·exact .inr (.inr (.inr h))
    ·rcases h with h | h | h
     ·exact hsbtb h.2
     ·exact hsbtb h.1.2
     ·exact src_ne_path hsr' hpk h
    ·rcases h with h | h | h
     ·exact hbxtb h.2
     ·exact hbxtb h.1.2
     ·have := hpl _ h; omega
    ·rcases h with h | h | h
     ·exact .inr h.2
     ·exact .inr h.1.2
     ·exact .inl (hpl k h)
   ·refine (y_step (walk_same inf d) (wb := w0.heap.size) (vb := kid.cb) (Fs := fun _ => False) hsr' hr0' hMI.map hksq hbx hf (.inl ⟨rfl, fun _ h => h, .inl (find_none_key hks)⟩) hne' hgk hrkb (fun k h => h.2) (fun h => ((hMI.kid kid hmem).2.2 _ h.1.1).2.1 rfl) (fun k hC h => ((hMI.kid kid hmem).2.2 _ h.1.1).2.2.1 hC) (fun c' hc' h => hkb0 c' hc' h.1) hV' (by omega) hpk (by omega)).mono ?_
    rintro e w1 ⟨g, cap, sm, rfl, h1, h2, h3⟩
    refine ⟨g, cap, sm, rfl, h1, h2, fun path' w2 happ => (h3 path' w2 happ).mono ?_⟩
    rintro e w3 ⟨q, rfl, h4, h5, h6⟩
    refine ⟨q, rfl, h4, h5, fun fb w4 hb4 hc4 => (h6 fb w4 hb4 hc4).mono ?_⟩
    rintro e w5 ⟨q', rfl, hrep5, hk5, hsh5⟩
    have hMI5 := hMI.step (w' := w5) (Gr := fun _ => False) (Gk := fun _ => False) hM hkP hmem (fun k h => h.elim) (fun k h => h.elim) (.inr ⟨rfl, by rw [hkey]; exact hks⟩) hpk.spares
     (hk5.mono fun k _ h => h.imp (fun h => h.1) .inr) (hrep5.mono fun k h => h.imp (fun h => h.1) id)
    rw [hkl] at hMI5
    refine ⟨q', rfl, ⟨⟨C, _, hMI5, by simp; omega⟩, hkk.trans hk5 fun k _ h => h.elim (fun h => .inl (hM.kdF kid hold k h.1.1).1) fun h => .inr (.inr (.inr h)), hsh.trans hsh5, hk5.src hsr' fun h => h.elim (fun h => hsbtb h.2) (src_ne_path hsr' hpk), hk5.at_ hbx fun h => h.elim (fun h => hbxtb h.2) fun h => by have := hpl _ h; omega⟩, hk5.mono fun k _ h => h.elim (fun h => .inr h.2) fun h => .inl (hpl k h)⟩
  ·have hks : (⟨name.toArray⟩ : ByteArray) ∈ ks.map (·.key) := by
    rcases (hNm name).1 (by simp) with ⟨k, hkm, he⟩ | ⟨k, hkm, he⟩
    ·exact absurd (List.mem_map.2 ⟨k, hkm, hkn he⟩) hkd
    ·exact List.mem_map.2 ⟨k, hkm, hkn he⟩
   have hKm : (⟨name.toArray⟩ : ByteArray) ∉ K.map (·.key) := fun h => by
    rcases (hMI.keys _).1 h with h | ⟨_, h⟩
    ·exact hkd h
    ·exact hnP (by simpa using h)
   obtain ⟨s0, hs0, hs0n⟩ := List.mem_map.1 hks
   obtain ⟨s, hfs, hsm, hskey⟩ := find_key ⟨s0, hs0, hs0n⟩
   have hsP : s.key.data.toList ∉ P := by rw [hskey]; simpa using hnP
   have hne' : (⟨name.toArray⟩ : ByteArray).toList.isEmpty = false := (gkeys _ hks).1
   have hgs' : GoodI inf d s.y := gitems _ (List.mem_map_of_mem hsm)
   have hrsb := (hMI.src s hsm hsP).bound
   refine (new_stepI (walk_same inf d) (wb := w0.heap.size) hsr' hr0' hMI.map hksq hbx (find_none_key hKm) hfs hne' hgs' hrsb (fun k h => h.2) (fun h => (hM.ksF s hsm _ h.1.1).2.1 rfl) (fun k hC h => hMI.own_src hM hsm hC h.1.1) (fun c' hc' h => hMI.kb_src hM hc' hsm hsP h.1.1) hV' (by omega) hpk (by omega) (by omega)).mono ?_
   rintro e w1 ⟨g, cap, sm, rfl, h1, h2, h3⟩
   refine ⟨g, cap, sm, rfl, h1, h2, fun path' w2 happ => (h3 path' w2 happ).mono ?_⟩
   rintro e w3 ⟨q, rfl, h4, h5, h6⟩
   refine ⟨q, rfl, h4, h5, fun fb w4 hb4 hc4 => (h6 fb w4 hb4 hc4).mono ?_⟩
   rintro e w5 ⟨q', rfl, ⟨kb, C', mid, f0, f1, f2, f3, f4, f5, f6⟩, hk5, hsh5⟩
   have hMI5 := hMI.new hM (key := ⟨name.toArray⟩) (by simpa using hnP) hsm hskey hkd hFdr f0 (f1.mono fun k h => h.imp (fun h => h.1) id) f2 f3 f4 f5 f6 hpk.spares (hk5.mono fun k _ h => h.imp id fun h => h.imp id fun h => h.imp (fun h => h.1) id)
   have hMI5' : MJ inf w.heap.size d bd kd ks Fd Fs (P ++ [name]) C' _ w5 := hMI5
   have hbtb := hMI.node.tb
   have hCtb : ∀ k, C.ownBlock = some k → TB w' k := fun k hC => (hMI.row.bound.1 k hC).2
   refine ⟨q', rfl, ⟨⟨C', _, hMI5', by simp; omega⟩, hkk.trans hk5 ?_, hsh.trans hsh5, hk5.src hsr' ?_, hk5.at_ hbx ?_⟩, hk5.mono ?_⟩
   ·rintro k hkl (rfl | h | h | h)
    ·exact .inl hFdr
    ·exact (hMI.row.1 k h).1.elim .inl fun h => by omega
    ·exact .inr (.inl (hsTV s hsm k h.1))
    ·exact .inr (.inr (.inr h))
   ·rintro (h | h | h | h)
    ·exact hsbtb (by rw [h]; exact hbtb)
    ·exact hsbtb (hCtb _ h)
    ·exact hsbtb h.2
    ·exact src_ne_path hsr' hpk h
   ·rintro (h | h | h | h)
    ·exact hbxtb (by rw [h]; exact hbtb)
    ·exact hbxtb (hCtb _ h)
    ·exact hbxtb h.2
    ·have := hpl _ h; omega
   ·rintro k _ (h | h | h | h)
    ·exact .inr (by rw [h]; exact hbtb)
    ·exact .inr (hCtb _ h)
    ·exact .inr h.2
    ·exact .inl (hpl k h)
 ·rintro e w' ⟨rfl, ns, _, ⟨hns, _⟩, ⟨C, K, hMI, _⟩, hkk, hsh, _, _⟩
  obtain ⟨ym, hMm, hR⟩ := hMI.done hns hFdr
  refine ⟨_, rfl, rd, bd, ym, rfl, hT.rnb hkk hrnd, hMm, hR, hsh, fun nm hd0 hs0 => ?_, .inl ⟨rfl, (show (2 : Int) ≠ 1 by decide), hkk.mono fun k _ h => h.imp id fun h => h.imp (fun h => h.1) id⟩⟩
  obtain ⟨_, tag, hf⟩ := hs0
  obtain ⟨s, hsm, hsk, hsy⟩ := zip_kid.1 hf
  have hfi := find_of_nodup gnod hsm
  rw [hsk] at hfi
  have htag := (gitems s.y (List.mem_map_of_mem hsm)).tag (by rw [hsy])
  rw [hsy] at htag
  exact ⟨Cs, ks, s, tag, hmsw w' hkk, hfi, hMI.scl s hsm nm tag hsy, htag, hMs.root, fun k e => (hMs.row.1 k e).1, fun c hc => ((hMs.kid c hc).2.2 _ (hMs.kid c hc).2.1).1, ((hMs.kid s hsm).2.2 _ (hM.root s hsm).1).1⟩
end Go.Proofs.YtghmajlfmoggfaaGreat
namespace Go.Proofs.YtghmajlfmoggfaaGreat
open Go.RowKit Go.Proofs.YtghmajlfmoggfaaGreatW.PrintWords Go.Proofs.YtghmajlfmoggfaaGreatW.PrintLast PFnMerge
def MP (kd ks : List Kid) (nd ns : List ByteArray) (s : ByteArray) (k : Nat) : Prop := (∃ (i : Nat) (c : Kid), kd[i]? = some c ∧ nd[i]? = some s ∧ c.F k) ∨ ∃ (i : Nat) (c : Kid), ks[i]? = some c ∧ ns[i]? = some s ∧ c.F k
def VP (d : Nat) (kd ks : List Kid) (nd ns : List ByteArray) (s : ByteArray) (x : Nat) (y : S25) : Prop :=
 (∃ (i j : Nat) (c z : Kid), kd[i]? = some c ∧ nd[i]? = some s ∧ ks[j]? = some z ∧ ns[j]? = some s ∧ x = c.cb ∧ MRelI true d c.y z.y y) ∨
 (∃ (i : Nat) (c : Kid), kd[i]? = some c ∧ nd[i]? = some s ∧ s ∉ ns ∧ x = c.cb ∧ y = c.y) ∨ ∃ (j : Nat) (z : Kid), ks[j]? = some z ∧ ns[j]? = some s ∧ s ∉ nd ∧ x = z.cb ∧ y = z.y
structure LL (d : Nat) (W : World) (bd bs : Nat) (Cd Cs : Value) (kd ks : List Kid) (nd ns : List ByteArray) (Fd Fs : Nat → Prop) : Prop where
 ld : ListR W bd Cd kd Fd
 ls : ListR W bs Cs ks Fs
 td : ∀ k, Fd k → TB W k
 ts : ∀ k, Fs k → TB W k
 dis : ∀ k, Fd k → Fs k → False
 ned : kd ≠ []
 nes : ks ≠ []
 lend : kd.length ≤ 250
 lens : ks.length ≤ 250
 nmd : NamesL (kd.map (·.y)) nd
 nms : NamesL (ks.map (·.y)) ns
 gd : ∀ z ∈ kd.map (·.y), GoodI true d z
 gs : ∀ z ∈ ks.map (·.y), GoodI true d z
 al : ∀ s a b, elm (kd.map (·.y)) nd s a → elm (ks.map (·.y)) ns s b → AlikeI true d a b
def TL (bd bs : Nat) (Cd Cs : Value) (Fd Fs : Nat → Prop) (k : Nat) : Prop := (Fd k ∧ k ≠ bd ∧ Cd.ownBlock ≠ some k) ∨ (Fs k ∧ k ≠ bs ∧ Cs.ownBlock ≠ some k)
structure PB (W : World) (d : Nat) (kd ks : List Kid) (nd ns : List ByteArray) (bi : Nat) (P : List ByteArray) (E : List Nat) (Y : ByteArray → S25) (G : ByteArray → Nat → Prop) (w : World) : Prop where
 old : ∀ s, s ∉ P → ∀ k, MP kd ks nd ns s k → w.heap[k]? = W.heap[k]?
 rep : ∀ (i : Nat) s x, P[i]? = some s → E[i]? = some x → Rep w x (Y s) (G s) ∧ VP d kd ks nd ns s x (Y s)
 src : ∀ s ∈ P, ∀ (j : Nat) z, ks[j]? = some z → ns[j]? = some s → NmF w z.cb s (G s)
 foot : ∀ s ∈ P, ∀ k, G s k → (MP kd ks nd ns s k ∨ W.heap.size ≤ k) ∧ k < w.heap.size ∧ k ≠ bi
 dis : ∀ s ∈ P, ∀ s' ∈ P, s ≠ s' → ∀ k, G s k → G s' k → False
section
variable {d : Nat} {W : World} {bd bs : Nat} {Cd Cs : Value} {kd ks : List Kid} {nd ns : List ByteArray} {Fd Fs : Nat → Prop}
theorem LL.namedd (h : LL d W bd bs Cd Cs kd ks nd ns Fd Fs) {i : Nat} {c : Kid} {s : ByteArray} (h1 : kd[i]? = some c) (h2 : nd[i]? = some s) : NamedB c.y s ∧ GoodI true d c.y :=
 ⟨h.nmd.2.2.2 i _ s (by rw [List.getElem?_map, h1]; rfl) h2, h.gd _ (List.mem_map_of_mem (List.mem_of_getElem? h1))⟩
theorem LL.nameds (h : LL d W bd bs Cd Cs kd ks nd ns Fd Fs) {i : Nat} {c : Kid} {s : ByteArray} (h1 : ks[i]? = some c) (h2 : ns[i]? = some s) : NamedB c.y s ∧ GoodI true d c.y :=
 ⟨h.nms.2.2.2 i _ s (by rw [List.getElem?_map, h1]; rfl) h2, h.gs _ (List.mem_map_of_mem (List.mem_of_getElem? h1))⟩
theorem LL.hasd (h : LL d W bd bs Cd Cs kd ks nd ns Fd Fs) {s : ByteArray} (hs : s ∈ nd) : ∃ (i : Nat) (c : Kid), kd[i]? = some c ∧ nd[i]? = some s := by
 obtain ⟨i, hi⟩ := List.getElem?_of_mem hs
 have hl : nd.length = kd.length := by have := h.nmd.1; simpa using this
 have := (List.getElem?_eq_some_iff.1 hi).1
 exact ⟨i, _, List.getElem?_eq_getElem (by omega), hi⟩
theorem LL.hass (h : LL d W bd bs Cd Cs kd ks nd ns Fd Fs) {s : ByteArray} (hs : s ∈ ns) : ∃ (i : Nat) (c : Kid), ks[i]? = some c ∧ ns[i]? = some s := by
 obtain ⟨i, hi⟩ := List.getElem?_of_mem hs
 have hl : ns.length = ks.length := by have := h.nms.1; simpa using this
 have := (List.getElem?_eq_some_iff.1 hi).1
 exact ⟨i, _, List.getElem?_eq_getElem (by omega), hi⟩
theorem LL.oned (h : LL d W bd bs Cd Cs kd ks nd ns Fd Fs) {i j : Nat} {c z : Kid} {s : ByteArray} (h1 : kd[i]? = some c) (h2 : nd[i]? = some s) (h3 : kd[j]? = some z) (h4 : nd[j]? = some s) : c = z := by
 have := nodup_idx h.nmd.2.1 h2 h4
 subst this
 rw [h1] at h3
 injection h3
theorem LL.ones (h : LL d W bd bs Cd Cs kd ks nd ns Fd Fs) {i j : Nat} {c z : Kid} {s : ByteArray} (h1 : ks[i]? = some c) (h2 : ns[i]? = some s) (h3 : ks[j]? = some z) (h4 : ns[j]? = some s) : c = z := by
 have := nodup_idx h.nms.2.1 h2 h4
 subst this
 rw [h1] at h3
 injection h3
theorem LL.tl (h : LL d W bd bs Cd Cs kd ks nd ns Fd Fs) {s : ByteArray} {k : Nat} (hk : MP kd ks nd ns s k) : TL bd bs Cd Cs Fd Fs k := by
 rcases hk with ⟨i, c, h1, _, h3⟩ | ⟨i, c, h1, _, h3⟩
 ·exact .inl (h.ld.kid c (List.mem_of_getElem? h1) k h3)
 ·exact .inr (h.ls.kid c (List.mem_of_getElem? h1) k h3)
theorem LL.ttb (h : LL d W bd bs Cd Cs kd ks nd ns Fd Fs) {k : Nat} (hk : TL bd bs Cd Cs Fd Fs k) : TB W k := hk.elim (fun h1 => h.td k h1.1) fun h1 => h.ts k h1.1
theorem LL.mdis (h : LL d W bd bs Cd Cs kd ks nd ns Fd Fs) {s s' : ByteArray} (hne : s ≠ s') {k : Nat} (hk : MP kd ks nd ns s k) (hk' : MP kd ks nd ns s' k) : False := by
 rcases hk with ⟨i, c, h1, h2, h3⟩ | ⟨i, c, h1, h2, h3⟩ <;> rcases hk' with ⟨j, z, g1, g2, g3⟩ | ⟨j, z, g1, g2, g3⟩
 ·refine h.ld.idx h1 g1 ?_ k h3 g3
  rintro rfl
  rw [h2] at g2
  injection g2 with g2
  exact hne g2
 ·exact h.dis k (h.ld.kid c (List.mem_of_getElem? h1) k h3).1 (h.ls.kid z (List.mem_of_getElem? g1) k g3).1
 ·exact h.dis k (h.ld.kid z (List.mem_of_getElem? g1) k g3).1 (h.ls.kid c (List.mem_of_getElem? h1) k h3).1
 ·refine h.ls.idx h1 g1 ?_ k h3 g3
  rintro rfl
  rw [h2] at g2
  injection g2 with g2
  exact hne g2
theorem VP.nmF (h : LL d W bd bs Cd Cs kd ks nd ns Fd Fs) {s : ByteArray} {x : Nat} {y : S25} (hv : VP d kd ks nd ns s x y) {w : World} {F : Nat → Prop} (hr : Rep w x y F) : NmF w x s F ∧ y.f0 = 2 := by
 rcases hv with ⟨i, j, c, z, h1, h2, h3, h4, _, h6⟩ | ⟨i, c, h1, h2, _, _, rfl⟩ | ⟨j, z, h1, h2, _, _, rfl⟩
 ·obtain ⟨a1, a2⟩ := h.namedd h1 h2
  obtain ⟨b1, b2⟩ := h.nameds h3 h4
  obtain ⟨q1, q2⟩ := h6.nmF a2 b2 a1 b1
  exact ⟨q2 hr, q1⟩
 ·obtain ⟨a1, a2⟩ := h.namedd h1 h2
  exact ⟨a2.nmF a1 hr, a1.1⟩
 ·obtain ⟨a1, a2⟩ := h.nameds h1 h2
  exact ⟨a2.nmF a1 hr, a1.1⟩
variable {bi : Nat} {P : List ByteArray} {E : List Nat} {Y : ByteArray → S25} {G : ByteArray → Nat → Prop} {w w' : World}
theorem PB.frame (h : PB W d kd ks nd ns bi P E Y G w) (hLL : LL d W bd bs Cd Cs kd ks nd ns Fd Fs) (hl : P.length = E.length) (hW : W.heap.size ≤ w.heap.size) {U : Nat → Prop} (hk : Keep U w w') (h1 : ∀ s ∈ P, ∀ k, G s k → TB w k → ¬ U k) (h2 : ∀ k, k < W.heap.size → TB w k → ¬ U k) : PB W d kd ks nd ns bi P E Y G w' := by
 refine ⟨fun s hs k hM => ?_, fun i s x hs hx => ?_, fun s hs j z hz hn => (h.src s hs j z hz hn).keep hk (h1 s hs), fun s hs k hG => ?_, h.dis⟩
 ·have e := h.old s hs k hM
  obtain ⟨cs, t, e1, e2⟩ := hLL.ttb (hLL.tl hM)
  have ht : TB w k := ⟨cs, t, e.trans e1, e2⟩
  exact (hk.block k ht.lt (h2 k (lt_of_block e1) ht)).trans e
 ·obtain ⟨q1, q2⟩ := h.rep i s x hs hx
  exact ⟨q1.step fun k hG ht => hk.block k ht.lt (h1 s (List.mem_of_getElem? hs) k hG ht), q2⟩
 ·obtain ⟨q1, q2, q3⟩ := h.foot s hs k hG
  exact ⟨q1, Nat.lt_of_lt_of_le q2 hk.size, q3⟩
open Classical in
theorem PB.step (h : PB W d kd ks nd ns bi P E Y G w) (hLL : LL d W bd bs Cd Cs kd ks nd ns Fd Fs) (hl : P.length = E.length) (hW : W.heap.size ≤ w.heap.size) (hbi : bi < w.heap.size) (hbW : W.heap.size ≤ bi) {s : ByteArray} (hs : s ∉ P) {x : Nat} {y : S25} {T : Nat → Prop} (hT : ∀ k, T k → ¬ TB w k) (hk : Keep (fun k => MP kd ks nd ns s k ∨ T k) w w')
  (hr : Rep w' x y (fun k => MP kd ks nd ns s k ∨ (w.heap.size ≤ k ∧ k < w'.heap.size))) (hv : VP d kd ks nd ns s x y) (hn : ∀ (j : Nat) z, ks[j]? = some z → ns[j]? = some s → NmF w' z.cb s (fun k => MP kd ks nd ns s k ∨ (w.heap.size ≤ k ∧ k < w'.heap.size))) :
  PB W d kd ks nd ns bi (P ++ [s]) (E ++ [x]) (fun t => if t = s then y else Y t) (fun t => if t = s then (fun k => MP kd ks nd ns s k ∨ (w.heap.size ≤ k ∧ k < w'.heap.size)) else G t) w' := by
 have hsz := hk.size
 have hMlt : ∀ {t k}, MP kd ks nd ns t k → k < W.heap.size := fun hM => (hLL.ttb (hLL.tl hM)).lt
 have hne : ∀ {t}, t ∈ P → t ≠ s := fun ht e => hs (e ▸ ht)
 have hG : ∀ t ∈ P, ∀ k, G t k → MP kd ks nd ns s k → False := fun t ht k hG hM => by
  rcases (h.foot t ht k hG).1 with h1 | h1
  ·exact hLL.mdis (hne ht) h1 hM
  ·have := hMlt hM; omega
 have hU : ∀ t ∈ P, ∀ k, G t k → TB w k → ¬ (MP kd ks nd ns s k ∨ T k) := fun t ht k hg htb hu => hu.elim (hG t ht k hg) fun hu => hT k hu htb
 refine ⟨fun t ht k hM => ?_, fun i t z ht hz => ?_, fun t ht j z hz hnj => ?_, fun t ht k hg => ?_, fun t ht t' ht' hne' k h1 h2 => ?_⟩
 ·simp only [List.mem_append, List.mem_singleton, not_or] at ht
  have e := h.old t ht.1 k hM
  obtain ⟨cs, u, e1, e2⟩ := hLL.ttb (hLL.tl hM)
  have htb : TB w k := ⟨cs, u, e.trans e1, e2⟩
  exact (hk.block k htb.lt fun hu => hu.elim (fun hu => hLL.mdis ht.2 hM hu) fun hu => hT k hu htb).trans e
 ·by_cases hi : i < P.length
  ·rw [List.getElem?_append_left hi] at ht
   rw [List.getElem?_append_left (by omega)] at hz
   have hm := List.mem_of_getElem? ht
   simp only [if_neg (hne hm)]
   obtain ⟨q1, q2⟩ := h.rep i t z ht hz
   exact ⟨q1.step fun k hg htb => hk.block k htb.lt (hU t hm k hg htb), q2⟩
  ·rw [List.getElem?_append_right (by omega)] at ht hz
   have hi0 : i - P.length = 0 := by
    have := (List.getElem?_eq_some_iff.1 ht).1
    simp only [List.length_singleton] at this
    omega
   rw [hi0] at ht
   rw [← hl, hi0] at hz
   simp only [List.getElem?_cons_zero, Option.some.injEq] at ht hz
   subst ht; subst hz
   simp only [if_pos]
   exact ⟨hr, hv⟩
 ·simp only [List.mem_append, List.mem_singleton] at ht
  rcases ht with ht | rfl
  ·simp only [if_neg (hne ht)]
   exact (h.src t ht j z hz hnj).keep hk (hU t ht)
  ·simp only [if_pos]
   exact hn j z hz hnj
 ·simp only [List.mem_append, List.mem_singleton] at ht
  rcases ht with ht | rfl
  ·simp only [if_neg (hne ht)] at hg
   obtain ⟨q1, q2, q3⟩ := h.foot t ht k hg
   exact ⟨q1, by omega, q3⟩
  ·simp only [if_pos] at hg
   rcases hg with hg | hg
   ·have := hMlt hg
    exact ⟨.inl hg, by omega, by omega⟩
   ·exact ⟨.inr (by omega), hg.2, by omega⟩
 ·simp only [List.mem_append, List.mem_singleton] at ht ht'
  rcases ht with ht | rfl <;> rcases ht' with ht' | rfl
  ·simp only [if_neg (hne ht)] at h1
   simp only [if_neg (hne ht')] at h2
   exact h.dis t ht t' ht' hne' k h1 h2
  ·simp only [if_neg (hne ht)] at h1
   simp only [if_pos] at h2
   rcases h2 with h2 | h2
   ·exact hG t ht k h1 h2
   ·have := (h.foot t ht k h1).2.1; omega
  ·simp only [if_neg (hne ht')] at h2
   simp only [if_pos] at h1
   rcases h1 with h1 | h1
   ·exact hG t' ht' k h2 h1
   ·have := (h.foot t' ht' k h2).2.1; omega
  ·exact hne' rfl
theorem elem_walk (ih : BIC true d) (hLL : LL d W bd bs Cd Cs kd ks nd ns Fd Fs) {w3 : World} {s : ByteArray} (hold : ∀ k, MP kd ks nd ns s k → w3.heap[k]? = W.heap[k]?) (hs : s ∈ nd ∨ s ∈ ns) {g cap m : Nat} {q1 q2 : Option Addr} {V : Value} (hs3 : SrcAt w3 g q1 q2) (hcap : 2 ≤ cap) (hV : VisW w3 m V) (hm : m + d ≤ 300) (hd : d ≤ 1000)
  (e1 : EQ (kd.map (·.cb)) nd s q1 w3) (e2 : EQ (ks.map (·.cb)) ns s q2 w3) :
  Calls Tryz.prog 38 #[wkV V (.slice none 0 0) (.int .i64 0) g cap true] w3 fun e w4 => ∃ r x y, e = .returned (.tuple #[.pointer (some ⟨r, 0, none⟩), .nilIface]) ∧ RNB w4 r x ∧ Rep w4 x y (fun k => MP kd ks nd ns s k ∨ (w3.heap.size ≤ k ∧ k < w4.heap.size)) ∧ VP d kd ks nd ns s x y ∧
   (∀ (j : Nat) z, ks[j]? = some z → ns[j]? = some s → NmF w4 z.cb s (fun k => MP kd ks nd ns s k ∨ (w3.heap.size ≤ k ∧ k < w4.heap.size))) ∧ Keep (fun k => MP kd ks nd ns s k ∨ k = g) w3 w4 := by
 have hno : ∀ k, (Value.slice none 0 0).ownBlock ≠ some k := fun k => by simp [Value.ownBlock]
 have hcbd : ∀ {i : Nat} {c : Kid}, kd[i]? = some c → (kd.map (·.cb))[i]? = some c.cb := fun h => by rw [List.getElem?_map, h]; rfl
 have hcbs : ∀ {i : Nat} {c : Kid}, ks[i]? = some c → (ks.map (·.cb))[i]? = some c.cb := fun h => by rw [List.getElem?_map, h]; rfl
 have hyd : ∀ {i : Nat} {c : Kid}, kd[i]? = some c → nd[i]? = some s → elm (kd.map (·.y)) nd s c.y := fun h h2 => ⟨_, h2, by rw [List.getElem?_map, h]; rfl⟩
 have hys : ∀ {i : Nat} {c : Kid}, ks[i]? = some c → ns[i]? = some s → elm (ks.map (·.y)) ns s c.y := fun h h2 => ⟨_, h2, by rw [List.getElem?_map, h]; rfl⟩
 have hrd : ∀ {i : Nat} {c : Kid}, kd[i]? = some c → nd[i]? = some s → Rep w3 c.cb c.y c.F := fun h h2 => (hLL.ld.rep _ (List.mem_of_getElem? h)).move fun k hF => hold k (.inl ⟨_, _, h, h2, hF⟩)
 have hrs : ∀ {i : Nat} {c : Kid}, ks[i]? = some c → ns[i]? = some s → Rep w3 c.cb c.y c.F := fun h h2 => (hLL.ls.rep _ (List.mem_of_getElem? h)).move fun k hF => hold k (.inr ⟨_, _, h, h2, hF⟩)
 have htb : ∀ k, MP kd ks nd ns s k → TB w3 k := fun k hM => by
  obtain ⟨cs, t, h1, h2⟩ := hLL.ttb (hLL.tl hM)
  exact ⟨cs, t, (hold k hM).trans h1, h2⟩
 have hself : ∀ (y : S25) (b : Nat) (F : Nat → Prop), GoodI true d y → y.f0 = 2 → Rep w3 b y F → (∀ k, F k → MP kd ks nd ns s k) → SelfQ w3 q1 q2 b → Calls Tryz.prog 38 #[wkV V (.slice none 0 0) (.int .i64 0) g cap true] w3 fun e w4 => ∃ r, e = .returned (.tuple #[.pointer (some ⟨r, 0, none⟩), .nilIface]) ∧ RNB w4 r b ∧ Rep w4 b y (fun k => F k ∨ (w3.heap.size ≤ k ∧ k < w4.heap.size)) ∧ Keep (fun k => MP kd ks nd ns s k ∨ k = g) w3 w4 := by
  intro y b F hg h0 hr hF hq
  refine (walk_same true d y hg w3 b F b (fun _ => False) hr (fun k hk => htb k (hF k hk)) q1 q2 (.inl ⟨rfl, fun _ h => h, hq⟩) V (.slice none 0 0) g cap 0 m hs3 hcap hV (by omega) (PathOk.nil w3) (by omega)).mono ?_
  rintro e w4 ⟨q, rfl, r, b', rfl, h1, h2, _, h4⟩
  rcases h4 with ⟨rfl, h4⟩ | ⟨_, h4, _⟩
  ·refine ⟨r, rfl, h1, h2.mono fun k h => h.imp id fun h => h.elim (fun h => h.elim) id, h4.mono fun k _ h => ?_⟩
   rcases h with h | h | h
   ·exact .inl (hF k h)
   ·exact .inr h
   ·exact absurd h (hno k)
  ·exact absurd h0 h4
 by_cases h1 : s ∈ nd
 ·obtain ⟨i, c, hi, hin⟩ := hLL.hasd h1
  obtain ⟨r1, rfl, hr1⟩ := e1.at (hcbd hi) hin
  have hFc : ∀ k, c.F k → MP kd ks nd ns s k := fun k hF => .inl ⟨i, c, hi, hin, hF⟩
  obtain ⟨hnc, hgc⟩ := hLL.namedd hi hin
  by_cases h2 : s ∈ ns
  ·obtain ⟨j, z, hj, hjn⟩ := hLL.hass h2
   obtain ⟨r2, rfl, hr2⟩ := e2.at (hcbs hj) hjn
   have hFz : ∀ k, z.F k → MP kd ks nd ns s k := fun k hF => .inr ⟨j, z, hj, hjn, hF⟩
   obtain ⟨hnz, hgz⟩ := hLL.nameds hj hjn
   have hcm := List.mem_of_getElem? hi
   have hzm := List.mem_of_getElem? hj
   refine (ih c.y z.y hgc hgz (hLL.al s _ _ (hyd hi hin) (hys hj hjn)) w3 c.cb z.cb c.F z.F (hrd hi hin) (hrs hj hjn) (fun k hF => htb k (hFc k hF)) (fun k hF => htb k (hFz k hF)) (fun k g1 g2 => hLL.dis k (hLL.ld.kid c hcm k g1).1 (hLL.ls.kid z hzm k g2).1) r1 r2 hr1 hr2 V (.slice none 0 0) g cap 0 m hs3 hcap hV (by omega) (PathOk.nil w3) (by omega)).mono ?_
   rintro e w4 ⟨q, rfl, r, b', ym, rfl, g1, g2, g3, _, g5, g6⟩
   rcases g6 with ⟨rfl, _, g6⟩ | ⟨_, _, g6, _⟩
   ·refine ⟨r, c.cb, ym, rfl, g1, g3.mono fun k h => ?_, .inl ⟨i, j, c, z, hi, hin, hj, hjn, rfl, g2⟩, fun j' z' hj' hjn' => ?_, g6.mono fun k _ h => ?_⟩
    ·rcases h with h | h | h
     ·exact .inl (hFc k h)
     ·exact .inl (hFz k h)
     ·exact .inr h
    ·obtain rfl := hLL.ones hj hjn hj' hjn'
     exact (g5 s hnc hnz).mono fun k h => .inl (hFz k h)
    ·rcases h with h | h | h | h
     ·exact .inl (hFc k h)
     ·exact .inl (hFz k h)
     ·exact .inr h
     ·exact absurd h (hno k)
   ·exact absurd hnc.1 g6
  ·obtain rfl := e2.2 h2
   refine (hself c.y c.cb c.F hgc hnc.1 (hrd hi hin) hFc ⟨.inr ⟨r1, rfl, hr1⟩, .inl rfl, by rintro ⟨h, _⟩; cases h⟩).mono ?_
   rintro e w4 ⟨r, rfl, g1, g2, g3⟩
   exact ⟨r, c.cb, c.y, rfl, g1, g2.mono fun k h => h.imp (hFc k) id, .inr (.inl ⟨i, c, hi, hin, h2, rfl, rfl⟩), fun j z _ hjn => absurd (List.mem_of_getElem? hjn) h2, g3⟩
 ·have h2 : s ∈ ns := hs.resolve_left h1
  obtain ⟨j, z, hj, hjn⟩ := hLL.hass h2
  obtain ⟨r2, rfl, hr2⟩ := e2.at (hcbs hj) hjn
  obtain rfl := e1.2 h1
  have hFz : ∀ k, z.F k → MP kd ks nd ns s k := fun k hF => .inr ⟨j, z, hj, hjn, hF⟩
  obtain ⟨hnz, hgz⟩ := hLL.nameds hj hjn
  refine (hself z.y z.cb z.F hgz hnz.1 (hrs hj hjn) hFz ⟨.inl rfl, .inr ⟨r2, rfl, hr2⟩, by rintro ⟨_, h⟩; cases h⟩).mono ?_
  rintro e w4 ⟨r, rfl, g1, g2, g3⟩
  have g2' := g2.mono (G := fun k => MP kd ks nd ns s k ∨ (w3.heap.size ≤ k ∧ k < w4.heap.size)) fun k h => h.imp (hFz k) id
  refine ⟨r, z.cb, z.y, rfl, g1, g2', .inr (.inr ⟨j, z, hj, hjn, h1, rfl, rfl⟩), fun j' z' hj' hjn' => ?_, g3⟩
  obtain rfl := hLL.ones hj hjn hj' hjn'
  exact hgz.nmF hnz g2'
end
end Go.Proofs.YtghmajlfmoggfaaGreat
namespace Go.Proofs.YtghmajlfmoggfaaGreat
open Go.RowKit Go.Proofs.YtghmajlfmoggfaaGreatW.PrintWords Go.Proofs.YtghmajlfmoggfaaGreatW.PrintLast PFnMerge
structure InvB (d : Nat) (W : World) (bd bs : Nat) (Cd Cs : Value) (kd ks : List Kid) (nd ns : List ByteArray) (Fd Fs : Nat → Prop) (bi : Nat) (P : List ByteArray) (E : List Nat) (w' : World) : Prop where
 len : P.length = E.length
 lo : W.heap.size ≤ bi
 hi : bi < w'.heap.size
 keep : Keep (TL bd bs Cd Cs Fd Fs) W w'
 pb : ∃ Y G, PB W d kd ks nd ns bi P E Y G w'
section
variable {d : Nat} {W : World} {bd bs : Nat} {Cd Cs : Value} {kd ks : List Kid} {nd ns : List ByteArray} {Fd Fs : Nat → Prop}
theorem LL.move (h : LL d W bd bs Cd Cs kd ks nd ns Fd Fs) {w : World} (hm : ∀ k, Fd k ∨ Fs k → w.heap[k]? = W.heap[k]?) : LL d w bd bs Cd Cs kd ks nd ns Fd Fs := by
 refine ⟨h.ld.step fun k hF => hm k (.inl hF), h.ls.step fun k hF => hm k (.inr hF), fun k hF => ?_, fun k hF => ?_, h.dis, h.ned, h.nes, h.lend, h.lens, h.nmd, h.nms, h.gd, h.gs, h.al⟩
 ·obtain ⟨cs, t, h1, h2⟩ := h.td k hF
  exact ⟨cs, t, (hm k (.inl hF)).trans h1, h2⟩
 ·obtain ⟨cs, t, h1, h2⟩ := h.ts k hF
  exact ⟨cs, t, (hm k (.inr hF)).trans h1, h2⟩
theorem LL.stay (h : LL d W bd bs Cd Cs kd ks nd ns Fd Fs) {w : World} (hk : Keep (TL bd bs Cd Cs Fd Fs) W w) : ListAt w bd Cd (kd.map (·.cb)) ∧ ListAt w bs Cs (ks.map (·.cb)) := by
 refine ⟨⟨h.ld.node.move (hk.block _ h.ld.node.lt ?_), _, h.ld.row.1, own_move h.ld.row.2 fun k e => hk.block k (own_lt h.ld.row.2 k e) ?_⟩, ⟨h.ls.node.move (hk.block _ h.ls.node.lt ?_), _, h.ls.row.1, own_move h.ls.row.2 fun k e => hk.block k (own_lt h.ls.row.2 k e) ?_⟩⟩
 ·rintro (h1 | h1)
  ·exact h1.2.1 rfl
  ·exact h.dis _ h.ld.root h1.1
 ·rintro (h1 | h1)
  ·exact h1.2.2 e
  ·exact h.dis _ (h.ld.row.1 k e).1 h1.1
 ·rintro (h1 | h1)
  ·exact h.dis _ h1.1 h.ls.root
  ·exact h1.2.1 rfl
 ·rintro (h1 | h1)
  ·exact h.dis _ h1.1 (h.ls.row.1 k e).1
  ·exact h1.2.2 e
theorem InvB.nms (hLL : LL d W bd bs Cd Cs kd ks nd ns Fd Fs) {bi : Nat} {P : List ByteArray} {E : List Nat} {w' : World} (h : InvB d W bd bs Cd Cs kd ks nd ns Fd Fs bi P E w') : Nms w' E P ∧ Nms w' (kd.map (·.cb)) nd ∧ Nms w' (ks.map (·.cb)) ns := by
 obtain ⟨Y, G, hp⟩ := h.pb
 have hE : ∀ (i : Nat) s, P[i]? = some s → ∃ x, E[i]? = some x := fun i s hs => by
  have := (List.getElem?_eq_some_iff.1 hs).1
  exact ⟨_, List.getElem?_eq_getElem (by rw [← h.len]; exact this)⟩
 refine ⟨fun i e s he hs => ?_, fun i e s he hs => ?_, fun i e s he hs => ?_⟩
 ·obtain ⟨q1, q2⟩ := hp.rep i s e hs he
  exact (q2.nmF hLL q1).1.nm
 ·rw [List.getElem?_map] at he
  obtain ⟨c, hc, rfl⟩ := Option.map_eq_some_iff.1 he
  by_cases hP : s ∈ P
  ·obtain ⟨j, hj⟩ := List.getElem?_of_mem hP
   obtain ⟨x, hx⟩ := hE j s hj
   obtain ⟨q1, q2⟩ := hp.rep j s x hj hx
   have q3 := (q2.nmF hLL q1).1.nm
   rcases q2 with ⟨i2, _, c2, _, h1, h2, _, _, h5, _⟩ | ⟨i2, c2, h1, h2, _, h5, _⟩ | ⟨_, _, _, _, h5, _⟩
   ·obtain rfl := hLL.oned hc hs h1 h2
    rw [← h5]; exact q3
   ·obtain rfl := hLL.oned hc hs h1 h2
    rw [← h5]; exact q3
   ·exact absurd (List.mem_of_getElem? hs) h5
  ·obtain ⟨a1, a2⟩ := hLL.namedd hc hs
   exact (a2.nmF a1 ((hLL.ld.rep _ (List.mem_of_getElem? hc)).move fun k hF => hp.old s hP k (.inl ⟨i, c, hc, hs, hF⟩))).nm
 ·rw [List.getElem?_map] at he
  obtain ⟨c, hc, rfl⟩ := Option.map_eq_some_iff.1 he
  by_cases hP : s ∈ P
  ·exact (hp.src s hP i c hc hs).nm
  ·obtain ⟨a1, a2⟩ := hLL.nameds hc hs
   exact (a2.nmF a1 ((hLL.ls.rep _ (List.mem_of_getElem? hc)).move fun k hF => hp.old s hP k (.inr ⟨i, c, hc, hs, hF⟩))).nm
theorem both68 (ih : BIC true d) (hLL : LL d W bd bs Cd Cs kd ks nd ns Fd Fs) {c m lb sb rd rs : Nat} {V path : Value} (hrd : RNB W rd bd) (hrs : RNB W rs bs) (hs : SrcAt W sb (some ⟨rd, 0, none⟩) (some ⟨rs, 0, none⟩)) (hV : VisW W m V) (hm : m + d + 1 ≤ 300) (hd : d ≤ 1000)
  (hbx : W.heap[lb]? = some (.cells #[V, .pointer none, .slice (some ⟨sb, 0, none⟩) 2 c, path, .bool true, .bool false, .int .i64 0] 66 (0, 0))) :
  H68 W (TL bd bs Cd Cs Fd Fs) lb sb c rd bd V path Cd true (some ⟨rs, 0, none⟩) (kd.map (·.cb)) (ks.map (·.cb)) nd ns (addN nd ns) (InvB d W bd bs Cd Cs kd ks nd ns Fd Fs) := by
 have hdl : nd.length = kd.length := by have := hLL.nmd.1; simpa using this
 have hsl : ns.length = ks.length := by have := hLL.nms.1; simpa using this
 have hlen : (addN nd ns).length ≤ nd.length + ns.length := addN_len
 have hlend := hLL.lend
 have hlens := hLL.lens
 have hsb : ¬ TL bd bs Cd Cs Fd Fs sb := fun h => hs.spares sb (hLL.ttb h) rfl
 have h47 : ∀ k, TL bd bs Cd Cs Fd Fs k → TB W k ∨ ∃ cs, W.heap[k]? = some (.cells cs 47 (0, 0)) := fun k h => .inl (hLL.ttb h)
 refine ⟨hbx, fun k h => hLL.ttb h, hLL.ld.node.lt, fun s h => ?_, addN_nodup hLL.nmd.2.1, by rw [List.length_map]; omega, by rw [List.length_map]; omega, ?_, ?_, ?_, ?_, ?_, ?_⟩
 ·rcases addN_mem.1 h with h | h
  ·exact hLL.nmd.2.2.1 s h
  ·exact hLL.nms.2.2.1 s h
 ·rintro bi P E w' w'' h hb
  obtain ⟨Y, G, hp⟩ := h.pb
  exact ⟨h.len, h.lo, Nat.lt_of_lt_of_le h.hi hb.size, h.keep.then hb, Y, G, hp.frame hLL h.len h.keep.size (Keep.of_below hb fun _ => False) (fun _ _ _ _ _ h => h) fun _ _ _ h => h⟩
 ·exact fun bi P E w' h => ⟨h.keep, h.len.symm, (h.nms hLL).1⟩
 ·rintro bi P E w' w'' h hlo hk _
  obtain ⟨Y, G, hp⟩ := h.pb
  exact ⟨h.len, h.lo, Nat.lt_of_lt_of_le h.hi hk.size, h.keep.trans hk fun k hl e => by omega, Y, G, hp.frame hLL h.len h.keep.size hk (fun s hs k hG _ e => (hp.foot s hs k hG).2.2 e) fun k hl _ e => by omega⟩
 ·rintro bi w1 hb hlo hhi
  exact ⟨rfl, hlo, hhi, Keep.of_below hb _, fun _ => ⟨0, noStr, noStr, [], []⟩, fun _ _ => False, fun s _ k hM => hb.block k (hLL.ttb (hLL.tl hM)).lt, fun i s x h => by simp at h, fun s h => by simp at h, fun s h => by simp at h, fun s h => by simp at h⟩
 ·rintro bi P E w' h
  obtain ⟨l1, l2⟩ := hLL.stay h.keep
  obtain ⟨n1, n2, n3⟩ := h.nms hLL
  have hr1 := hrd.spare h.keep h47
  have hr2 := hrs.spare h.keep h47
  refine ⟨h.keep.src hs hsb, .inr ⟨rd, bd, Cd, rfl, hr1, l1, by simp; omega, by simp; omega, n2, hLL.nmd.2.1, ?_⟩, .inr ⟨rs, bs, Cs, rfl, hr2, l2, by simp; omega, by simp; omega, n3, hLL.nms.2.1, ?_⟩, hr1, l1, n2⟩
  ·have := List.length_pos_iff.2 hLL.ned; omega
  ·have := List.length_pos_iff.2 hLL.nes; omega
 ·rintro bi P s rest E w' hP h hlo hhi w3 g cap q1 q2 hb3 hs3 hcap hg3 e1 e2
  obtain ⟨Y, G, hp⟩ := h.pb
  have hp3 := hp.frame hLL h.len h.keep.size (Keep.of_below hb3 fun _ => False) (fun _ _ _ _ _ h => h) fun _ _ _ h => h
  have hk3 := h.keep.then hb3
  have hnP : s ∉ P := fun hm => by
   have hnn := addN_nodup (l := ns) hLL.nmd.2.1
   rw [← hP, List.nodup_append] at hnn
   exact hnn.2.2 s hm s (by simp) rfl
  have hsm : s ∈ nd ∨ s ∈ ns := addN_mem.1 (by rw [← hP]; simp)
  have hV3 : VisW w3 m V := hV.mono (K66.of_keep hk3 fun k hk cs => tb_ne (hLL.ttb hk) (by decide))
  have hbx3 := hk3.at_ hbx fun hT => tb_ne (hLL.ttb hT) (by decide) hbx
  refine (elem_walk ih hLL (hp3.old s hnP) hsm hs3 hcap (hV3.ptr hbx3) (by omega) hd e1 e2).mono ?_
  rintro e w4 ⟨r, x, y, rfl, g1, g2, g3, g4, g5⟩
  have hMW : ∀ k, MP kd ks nd ns s k → k < W.heap.size := fun k hM => (hLL.ttb (hLL.tl hM)).lt
  have hgw : W.heap.size ≤ g := Nat.le_trans h.keep.size hg3
  have hst := hp3.step hLL h.len hk3.size (Nat.lt_of_lt_of_le h.hi hb3.size) h.lo hnP (T := fun k => k = g) (fun k hk ht => hs3.spares k ht hk) g5 g2 g3 g4
  obtain ⟨_, hy0⟩ := g3.nmF hLL g2
  refine ⟨r, x, rfl, g1, ?_, ⟨by simp [h.len], h.lo, Nat.lt_of_lt_of_le h.hi (Nat.le_trans hb3.size g5.size), hk3.trans g5 fun k hl hk => hk.elim (fun hk => hLL.tl hk) fun e => by omega, _, _, hst⟩, g5.mono fun k hl hk => hk.imp (fun hk => ⟨hMW k hk, ?_⟩) id⟩
  ·cases g2 with
   | sc _ _ _ _ h _ => simp at hy0
   | sq _ _ _ _ h _ _ _ _ _ => simp at hy0
   | mp _ C' _ _ h _ _ _ _ _ => exact ⟨C', h⟩
  ·obtain ⟨cs, t, q1, q2⟩ := hLL.ttb (hLL.tl hk)
   exact ⟨cs, t, (hp3.old s hnP k hk).trans q1, q2⟩
theorem both68_done (hLL : LL d W bd bs Cd Cs kd ks nd ns Fd Fs) {rd : Nat} (hrd : RNB W rd bd) {e : Ending} {w' : World} (h : Set68 (InvB d W bd bs Cd Cs kd ks nd ns Fd Fs) rd bd Cd (kd.map (·.cb)) nd (addN nd ns) e w') :
  RNB w' rd bd ∧ (∃ ym, MRelI true (d + 1) ⟨3, noStr, noStr, [], kd.map (·.y)⟩ ⟨3, noStr, noStr, [], ks.map (·.y)⟩ ym ∧ Rep w' bd ym (fun k => Fd k ∨ Fs k ∨ (W.heap.size ≤ k ∧ k < w'.heap.size))) ∧ Keep (fun k => Fd k ∨ Fs k) W w' := by
 obtain ⟨_, bi, E, w1, hI, hP⟩ := h
 obtain ⟨Y, G, hp⟩ := hI.pb
 have hdl : nd.length = kd.length := by have := hLL.nmd.1; simpa using this
 have hnn := addN_nodup (l := ns) hLL.nmd.2.1
 obtain ⟨new, hss, hnew⟩ := addN_app (l := ns) (acc := nd)
 have hEl := hI.len
 have h47 : ∀ k, TL bd bs Cd Cs Fd Fs k → TB W k ∨ ∃ cs, W.heap[k]? = some (.cells cs 47 (0, 0)) := fun k h => .inl (hLL.ttb h)
 have hsz1 := hI.keep.size
 have hszP := hP.keep.size
 have hbW : bd < W.heap.size := hLL.ld.node.lt
 have hEd : E = kd.map (·.cb) ++ E.drop nd.length := by
  have h1 : E.take nd.length = kd.map (·.cb) := by
   refine List.ext_getElem? fun i => ?_
   by_cases hi : i < nd.length
   ·rw [List.getElem?_take_of_lt hi]
    have h2 : (addN nd ns)[i]? = some nd[i] := by rw [hss, List.getElem?_append_left hi, List.getElem?_eq_getElem hi]
    have h3 : i < E.length := by rw [← hEl, hss, List.length_append]; omega
    have h4 := (hp.rep i _ _ h2 (List.getElem?_eq_getElem h3)).2
    have hkd := List.getElem?_eq_getElem (show i < kd.length by omega)
    have hndi := List.getElem?_eq_getElem hi
    rw [List.getElem?_eq_getElem h3, List.getElem?_map, hkd, Option.map_some]
    rcases h4 with ⟨i2, _, c2, _, h1, h2, _, _, h5, _⟩ | ⟨i2, c2, h1, h2, _, h5, _⟩ | ⟨_, _, _, _, h5, _⟩
    ·rw [h5, hLL.oned hkd hndi h1 h2]
    ·rw [h5, hLL.oned hkd hndi h1 h2]
    ·exact absurd (List.getElem_mem hi) h5
   ·rw [List.getElem?_eq_none (by rw [List.length_take]; omega), List.getElem?_eq_none (by rw [List.length_map]; omega)]
  rw [← h1, List.take_append_drop]
 have hfold : (E.zip (addN nd ns)).foldl putL (kd.map (·.cb), nd) = (E, addN nd ns) := by
  rw [hEd, hss]
  refine putAll_new (by rw [List.length_map]; omega) (by rw [← hss]; exact hnn) ?_
  rw [List.length_drop, ← hEl, hss, List.length_append]
  omega
 rw [hfold] at hP
 obtain ⟨C', hl', hown⟩ := hP.list
 obtain ⟨F0, hrow'⟩ := hl'.row
 have hin : ∀ s ∈ addN nd ns, ∀ k, G s k → (TL bd bs Cd Cs Fd Fs k ∨ W.heap.size ≤ k) ∧ k < w1.heap.size := fun s hs k hk => by
  obtain ⟨q1, q2, _⟩ := hp.foot s hs k hk
  exact ⟨q1.imp (fun q => hLL.tl q) id, q2⟩
 have hGb : ∀ s ∈ addN nd ns, ∀ k, G s k → k ≠ bd := fun s hs k hk e => by
  subst e
  rcases (hin s hs _ hk).1 with h | h
  ·rcases h with h | h
   ·exact h.2.1 rfl
   ·exact hLL.dis _ hLL.ld.root h.1
  ·omega
 have hCd : ∀ k, Cd.ownBlock = some k → Fd k ∧ k ≠ bd := hLL.ld.row.1
 have hCG : ∀ s ∈ addN nd ns, ∀ k, G s k → C'.ownBlock ≠ some k := fun s hs k hk e => by
  obtain ⟨q1, q2⟩ := hin s hs k hk
  rcases hown with h | h
  ·rw [h] at e
   rcases q1 with (q1 | q1) | q1
   ·exact q1.2.2 e
   ·exact hLL.dis _ (hCd k e).1 q1.1
   ·have := (hLL.td k (hCd k e).1).lt; omega
  ·have := h k e; omega
 let KL : List Kid := ((addN nd ns).zip E).map fun p => ⟨p.1, 0, p.2, Y p.1, G p.1⟩
 have hKL : ∀ (i : Nat) k, KL[i]? = some k → ∃ s x, (addN nd ns)[i]? = some s ∧ E[i]? = some x ∧ k = ⟨s, 0, x, Y s, G s⟩ := fun i k h => by
  simp only [KL, List.getElem?_map] at h
  obtain ⟨p, hp1, rfl⟩ := Option.map_eq_some_iff.1 h
  obtain ⟨h1, h2⟩ := List.getElem?_zip_eq_some.1 hp1
  exact ⟨_, _, h1, h2, rfl⟩
 have hcb : KL.map (·.cb) = E := by
  simp only [KL, List.map_map]
  exact List.map_snd_zip (by omega)
 have hy : KL.map (·.y) = (addN nd ns).map Y := by
  have e1 : KL.map (·.y) = (((addN nd ns).zip E).map Prod.fst).map Y := by simp only [KL, List.map_map]; rfl
  rw [e1, List.map_fst_zip (by omega)]
 refine ⟨(hrd.spare hI.keep h47).spare hP.keep ?_, ⟨⟨3, noStr, noStr, [], (addN nd ns).map Y⟩, .inr (.inr ⟨rfl, nd, ns, rfl, hLL.nmd, hLL.nms, rfl, rfl, rfl, rfl, by simp, fun key v hv => ?_⟩), ?_⟩, (hI.keep.mono fun k _ h => h.imp (fun h => h.1) fun h => h.1).trans hP.keep fun k _ e => .inl (e ▸ hLL.ld.root)⟩
 ·rintro k rfl
  exact .inl (hLL.stay hI.keep).1.node.tb
 ·obtain ⟨i, h1, h2⟩ := hv
  simp only [List.getElem?_map, h1, Option.map_some, Option.some.injEq] at h2
  subst h2
  have h3 : i < E.length := by rw [← hEl]; exact (List.getElem?_eq_some_iff.1 h1).1
  rcases (hp.rep i _ _ h1 (List.getElem?_eq_getElem h3)).2 with ⟨i2, j2, c, z, g1, g2, g3, g4, _, g6⟩ | ⟨i2, c, g1, g2, g3, _, g5⟩ | ⟨j2, z, g1, g2, g3, _, g5⟩
  ·exact .inl ⟨c.y, z.y, ⟨i2, g2, by rw [List.getElem?_map, g1]; rfl⟩, ⟨j2, g4, by rw [List.getElem?_map, g3]; rfl⟩, g6⟩
  ·exact .inr (.inl ⟨⟨i2, g2, by rw [List.getElem?_map, g1, g5]; rfl⟩, g3⟩)
  ·exact .inr (.inr ⟨⟨j2, g2, by rw [List.getElem?_map, g1, g5]; rfl⟩, g3⟩)
 ·rw [← hy]
  refine Rep.sq bd C' KL _ hl'.node (.inl hLL.ld.root) ⟨fun k e => ?_, by rw [hcb]; exact hrow'.2⟩ ?_ (fun c hc k hk => ?_) fun c hc => ?_
  ·have hlt := own_lt hrow'.2 k e
   rcases hown with h | h
   ·rw [h] at e
    exact ⟨.inl (hCd k e).1, (hCd k e).2⟩
   ·have := h k e
    exact ⟨.inr (.inr ⟨by omega, hlt⟩), by omega⟩
  ·rw [List.pairwise_iff_getElem]
   intro i i' hi hi' hlt k h1 h2
   obtain ⟨s, x, a1, _, a3⟩ := hKL i _ (List.getElem?_eq_getElem hi)
   obtain ⟨s', x', b1, _, b3⟩ := hKL i' _ (List.getElem?_eq_getElem hi')
   rw [a3] at h1
   rw [b3] at h2
   refine hp.dis s (List.mem_of_getElem? a1) s' (List.mem_of_getElem? b1) ?_ k h1 h2
   rintro rfl
   have := nodup_idx hnn a1 b1
   omega
  ·obtain ⟨i, hi⟩ := List.getElem?_of_mem hc
   obtain ⟨s, x, a1, _, rfl⟩ := hKL i _ hi
   have hsm := List.mem_of_getElem? a1
   obtain ⟨q1, q2⟩ := hin s hsm k hk
   refine ⟨?_, hGb s hsm k hk, hCG s hsm k hk⟩
   rcases q1 with (q1 | q1) | q1
   ·exact .inl q1.1
   ·exact .inr (.inl q1.1)
   ·exact .inr (.inr ⟨q1, by omega⟩)
  ·obtain ⟨i, hi⟩ := List.getElem?_of_mem hc
   obtain ⟨s, x, a1, a2, rfl⟩ := hKL i _ hi
   have hsm := List.mem_of_getElem? a1
   exact (hp.rep i s x a1 a2).1.step fun k hG ht => hP.keep.block k ht.lt (hGb s hsm k hG)
end
theorem lq_plain {w : World} {r b : Nat} {y : S25} {F : Nat → Prop} (hr : RNB w r b) (hx : Rep w b y F) (h0 : y.f0 = 3) (hne : y.f4 ≠ []) (hlen : y.f4.length ≤ 250) (hp : ∃ z ∈ y.f4, ¬ hasNm z) : LQ w r false := by
 cases hx with
 | sc _ text tag _ h hF => simp at h0
 | mp _ C ks _ h hF hr hd hk hc => simp at h0
 | sq _ Cs ks _ h2 hF2 hr2 hd2 hk2 hc2 => exact plain_LQ hr h2 hr2 hd2 hc2 (by rintro rfl; exact hne rfl) (by simp at hlen; omega) hp
theorem lq_named {w : World} {r b n : Nat} {y : S25} {F : Nat → Prop} {ns : List ByteArray} (hr : RNB w r b) (hx : Rep w b y F) (h0 : y.f0 = 3) (hne : y.f4 ≠ []) (hlen : y.f4.length ≤ 250) (hg : ∀ z ∈ y.f4, GoodI true n z) (hn : NamesL y.f4 ns) : LQ w r true ∧ ListQ w (some ⟨r, 0, none⟩) := by
 cases hx with
 | sc _ text tag _ h hF => simp at h0
 | mp _ C ks _ h hF hr hd hk hc => simp at h0
 | sq _ Cs ks _ h2 hF2 hr2 hd2 hk2 hc2 =>
  obtain ⟨h5, h6⟩ := named_list (G := fun i k => ∃ s, ks[i]? = some s ∧ s.F k) hr h2 hr2 hg hn (fun i c hi => (hc2 c (List.mem_of_getElem? hi)).mono fun k hF => ⟨c, hi, hF⟩) (by rintro rfl; exact hne rfl) (by simp at hlen; omega)
  refine ⟨?_, h6⟩
  rcases h5.src2 with h5 | ⟨r5, h5, h6⟩
  ·cases h5
  ·injection h5 with h5
   injection h5 with h5
   rw [h5]
   exact h6
theorem both_named {d : Nat} (ih : BIC true d) {w : World} {bd bs : Nat} {Cd Cs : Value} {kd ks : List Kid} {nd ns : List ByteArray} {Fd Fs : Nat → Prop} (hLL : LL d w bd bs Cd Cs kd ks nd ns Fd Fs) {c m lb sb rd rs : Nat} {V path : Value} (hrd : RNB w rd bd) (hrs : RNB w rs bs)
  (hs : SrcAt w sb (some ⟨rd, 0, none⟩) (some ⟨rs, 0, none⟩)) (hc : 2 ≤ c) (hV : VisW w m V) (hm : m + d + 1 ≤ 300) (hd : d ≤ 1000) (hbx : w.heap[lb]? = some (.cells #[V, .pointer none, .slice (some ⟨sb, 0, none⟩) 2 c, path, .bool true, .bool false, .int .i64 0] 66 (0, 0))) :
  Calls Tryz.prog 49 #[.pointer (some ⟨lb, 0, none⟩)] w fun e w' => ∃ q, e = .returned (.tuple #[.pointer q, .nilIface]) ∧ BothI true (d + 1) w sb path bd bs ⟨3, noStr, noStr, [], kd.map (·.y)⟩ ⟨3, noStr, noStr, [], ks.map (·.y)⟩ Fd Fs q w' := by
 have hdl : nd.length = kd.length := by have := hLL.nmd.1; simpa using this
 have hstay : ∀ {w1}, Keep (fun k => k = sb) w w1 → ∀ k, Fd k ∨ Fs k → w1.heap[k]? = w.heap[k]? := fun hk k hF => by
  have ht : TB w k := hF.elim (hLL.td k) (hLL.ts k)
  exact hk.block k ht.lt (hs.spares k ht)
 have h47 : ∀ k, k = sb → TB w k ∨ ∃ cs, w.heap[k]? = some (.cells cs 47 (0, 0)) := by
  rintro k rfl
  obtain ⟨cur, h, _⟩ := hs
  exact .inr ⟨cur, h⟩
 have hnlr : ∀ {w1}, LL d w1 bd bs Cd Cs kd ks nd ns Fd Fs → RNB w1 rd bd → RNB w1 rs bs → (NLb w1 (some ⟨rd, 0, none⟩) (kd.map (·.cb)) nd ∧ ListQ w1 (some ⟨rd, 0, none⟩)) ∧ (NLb w1 (some ⟨rs, 0, none⟩) (ks.map (·.cb)) ns ∧ ListQ w1 (some ⟨rs, 0, none⟩)) := fun hL h1 h2 =>
  ⟨named_list (G := fun i k => ∃ s, kd[i]? = some s ∧ s.F k) h1 hL.ld.node hL.ld.row hL.gd hL.nmd (fun i c hi => (hL.ld.rep c (List.mem_of_getElem? hi)).mono fun k hF => ⟨c, hi, hF⟩) hL.ned (by have := hL.lend; omega),
   named_list (G := fun i k => ∃ s, ks[i]? = some s ∧ s.F k) h2 hL.ls.node hL.ls.row hL.gs hL.nms (fun i c hi => (hL.ls.rep c (List.mem_of_getElem? hi)).mono fun k hF => ⟨c, hi, hF⟩) hL.nes (by have := hL.lens; omega)⟩
 have hl0 := hnlr hLL hrd hrs
 refine walk49 (b := bd) (C0 := Cd) (nd := nd) (ns := ns) (bd := kd.map (·.cb)) (bs := ks.map (·.cb)) (BothI true (d + 1) w sb path bd bs ⟨3, noStr, noStr, [], kd.map (·.y)⟩ ⟨3, noStr, noStr, [], ks.map (·.y)⟩ Fd Fs) w hc hV (by omega) hbx hs (.inr hl0.1.2) (.inr hl0.2.2) (by rintro ⟨h, _⟩; cases h) rfl (fun w1 hk => ?_) (by have := List.length_pos_iff.2 hLL.ned; omega) ?_
 ·have h1 := hnlr (hLL.move (hstay hk)) (hrd.spare hk h47) (hrs.spare hk h47)
  exact ⟨h1.1.1, h1.2.1⟩
 intro w1 hk1 hs1 hbx1
 have hL1 := hLL.move (hstay hk1)
 have hV1 : VisW w1 m V := hV.mono (K66.of_keep hk1 fun k hk cs he => by
  subst hk
  exact src_ne66 hs he rfl)
 have h68 := both68 ih hL1 (hrd.spare hk1 h47) (hrs.spare hk1 h47) hs1 hV1 hm hd hbx1
 rw [addN_nil hLL.nmd.2.1]
 refine ⟨_, _, h68, fun e w' hset => ?_⟩
 obtain ⟨g1, ⟨ym, g2, g4⟩, g3⟩ := both68_done hL1 (hrd.spare hk1 h47) hset
 have hsz := hk1.size
 refine ⟨rd, bd, ym, rfl, g1, g2, g4.mono fun k h => h.imp id fun h => h.imp id fun h => ⟨by omega, h.2⟩, (Shape9.of_keep hk1 ?_).trans (Shape9.of_keep g3 fun k cur hF => tb_ne (hF.elim (hL1.td k) (hL1.ts k)) (by decide)), fun s h => absurd h.1 (show (3 : Int) ≠ 2 by decide), .inl ⟨rfl, (show (3 : Int) ≠ 1 by decide), (hk1.mono fun k _ h => .inr (.inr (.inl h))).trans g3 fun k _ h => h.imp id .inl⟩⟩
 rintro k cur rfl hc
 obtain ⟨cur', h1, _⟩ := hs
 rw [h1] at hc
 injection hc with hc
 injection hc with _ hc
 cases hc
theorem leafI {inf : Bool} {d sb : Nat} {w w' : World} {bd bs rd rs : Nat} {yd ys : S25} {Fd Fs : Nat → Prop} {path : Value} (h2 : yd.f0 ≠ 2) (hn : ¬ (inf = true ∧ NamedS yd)) (hrs : Rep w bs ys Fs) (hrns : RNB w rs bs) (hb : Below w.heap.size w w') :
  BothI inf (d + 1) w sb path bd bs yd ys Fd Fs ((some ⟨rs, 0, none⟩ : Option Addr).or (some ⟨rd, 0, none⟩)) w' :=
 ⟨rs, bs, ys, rfl, hrns.under hb, .inl ⟨h2, hn, rfl⟩, (hrs.under hb).mono fun k hk => .inr (.inl hk), Shape9.of_below hb, fun s h => absurd h.1 h2, .inr ⟨rfl, rfl, h2, hrs.under hb, Keep.of_below hb _⟩⟩
theorem BothI.back {inf : Bool} {d sb : Nat} {w w0 w' : World} {bd bs : Nat} {yd ys : S25} {Fd Fs : Nat → Prop} {path : Value} {q : Option Addr} (hb : Below w.heap.size w w0) (h : BothI inf d w0 sb path bd bs yd ys Fd Fs q w') : BothI inf d w sb path bd bs yd ys Fd Fs q w' := by
 obtain ⟨r, b', ym, h1, h2, h3, h4, h5, h6, h7⟩ := h
 have hsz := hb.size
 refine ⟨r, b', ym, h1, h2, h3, h4.mono fun k h => h.imp id fun h => h.imp id fun h => ⟨by omega, h.2⟩, (Shape9.of_below hb).trans h5, h6, ?_⟩
 rcases h7 with ⟨e1, e2, h7⟩ | ⟨e1, e2, e3, e4, h7⟩
 ·exact .inl ⟨e1, e2, (Keep.of_below hb _).trans h7 fun k _ h => h⟩
 ·exact .inr ⟨e1, e2, e3, e4, (Keep.of_below hb _).trans h7 fun k _ h => h⟩
theorem walk_bothI (inf : Bool) : ∀ d, BIC inf d := by
 intro d
 induction d with
 | zero => intro yd ys hg; exact hg.elim
 | succ d ih =>
  intro yd ys hgd hgs hal w bd bs Fd Fs hrd hrs htd hts hdis rd rs hrnd hrns V path sb c n m hs hc hV hmd hp hnd
  have hk0 : kindN ys.f0 = kindN yd.f0 := by rw [hal.1]
  obtain ⟨hld, hnqd⟩ := hgd.good.live hrd hrnd
  obtain ⟨hls, hnqs⟩ := hgs.good.live hrs hrns
  rw [hk0] at hls
  have hk45 : ∀ w', Below w.heap.size w w' → Calls Tryz.prog 45 #[wkV V path (.int .i64 0) sb c inf] w' fun e w'' => e = .returned (.int .u32 (kindN yd.f0)) ∧ Below w'.heap.size w' w'' := fun w' hb => kind45_d w' (hs.under hb) (hld.under hb)
  have hk46 : ∀ w', Below w.heap.size w w' → Calls Tryz.prog 46 #[.int .u32 (kindN yd.f0), .slice (some ⟨sb, 0, none⟩) 2 c] w' fun e w'' => e = .returned .nilIface ∧ w' = w'' := fun w' hb => any46 w' (hs.under hb) (.inr (hld.under hb)) (.inr (hls.under hb))
  have hal1 := hal.1
  have hnn : ¬ ((some ⟨rd, 0, none⟩ : Option Addr) = none ∧ (some ⟨rs, 0, none⟩ : Option Addr) = none) := by rintro ⟨h, _⟩; cases h
  rcases hgd with ⟨h1, _⟩ | ⟨h1, hne, hlen, hcl⟩ | ⟨h1, hne, hlen, hnod, hkeys, hitems⟩
  ·have e : kindN yd.f0 = 8 := by rw [h1]; rfl
   rw [e] at hk45 hk46
   refine walk38_sc _ w hk45 hk46 fun w' hb => (scalar51w w' (hV.mono (K66.of_below hb)) (by omega) (hs.under hb) (hnqd.under hb) (hnqs.under hb)).mono ?_
   rintro e w'' ⟨rfl, hb'⟩
   exact ⟨_, rfl, leafI (by rw [h1]; decide) (fun h => by have := h.2.1; omega) hrs hrns (hb.trans (hb'.mono hb.size))⟩
  ·have e : kindN yd.f0 = 2 := by rw [h1]; rfl
   rw [e] at hk45 hk46
   rcases hgs with ⟨g1, _⟩ | ⟨g1, gne, glen, gcl⟩ | ⟨g1, _⟩
   ·omega
   ·cases inf with
    | false =>
     refine walk38_plain _ w hk45 hk46 (fun w' _ => (assoc48 w').mono fun e w'' h => ⟨h.1, h.2 ▸ Below.refl _ _⟩) fun w' hb => (list50w w' (hV.mono (K66.of_below hb)) (by omega) (hs.under hb) (hnqd.under hb) (hnqs.under hb)).mono ?_
     rintro e w'' ⟨rfl, hb'⟩
     exact ⟨_, rfl, leafI (by rw [h1]; decide) (fun h => by cases h.1) hrs hrns (hb.trans (hb'.mono hb.size))⟩
    | true =>
     obtain ⟨hiff, hsub⟩ := hal.2.2 h1 rfl
     by_cases hN : NamedS yd
     ·obtain ⟨_, ns, hns⟩ := hiff.1 hN
      obtain ⟨_, nd, hnd'⟩ := hN
      have hallN : ∀ {l : List S25} {nx : List ByteArray}, NamesL l nx → ¬ ∃ z ∈ l, ¬ hasNm z := by
       rintro l nx hx ⟨z, hz, hn⟩
       obtain ⟨i, hi⟩ := List.getElem?_of_mem hz
       have hil := (List.getElem?_eq_some_iff.1 hi).1
       exact hn (hx.2.2.2 i z _ hi (List.getElem?_eq_getElem (by rw [hx.1]; exact hil))).has
      have hgid : ∀ z ∈ yd.f4, GoodI true d z := ((hcl rfl).resolve_left (hallN hnd')).2
      have hgis : ∀ z ∈ ys.f4, GoodI true d z := ((gcl rfl).resolve_left (hallN hns)).2
      have l1 := (lq_named hrnd hrd h1 hne hlen hgid hnd').1
      have l2 := (lq_named hrns hrs g1 gne glen hgis hns).1
      refine walk38_named _ w hk45 hk46 (fun w' hb => isAssoc48 w' (hs.under hb) hc (.inr ⟨rd, rfl, l1.under hb⟩) (.inr ⟨rs, rfl, l2.under hb⟩) hnn) fun w' lb hb hbx => ?_
      have hrd' := hrd.under hb
      have hrs' := hrs.under hb
      have hal2 := hsub nd ns hnd' hns
      cases hrd' with
      | sc _ text tag _ h hF => simp at h1
      | mp _ C kids _ h hF hr hd hk hc => simp at h1
      | sq _ Cd kd _ hdn hdF hdr hdd hdk hdc =>
      cases hrs' with
      | sc _ text tag _ h hF => simp at g1
      | mp _ C kids _ h hF hr hd hk hc => simp at g1
      | sq _ Cs ks _ hsn hsF hsr hsd hsk hsc =>
      have hLL : LL d w' bd bs Cd Cs kd ks nd ns Fd Fs := ⟨⟨hdn, hdF, hdr, hdd, hdk, hdc⟩, ⟨hsn, hsF, hsr, hsd, hsk, hsc⟩, fun k h => (htd k h).under hb, fun k h => (hts k h).under hb, hdis, by rintro rfl; exact hne rfl, by rintro rfl; exact gne rfl, by simpa using hlen, by simpa using glen, hnd', hns, hgid, hgis, hal2⟩
      refine (both_named (path := path) ih hLL (hrnd.under hb) (hrns.under hb) (hs.under hb) hc (hV.mono (K66.of_below hb)) (by omega) (by omega) hbx).mono ?_
      rintro e w'' ⟨q, rfl, h⟩
      exact ⟨q, rfl, h.back hb⟩
     ·have hNs : ¬ NamedS ys := fun h => hN (hiff.2 h)
      have p1 : ∃ z ∈ yd.f4, ¬ hasNm z := (hcl rfl).resolve_right fun h => hN ⟨h1, h.1⟩
      have p2 : ∃ z ∈ ys.f4, ¬ hasNm z := (gcl rfl).resolve_right fun h => hNs ⟨g1, h.1⟩
      have l1 := lq_plain hrnd hrd h1 hne hlen p1
      have l2 := lq_plain hrns hrs g1 gne glen p2
      refine walk38_plain _ w hk45 hk46 (fun w' hb => isAssoc48 w' (hs.under hb) hc (.inr ⟨rd, rfl, l1.under hb⟩) (.inr ⟨rs, rfl, l2.under hb⟩) hnn) fun w' hb => (list50w w' (hV.mono (K66.of_below hb)) (by omega) (hs.under hb) (hnqd.under hb) (hnqs.under hb)).mono ?_
      rintro e w'' ⟨rfl, hb'⟩
      exact ⟨_, rfl, leafI (by rw [h1]; decide) (fun h => hN h.2) hrs hrns (hb.trans (hb'.mono hb.size))⟩
   ·omega
  ·have e4 : kindN yd.f0 = 4 := by rw [h1]; rfl
   rw [e4] at hk45 hk46
   rcases hgs with ⟨g1, _⟩ | ⟨g1, _⟩ | ⟨g1, gne, glen, gnod, gkeys, gitems⟩
   ·omega
   ·omega
   have hal2 := hal.2.1 h1
   cases hrd with
   | sc _ text tag _ h hF => simp at h1
   | sq _ Cd kd _ h hF hr hd hk hc => simp at h1
   | mp _ Cd kd _ hdn hdF hdr hdd hdk hdc =>
   cases hrs with
   | sc _ text tag _ h' hF' => simp at g1
   | sq _ Cs ks _ h' hF' hr' hd' hk' hc' => simp at g1
   | mp _ Cs ks _ hsn hsF hsr hsd hsk hsc =>
   exact walk38_map _ w hk45 hk46 fun w0 hb0 => both_map ih ⟨hdn, hdF, hdr, hdd, hdk, hdc⟩ ⟨hsn, hsF, hsr, hsd, hsk, hsc⟩ htd hts hdis (by simpa using hlen) (by simpa using glen) (by rintro rfl; exact hne rfl) (by rintro rfl; exact gne rfl) hnod gnod hkeys gkeys hitems gitems
    (fun a ha s hs he => hal2 s.key a.y s.y (zip_kid.2 ⟨a, ha, he, rfl⟩) (zip_kid.2 ⟨s, hs, rfl, rfl⟩)) hrnd hrns hs hV (by omega) hp (by omega) w0 hb0
end Go.Proofs.YtghmajlfmoggfaaGreat
namespace Go.Proofs.YtghmajlfmoggfaaGreat
open Go.RowKit Go.Proofs.YtghmajlfmoggfaaGreatW.PrintWords Go.Proofs.YtghmajlfmoggfaaGreatW.PrintLast PFnMerge
set_option maxRecDepth 20000 in
set_option maxHeartbeats 4000000 in
theorem zz_infer (inf : Bool) (d : Nat) (hd : d ≤ 100) (y x : S25) (hgy : GoodI inf d y) (hgx : GoodI inf d x) (hal : AlikeI inf d y x) : ZzO inf y x fun m => MRelI inf d y x m := by
 intro w rd rs bd bs Fd Fs hrd hrs htd hts hdis hnd hns
 have H := Lib.hid (And.intro (And.intro hgy (And.intro hgx hal)) (And.intro hrd (And.intro hrs (And.intro htd (And.intro hts (And.intro hdis (And.intro hnd hns)))))))
 clear hgy hgx hal hrd hrs htd hts hdis hnd hns
 go_enter Tryz.func29, Tryz.ntmps29
 go_wp2_with fail
 have hb : Below w.heap.size w ((w.alloc (.cells #[.int .i64 0] 54)).alloc (.cells #[.pointer (some ⟨rd, 0, none⟩), .pointer (some ⟨rs, 0, none⟩)] 47)) := below_alloc (below_alloc (Below.refl _ _) _) _
 have hs : SrcAt ((w.alloc (.cells #[.int .i64 0] 54)).alloc (.cells #[.pointer (some ⟨rd, 0, none⟩), .pointer (some ⟨rs, 0, none⟩)] 47)) (w.heap.size + 1) (some ⟨rd, 0, none⟩) (some ⟨rs, 0, none⟩) := ⟨_, blk_new (by simp) _, rfl, rfl⟩
 obtain ⟨W, hW⟩ : ∃ W, W = (w.alloc (.cells #[.int .i64 0] 54)).alloc (.cells #[.pointer (some ⟨rd, 0, none⟩), .pointer (some ⟨rs, 0, none⟩)] 47) := ⟨_, rfl⟩
 rw [← hW] at hb hs
 rw [← hW]
 clear hW
 have HB := Lib.hid (And.intro hb hs)
 clear hb hs
 refine (walk_bothI inf d y x H.out.1.1 H.out.1.2.1 H.out.1.2.2 W bd bs Fd Fs (H.out.2.1.under HB.out.1) (H.out.2.2.1.under HB.out.1) (fun k hk => (H.out.2.2.2.1 k hk).under HB.out.1) (fun k hk => (H.out.2.2.2.2.1 k hk).under HB.out.1) H.out.2.2.2.2.2.1 rd rs (H.out.2.2.2.2.2.2.1.under HB.out.1) (H.out.2.2.2.2.2.2.2.under HB.out.1) (.iface 60 (.agg #[])) (.slice none 0 0) (w.heap.size + 1) 2 0 0 HB.out.2 (Nat.le_refl _) (VisW.top W) (by omega) (PathOk.nil _) (by omega)).mono ?_
 rintro e w' ⟨q, rfl, r, b, ym, rfl, h1, h0, h2, _, _, h4⟩
 have HR := Lib.hid (And.intro (And.intro h1 h0) (And.intro h2 h4))
 clear h1 h2 h4 h0
 go_wp2_with fail
 refine bodyPost_ret (v := .tuple #[.pointer (some ⟨r, 0, none⟩), .nilIface]) (by simp [results, Tryz.results29, go_sem]) rfl ⟨r, _, ym, _, rfl, HR.out.1.1, HR.out.1.2, HR.out.2.1, ?_⟩
 have hno : ∀ k, (Value.slice none 0 0).ownBlock ≠ some k := fun k => by simp [Value.ownBlock]
 rcases HR.out.2.2 with ⟨_, _, h⟩ | ⟨_, _, _, _, h⟩
 ·refine (Keep.of_below HB.out.1 fun k => Fd k ∨ Fs k).trans h fun k hlt hT => ?_
  rcases hT with hT | hT | hT | hT
  ·exact .inl hT
  ·exact .inr hT
  ·omega
  ·exact absurd hT (hno k)
 ·refine (Keep.of_below HB.out.1 fun k => Fd k ∨ Fs k).trans h fun k hlt hT => ?_
  rcases hT with hT | hT
  ·omega
  ·exact absurd hT (hno k)
end Go.Proofs.YtghmajlfmoggfaaGreat
