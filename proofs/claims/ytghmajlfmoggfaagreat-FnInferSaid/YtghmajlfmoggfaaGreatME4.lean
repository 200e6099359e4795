import Derived.Test.YtghmajlfmoggfaaGreatME2
set_option linter.unusedSimpArgs false
set_option linter.unusedVariables false
namespace Go.Proofs.YtghmajlfmoggfaaGreat
open Go.RowKit Go.Proofs.YtghmajlfmoggfaaGreatW.PrintWords Go.Proofs.YtghmajlfmoggfaaGreatW.PrintLast PFnMerge
def Good : Nat → S25 → Prop
 | 0, _ => False
 | n + 1, y => (y.f0 = 1 ∧ (y.f2.toList == [33, 33, 110, 117, 108, 108]) = false) ∨ (y.f0 = 3 ∧ y.f4 ≠ [] ∧ y.f4.length ≤ 1000) ∨
  (y.f0 = 2 ∧ y.f3 ≠ [] ∧ y.f3.length ≤ 1000 ∧ y.f3.Nodup ∧ (∀ k ∈ y.f3, k.toList.isEmpty = false ∧ k.size ≤ 1000000 ∧ (patchKey.toList == k.toList) = false) ∧ ∀ z ∈ y.f4, Good n z)
theorem nostr_ne : (noStr.toList == [33, 33, 110, 117, 108, 108]) = false := by
 rw [show noStr.toList = [] from by first | rfl | simp [noStr] | decide]; rfl
theorem Good.node {n : Nat} {y : S25} (hg : Good n y) {w : World} {b : Nat} {F : Nat → Prop} (h : Rep w b y F) : ∃ k tag val A l c, NodeB w b k tag val (.slice A l c) ∧ (k == 1) = false ∧ (tag.toList == [33, 33, 110, 117, 108, 108]) = false ∧ ((k != 8) = false ∨ (k != 8) = true ∧ ((l : Int) == 0) = false) ∧
  (y.f0 = 1 ∧ k = 8 ∨ y.f0 = 2 ∧ k = 4 ∧ ((l : Int) % 2 != 0) = false ∧ (l : Int) ≤ 9223372036854775807 ∨ y.f0 = 3 ∧ k = 2) := by
 cases n with
 | zero => exact hg.elim
 | succ n =>
  cases h with
  | sc _ text tag _ h hF =>
   rcases hg with ⟨_, h2⟩ | ⟨h1, _⟩ | ⟨h1, _⟩
   ·exact ⟨8, tag, text, none, 0, 0, h, rfl, h2, .inl rfl, .inl ⟨rfl, rfl⟩⟩
   ·simp at h1
   ·simp at h1
  | mp _ C kids _ h hF hr hd hk hc =>
   rcases hg with ⟨h1, _⟩ | ⟨h1, _⟩ | ⟨_, h2, _⟩
   ·simp at h1
   ·simp at h1
   ·obtain ⟨A, c, rfl, _, hm⟩ := hr.slice
    have hl := two_length kids
    have hz : kids.length ≠ 0 := by intro e; exact h2 (by simp [List.length_eq_zero_iff.1 e])
    refine ⟨4, noStr, noStr, A, _, c, h, rfl, nostr_ne, .inr ⟨rfl, ?_⟩, .inr (.inl ⟨rfl, rfl, ?_, ?_⟩)⟩
    ·exact beq_false_of_ne (by rw [hl]; omega)
    ·simp [hl]
    ·have := own_len hr.2
     unfold maxLen at this
     omega
  | sq _ C kids _ h hF hr hd hk hc =>
   rcases hg with ⟨h1, _⟩ | ⟨_, h2, _⟩ | ⟨h1, _⟩
   ·simp at h1
   ·obtain ⟨A, c, rfl, _, hm⟩ := hr.slice
    have hz : kids.length ≠ 0 := by intro e; exact h2 (by simp [List.length_eq_zero_iff.1 e])
    refine ⟨2, noStr, noStr, A, _, c, h, rfl, nostr_ne, .inr ⟨rfl, ?_⟩, .inr (.inr ⟨rfl, rfl⟩)⟩
    exact beq_false_of_ne (by rw [List.length_map]; omega)
   ·simp at h1
def kindN (k : Int) : Int := if k = 1 then 8 else if k = 2 then 4 else 2
theorem Good.live {n : Nat} {y : S25} (hg : Good n y) {w : World} {r b : Nat} {F : Nat → Prop} (h : Rep w b y F) (hr : RNB w r b) : LiveQ w (some ⟨r, 0, none⟩) (kindN y.f0) ∧ NodeQ w (some ⟨r, 0, none⟩) := by
 obtain ⟨k, tag, val, A, l, c, h1, h2, h3, h4, h5⟩ := hg.node h
 refine ⟨?_, .inr ⟨r, b, k, tag, val, A, l, c, rfl, hr, h1, h2, h4⟩⟩
 rcases h5 with ⟨e, rfl⟩ | ⟨e, rfl, h6, h7⟩ | ⟨e, rfl⟩
 ·rw [e]; exact .inr ⟨r, b, tag, val, _, by decide, rfl, hr, h1, h2, h3⟩
 ·rw [e]; exact .inl ⟨r, b, tag, val, A, l, c, rfl, hr, h1, h2, h3, h6, h7⟩
 ·rw [e]; exact .inr ⟨r, b, tag, val, _, by decide, rfl, hr, h1, h2, h3⟩
def SelfQ (w : World) (dp sp : Option Addr) (b : Nat) : Prop := (dp = none ∨ ∃ r, dp = some ⟨r, 0, none⟩ ∧ RNB w r b) ∧ (sp = none ∨ ∃ r, sp = some ⟨r, 0, none⟩ ∧ RNB w r b) ∧ ¬ (dp = none ∧ sp = none)
theorem SelfQ.under {w w' : World} {dp sp : Option Addr} {b : Nat} (h : SelfQ w dp sp b) (hb : Below w.heap.size w w') : SelfQ w' dp sp b := by
 refine ⟨h.1.imp id ?_, h.2.1.imp id ?_, h.2.2⟩ <;> (rintro ⟨r, h1, h2⟩; exact ⟨r, h1, h2.under hb⟩)
theorem SelfQ.or {w : World} {dp sp : Option Addr} {b : Nat} (h : SelfQ w dp sp b) : ∃ r, sp.or dp = some ⟨r, 0, none⟩ ∧ RNB w r b := by
 obtain ⟨h1, h2, h3⟩ := h
 rcases h2 with rfl | ⟨r, rfl, h2⟩
 ·rcases h1 with rfl | ⟨r, rfl, h1⟩
  ·exact absurd ⟨rfl, rfl⟩ h3
  ·exact ⟨r, rfl, h1⟩
 ·exact ⟨r, rfl, h2⟩
theorem SelfQ.kind {w : World} {dp sp : Option Addr} {b : Nat} (h : SelfQ w dp sp b) {n : Nat} {y : S25} (hg : Good n y) {F : Nat → Prop} (hr : Rep w b y F) {sb c : Nat} {V path mo : Value} {infer : Bool} (hs : SrcAt w sb dp sp) :
  (∀ w', Below w.heap.size w w' → Calls Tryz.prog 45 #[wkV V path mo sb c infer] w' fun e w'' => e = .returned (.int .u32 (kindN y.f0)) ∧ Below w'.heap.size w' w'') ∧
  (∀ w', Below w.heap.size w w' → Calls Tryz.prog 46 #[.int .u32 (kindN y.f0), .slice (some ⟨sb, 0, none⟩) 2 c] w' fun e w'' => e = .returned .nilIface ∧ w' = w'') ∧ NodeQ w dp ∧ NodeQ w sp := by
 obtain ⟨h1, h2, h3⟩ := h
 have e1 : EitherQ w dp (kindN y.f0) ∧ NodeQ w dp := by
  rcases h1 with rfl | ⟨r, rfl, h1⟩
  ·exact ⟨.inl (.inl rfl), .inl rfl⟩
  ·exact ⟨.inr (hg.live hr h1).1, (hg.live hr h1).2⟩
 have e2 : EitherQ w sp (kindN y.f0) ∧ NodeQ w sp := by
  rcases h2 with rfl | ⟨r, rfl, h2⟩
  ·exact ⟨.inl (.inl rfl), .inl rfl⟩
  ·exact ⟨.inr (hg.live hr h2).1, (hg.live hr h2).2⟩
 refine ⟨fun w' hb => ?_, fun w' hb => ?_, e1.2, e2.2⟩
 ·rcases h1 with rfl | ⟨r, rfl, h1⟩
  ·rcases h2 with rfl | ⟨r, rfl, h2⟩
   ·exact absurd ⟨rfl, rfl⟩ h3
   ·exact kind45_s w' (hs.under hb) (.inl rfl) ((hg.live hr h2).1.under hb)
  ·exact kind45_d w' (hs.under hb) ((hg.live hr h1).1.under hb)
 ·exact any46 w' (hs.under hb) (e1.1.imp (fun h => h.under hb) fun h => h.under hb) (e2.1.imp (fun h => h.under hb) fun h => h.under hb)
def Soft (w : World) (T : Nat → Prop) : Prop := ∀ k, k < w.heap.size → T k → ∃ cs t, w.heap[k]? = some (.cells cs t (0, 0)) ∧ (t = 47 ∨ t = 9 ∨ t = 85 ∨ t = 69)
theorem Soft.no {w : World} {T : Nat → Prop} (h : Soft w T) {k : Nat} {o : Obj} (hb : w.heap[k]? = some o) (hn : ∀ cs t, o = .cells cs t (0, 0) → t ≠ 47 ∧ t ≠ 9 ∧ t ≠ 85 ∧ t ≠ 69) : ¬ T k := by
 intro hT
 obtain ⟨cs, t, h1, h2⟩ := h k (lt_of_block hb) hT
 rw [hb] at h1
 injection h1 with h1
 obtain ⟨a, b, c, d⟩ := hn cs t h1
 rcases h2 with h | h | h | h <;> contradiction
theorem Soft.cells {w w' : World} {T : Nat → Prop} (h : Soft w T) (hk : Keep T w w') {k : Nat} {cs : Array Value} {t : Nat} (hb : w.heap[k]? = some (.cells cs t (0, 0))) (hn : t ≠ 47 ∧ t ≠ 9 ∧ t ≠ 85 ∧ t ≠ 69) : w'.heap[k]? = some (.cells cs t (0, 0)) :=
 hk.at_ hb (h.no hb fun cs' t' e => by injection e with e1 e2; subst e2; exact hn)
theorem Soft.rnb {w w' : World} {T : Nat → Prop} (h : Soft w T) (hk : Keep T w w') {r b : Nat} (hb : RNB w r b) : RNB w' r b := h.cells hk hb (by decide)
theorem Soft.sty {w w' : World} {T : Nat → Prop} (h : Soft w T) (hk : Keep T w w') {m : Nat} (hb : StyM w m) : StyM w' m := by
 obtain ⟨es, clock, h1, h2⟩ := hb
 refine ⟨es, clock, hk.at_ h1 (h.no h1 fun cs' t' e => by cases e), fun e he => ?_⟩
 obtain ⟨g, r, cs, g1, g2⟩ := h2 e he
 exact ⟨g, r, cs, g1, h.cells hk g2 (by decide)⟩
theorem SrcAt.soft {w : World} {sb : Nat} {dp sp : Option Addr} (h : SrcAt w sb dp sp) : Soft w fun k => k = sb := fun k _ hk => by
 obtain ⟨cur, h1, _⟩ := h
 exact ⟨cur, 47, by rw [hk]; exact h1, .inl rfl⟩
theorem PathOk.soft {w : World} {path : Value} {n : Nat} (h : PathOk w path n) : Soft w fun k => path.ownBlock = some k := fun k _ hk => by
 obtain ⟨xs, h⟩ := h
 obtain ⟨cs, hc⟩ := own_typed h k hk
 exact ⟨cs, 9, hc, .inr (.inl rfl)⟩
theorem Soft.or {w : World} {T T' : Nat → Prop} (h : Soft w T) (h' : Soft w T') : Soft w fun k => T k ∨ T' k := fun k hl hk => hk.elim (h k hl) (h' k hl)
def Spares (w : World) (T : Nat → Prop) : Prop := ∀ k, TB w k → ¬ T k
theorem SrcAt.spares {w : World} {sb : Nat} {dp sp : Option Addr} (h : SrcAt w sb dp sp) : Spares w fun k => k = sb := by
 rintro k ⟨cs, t, h1, h2⟩ rfl
 obtain ⟨cur, h3, _⟩ := h
 rw [h1] at h3
 injection h3 with h3
 injection h3 with _ h3
 subst h3
 simp at h2
theorem PathOk.spares {w : World} {path : Value} {n : Nat} (h : PathOk w path n) : Spares w fun k => path.ownBlock = some k := by
 rintro k ⟨cs, t, h1, h2⟩ hk
 obtain ⟨xs, h⟩ := h
 obtain ⟨cs', hc⟩ := own_typed h k hk
 rw [h1] at hc
 injection hc with hc
 injection hc with _ hc
 subst hc
 simp at h2
theorem Spares.or {w : World} {T T' : Nat → Prop} (h : Spares w T) (h' : Spares w T') : Spares w fun k => T k ∨ T' k := fun k hl hk => hk.elim (h k hl) (h' k hl)
theorem Spares.none (w : World) : Spares w fun _ => False := fun _ _ h => h.elim
theorem Spares.rep {w w' : World} {T : Nat → Prop} (h : Spares w T) (hk : Keep T w w') {b : Nat} {y : S25} {F : Nat → Prop} (hr : Rep w b y F) : Rep w' b y F :=
 hr.step fun k _ ht => hk.block k ht.lt (h k ht)
theorem Spares.node {w w' : World} {T : Nat → Prop} (h : Spares w T) (hk : Keep T w w') {b : Nat} {k : Int} {tag val : ByteArray} {C : Value} (hb : NodeB w b k tag val C) : NodeB w' b k tag val C := hb.move (hk.block b hb.lt (h b hb.tb))
theorem Spares.map {w w' : World} {T : Nat → Prop} (h : Spares w T) (hk : Keep T w w') {b : Nat} {C : Value} {kids : List Kid} (hm : MapAt w b C kids) : MapAt w' b C kids := by
 refine ⟨h.node hk hm.node, ?_, fun c hc => h.node hk (hm.keys c hc)⟩
 obtain ⟨F, hr⟩ := hm.row
 exact ⟨_, hr.bound.move fun k hF => hk.block k hF.2.lt (h k hF.2)⟩
theorem Keep.src {w w' : World} {T : Nat → Prop} (hk : Keep T w w') {sb : Nat} {dp sp : Option Addr} (hs : SrcAt w sb dp sp) (hn : ¬ T sb) : SrcAt w' sb dp sp := by
 obtain ⟨cur, h1, h2⟩ := hs
 exact ⟨cur, hk.at_ h1 hn, h2⟩
theorem src_ne_path {w : World} {sb n : Nat} {dp sp : Option Addr} {path : Value} (hs : SrcAt w sb dp sp) (hp : PathOk w path n) : path.ownBlock ≠ some sb := by
 intro he
 obtain ⟨xs, h⟩ := hp
 obtain ⟨cs, hc⟩ := own_typed h sb he
 obtain ⟨cur, h1, _⟩ := hs
 rw [h1] at hc
 injection hc with hc
 injection hc with _ hc
 cases hc
theorem Keep.same {b : Nat} {w w' : World} (h : Keep (fun k => k = b) w w') (he : w'.heap[b]? = w.heap[b]?) : Keep (fun _ => False) w w' :=
 ⟨h.os, h.tape, h.output, h.size, fun k hk _ => by
  by_cases hb : k = b
  ·subst hb; exact he
  ·exact h.block k hk hb⟩
theorem meth187 (a0 a1 a2 a3 a4 a5 a6 a7 a8 : Value) (w : World) : Sem.run Tryz.prog (method 345 104 (.agg #[a0, a1, a2, a3, a4, a5, a6, a7, a8]) "Filter") w = .ok (187, .agg #[a0, a1, a2, a3, a4, a5, a6, a7, a8]) w := by kernel_rfl
theorem enter187 (args : Array Value) (w : World) : Sem.run Tryz.prog (callFunc 187 args) w = .ok (.enter 187 args) w := enterFn Tryz.func187 (by kernel_rfl) rfl args w
theorem hasKey_iff {name : ByteArray} {c : Kid} : hasKey name c = true ↔ c.key = name := by
 unfold hasKey
 rw [bs_eq, MapKept.bytes_beq]
 exact eq_comm
theorem find_key {kids : List Kid} {name : ByteArray} (h : ∃ k ∈ kids, k.key = name) : ∃ kid, kids.find? (hasKey name) = some kid ∧ kid ∈ kids ∧ kid.key = name := by
 obtain ⟨k, hk, he⟩ := h
 cases hf : kids.find? (hasKey name) with
 | none => exact absurd (hasKey_iff.2 he) (by simpa using List.find?_eq_none.1 hf k hk)
 | some kid => exact ⟨kid, rfl, List.mem_of_find?_eq_some hf, hasKey_iff.1 (List.find?_some hf)⟩
theorem key_of {name : List UInt8} {key : ByteArray} (h : key.data.toList = name) : key = ⟨name.toArray⟩ := by
 subst h
 cases key
 simp
def fld (x : S25) (key : ByteArray) (v : S25) : Prop := (key, v) ∈ x.f3.zip x.f4
theorem MapAt.keepx {w w' : World} {T : Nat → Prop} {b : Nat} {C : Value} {kids : List Kid} (h : MapAt w b C kids) (hk : Keep T w w') (h1 : ¬ T b) (h2 : ∀ k, C.ownBlock = some k → ¬ T k) (h3 : ∀ c ∈ kids, ¬ T c.kb) : MapAt w' b C kids := by
 refine ⟨h.node.move (hk.block b h.node.lt h1), ?_, fun c hc => (h.keys c hc).move (hk.block _ (h.keys c hc).lt (h3 c hc))⟩
 obtain ⟨F, hr⟩ := h.row
 exact ⟨F, hr.1, own_move hr.2 fun k hb => hk.block k (own_lt hr.2 k hb) (h2 k hb)⟩
theorem TB.keep {w w' : World} {T : Nat → Prop} {k : Nat} (h : TB w k) (hk : Keep T w w') (hn : ¬ T k) : TB w' k := by
 obtain ⟨cs, t, h1, h2⟩ := h
 exact ⟨cs, t, hk.at_ h1 hn, h2⟩
theorem TB.under {w w' : World} {k : Nat} (h : TB w k) (hb : Below w.heap.size w w') : TB w' k := by
 obtain ⟨cs, t, h1, h2⟩ := h
 exact ⟨cs, t, (hb.block k (lt_of_block h1)).trans h1, h2⟩
theorem tb_soft {w : World} {F : Nat → Prop} (h : ∀ k, F k → TB w k) : Soft w F := fun k _ hk => by
 obtain ⟨cs, t, h1, h2⟩ := h k hk
 exact ⟨cs, t, h1, .inr (.inr h2)⟩
end Go.Proofs.YtghmajlfmoggfaaGreat
