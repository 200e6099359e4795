import Derived.Test.YtghmajlfmoggfaaGreatME2
set_option linter.unusedSimpArgs false
set_option linter.unusedVariables false
namespace Go.Proofs.YtghmajlfmoggfaaGreat
open Go.RowKit Go.Proofs.YtghmajlfmoggfaaGreatW.PrintWords Go.Proofs.YtghmajlfmoggfaaGreatW.PrintLast PFnMerge
def Good : Nat → S25 → Prop
  | 0, _ => False
  | n + 1, y => (y.f0 = 1 ∧ (y.f2.toList == [33, 33, 110, 117, 108, 108]) = false) ∨ (y.f0 = 3 ∧ y.f4 ≠ [] ∧ y.f4.length ≤ 1000) ∨
    (y.f0 = 2 ∧ y.f3 ≠ [] ∧ y.f3.length ≤ 1000 ∧ y.f3.Nodup ∧ (∀ k ∈ y.f3, k.toList.isEmpty = false ∧ k.size ≤ 1000000 ∧ (patchKey.toList == k.toList) = false) ∧ ∀ z ∈ y.f4, Good n z)
theorem nostr_ne : (noStr.toList == [33, 33, 110, 117, 108, 108]) = false := by
  rw [show noStr.toList = [] from by first | rfl | simp [noStr] | decide]; rfl
theorem Good.node {n : Nat} {y : S25} (hg : Good n y) {w : World} {b : Nat} {F : Nat → Prop} (h : Rep w b y F) : ∃ k tag val A l c, NodeB w b k tag val (.slice A l c) ∧ (k == 1) = false ∧ (tag.toList == [33, 33, 110, 117, 108, 108]) = false ∧ ((k != 8) = false ∨ (k != 8) = true ∧ ((l : Int) == 0) = false) ∧
    (y.f0 = 1 ∧ k = 8 ∨ y.f0 = 2 ∧ k = 4 ∧ ((l : Int) % 2 != 0) = false ∧ (l : Int) ≤ 9223372036854775807 ∨ y.f0 = 3 ∧ k = 2) := by
  cases n with
  | zero => exact hg.elim
  | succ n =>
    cases h with
    | sc _ text tag _ h hF =>
      rcases hg with ⟨_, h2⟩ | ⟨h1, _⟩ | ⟨h1, _⟩
      · exact ⟨8, tag, text, none, 0, 0, h, rfl, h2, .inl rfl, .inl ⟨rfl, rfl⟩⟩
      · simp at h1
      · simp at h1
    | mp _ C kids _ h hF hr hd hk hc =>
      rcases hg with ⟨h1, _⟩ | ⟨h1, _⟩ | ⟨_, h2, _⟩
      · simp at h1
      · simp at h1
      · obtain ⟨A, c, rfl, _, hm⟩ := hr.slice
        have hl := two_length kids
        have hz : kids.length ≠ 0 := by intro e; exact h2 (by simp [List.length_eq_zero_iff.1 e])
        refine ⟨4, noStr, noStr, A, _, c, h, rfl, nostr_ne, .inr ⟨rfl, ?_⟩, .inr (.inl ⟨rfl, rfl, ?_, ?_⟩)⟩
        · exact beq_false_of_ne (by rw [hl]; omega)
        · simp [hl]
        · have := own_len hr.2
          unfold maxLen at this
          omega
    | sq _ C kids _ h hF hr hd hk hc =>
      rcases hg with ⟨h1, _⟩ | ⟨_, h2, _⟩ | ⟨h1, _⟩
      · simp at h1
      · obtain ⟨A, c, rfl, _, hm⟩ := hr.slice
        have hz : kids.length ≠ 0 := by intro e; exact h2 (by simp [List.length_eq_zero_iff.1 e])
        refine ⟨2, noStr, noStr, A, _, c, h, rfl, nostr_ne, .inr ⟨rfl, ?_⟩, .inr (.inr ⟨rfl, rfl⟩)⟩
        exact beq_false_of_ne (by rw [List.length_map]; omega)
      · simp at h1
def kindN (k : Int) : Int := if k = 1 then 8 else if k = 2 then 4 else 2
theorem Good.live {n : Nat} {y : S25} (hg : Good n y) {w : World} {r b : Nat} {F : Nat → Prop} (h : Rep w b y F) (hr : RNB w r b) : LiveQ w (some ⟨r, 0, none⟩) (kindN y.f0) ∧ NodeQ w (some ⟨r, 0, none⟩) := by
  obtain ⟨k, tag, val, A, l, c, h1, h2, h3, h4, h5⟩ := hg.node h
  refine ⟨?_, .inr ⟨r, b, k, tag, val, A, l, c, rfl, hr, h1, h2, h4⟩⟩
  rcases h5 with ⟨e, rfl⟩ | ⟨e, rfl, h6, h7⟩ | ⟨e, rfl⟩
  · rw [e]; exact .inr ⟨r, b, tag, val, _, by decide, rfl, hr, h1, h2, h3⟩
  · rw [e]; exact .inl ⟨r, b, tag, val, A, l, c, rfl, hr, h1, h2, h3, h6, h7⟩
  · rw [e]; exact .inr ⟨r, b, tag, val, _, by decide, rfl, hr, h1, h2, h3⟩
def SelfQ (w : World) (dp sp : Option Addr) (b : Nat) : Prop := (dp = none ∨ ∃ r, dp = some ⟨r, 0, none⟩ ∧ RNB w r b) ∧ (sp = none ∨ ∃ r, sp = some ⟨r, 0, none⟩ ∧ RNB w r b) ∧ ¬ (dp = none ∧ sp = none)
theorem SelfQ.or {w : World} {dp sp : Option Addr} {b : Nat} (h : SelfQ w dp sp b) : ∃ r, sp.or dp = some ⟨r, 0, none⟩ ∧ RNB w r b := by
  obtain ⟨h1, h2, h3⟩ := h
  rcases h2 with rfl | ⟨r, rfl, h2⟩
  · rcases h1 with rfl | ⟨r, rfl, h1⟩
    · exact absurd ⟨rfl, rfl⟩ h3
    · exact ⟨r, rfl, h1⟩
  · exact ⟨r, rfl, h2⟩
theorem SelfQ.kind {w : World} {dp sp : Option Addr} {b : Nat} (h : SelfQ w dp sp b) {n : Nat} {y : S25} (hg : Good n y) {F : Nat → Prop} (hr : Rep w b y F) {sb c : Nat} {V path mo : Value} {infer : Bool} (hs : SrcAt w sb dp sp) :
    (∀ w', Below w.heap.size w w' → Calls Tryz.prog 45 #[wkV V path mo sb c infer] w' fun e w'' => e = .returned (.int .u32 (kindN y.f0)) ∧ Below w'.heap.size w' w'') ∧
    (∀ w', Below w.heap.size w w' → Calls Tryz.prog 46 #[.int .u32 (kindN y.f0), .slice (some ⟨sb, 0, none⟩) 2 c] w' fun e w'' => e = .returned .nilIface ∧ w' = w'') ∧ NodeQ w dp ∧ NodeQ w sp := by
  obtain ⟨h1, h2, h3⟩ := h
  have e1 : EitherQ w dp (kindN y.f0) ∧ NodeQ w dp := by
    rcases h1 with rfl | ⟨r, rfl, h1⟩
    · exact ⟨.inl (.inl rfl), .inl rfl⟩
    · exact ⟨.inr (hg.live hr h1).1, (hg.live hr h1).2⟩
  have e2 : EitherQ w sp (kindN y.f0) ∧ NodeQ w sp := by
    rcases h2 with rfl | ⟨r, rfl, h2⟩
    · exact ⟨.inl (.inl rfl), .inl rfl⟩
    · exact ⟨.inr (hg.live hr h2).1, (hg.live hr h2).2⟩
  refine ⟨fun w' hb => ?_, fun w' hb => ?_, e1.2, e2.2⟩
  · rcases h1 with rfl | ⟨r, rfl, h1⟩
    · rcases h2 with rfl | ⟨r, rfl, h2⟩
      · exact absurd ⟨rfl, rfl⟩ h3
      · exact kind45_s w' (hs.under hb) (.inl rfl) ((hg.live hr h2).1.under hb)
    · exact kind45_d w' (hs.under hb) ((hg.live hr h1).1.under hb)
  · exact any46 w' (hs.under hb) (e1.1.imp (fun h => h.under hb) fun h => h.under hb) (e2.1.imp (fun h => h.under hb) fun h => h.under hb)
end Go.Proofs.YtghmajlfmoggfaaGreat
namespace Go.Proofs.YtghmajlfmoggfaaGreat
open Go.RowKit Go.Proofs.YtghmajlfmoggfaaGreatW.PrintWords Go.Proofs.YtghmajlfmoggfaaGreatW.PrintLast PFnMerge
def Soft (w : World) (T : Nat → Prop) : Prop := ∀ k, k < w.heap.size → T k → ∃ cs t, w.heap[k]? = some (.cells cs t (0, 0)) ∧ (t = 47 ∨ t = 9 ∨ t = 85 ∨ t = 69)
theorem Soft.no {w : World} {T : Nat → Prop} (h : Soft w T) {k : Nat} {o : Obj} (hb : w.heap[k]? = some o) (hn : ∀ cs t, o = .cells cs t (0, 0) → t ≠ 47 ∧ t ≠ 9 ∧ t ≠ 85 ∧ t ≠ 69) : ¬ T k := by
  intro hT
  obtain ⟨cs, t, h1, h2⟩ := h k (lt_of_block hb) hT
  rw [hb] at h1
  injection h1 with h1
  obtain ⟨a, b, c, d⟩ := hn cs t h1
  rcases h2 with h | h | h | h <;> contradiction
theorem Soft.cells {w w' : World} {T : Nat → Prop} (h : Soft w T) (hk : Keep T w w') {k : Nat} {cs : Array Value} {t : Nat} (hb : w.heap[k]? = some (.cells cs t (0, 0))) (hn : t ≠ 47 ∧ t ≠ 9 ∧ t ≠ 85 ∧ t ≠ 69) : w'.heap[k]? = some (.cells cs t (0, 0)) :=
  hk.at_ hb (h.no hb fun cs' t' e => by injection e with e1 e2; subst e2; exact hn)
theorem Soft.rnb {w w' : World} {T : Nat → Prop} (h : Soft w T) (hk : Keep T w w') {r b : Nat} (hb : RNB w r b) : RNB w' r b := h.cells hk hb (by decide)
theorem Soft.sty {w w' : World} {T : Nat → Prop} (h : Soft w T) (hk : Keep T w w') {m : Nat} (hb : StyM w m) : StyM w' m := by
  obtain ⟨es, clock, h1, h2⟩ := hb
  refine ⟨es, clock, hk.at_ h1 (h.no h1 fun cs' t' e => by cases e), fun e he => ?_⟩
  obtain ⟨g, r, cs, g1, g2⟩ := h2 e he
  exact ⟨g, r, cs, g1, h.cells hk g2 (by decide)⟩
theorem SrcAt.soft {w : World} {sb : Nat} {dp sp : Option Addr} (h : SrcAt w sb dp sp) : Soft w fun k => k = sb := fun k _ hk => by
  obtain ⟨cur, h1, _⟩ := h
  exact ⟨cur, 47, by rw [hk]; exact h1, .inl rfl⟩
theorem PathOk.soft {w : World} {path : Value} {n : Nat} (h : PathOk w path n) : Soft w fun k => path.ownBlock = some k := fun k _ hk => by
  obtain ⟨xs, h⟩ := h
  obtain ⟨cs, hc⟩ := own_typed h k hk
  exact ⟨cs, 9, hc, .inr (.inl rfl)⟩
theorem Soft.or {w : World} {T T' : Nat → Prop} (h : Soft w T) (h' : Soft w T') : Soft w fun k => T k ∨ T' k := fun k hl hk => hk.elim (h k hl) (h' k hl)
def Spares (w : World) (T : Nat → Prop) : Prop := ∀ k, TB w k → ¬ T k
theorem SrcAt.spares {w : World} {sb : Nat} {dp sp : Option Addr} (h : SrcAt w sb dp sp) : Spares w fun k => k = sb := by
  rintro k ⟨cs, t, h1, h2⟩ rfl
  obtain ⟨cur, h3, _⟩ := h
  rw [h1] at h3
  injection h3 with h3
  injection h3 with _ h3
  subst h3
  simp at h2
theorem PathOk.spares {w : World} {path : Value} {n : Nat} (h : PathOk w path n) : Spares w fun k => path.ownBlock = some k := by
  rintro k ⟨cs, t, h1, h2⟩ hk
  obtain ⟨xs, h⟩ := h
  obtain ⟨cs', hc⟩ := own_typed h k hk
  rw [h1] at hc
  injection hc with hc
  injection hc with _ hc
  subst hc
  simp at h2
theorem Spares.or {w : World} {T T' : Nat → Prop} (h : Spares w T) (h' : Spares w T') : Spares w fun k => T k ∨ T' k := fun k hl hk => hk.elim (h k hl) (h' k hl)
theorem Spares.none (w : World) : Spares w fun _ => False := fun _ _ h => h.elim
theorem Spares.rep {w w' : World} {T : Nat → Prop} (h : Spares w T) (hk : Keep T w w') {b : Nat} {y : S25} {F : Nat → Prop} (hr : Rep w b y F) : Rep w' b y F :=
  hr.step fun k _ ht => hk.block k ht.lt (h k ht)
theorem Spares.node {w w' : World} {T : Nat → Prop} (h : Spares w T) (hk : Keep T w w') {b : Nat} {k : Int} {tag val : ByteArray} {C : Value} (hb : NodeB w b k tag val C) : NodeB w' b k tag val C := hb.move (hk.block b hb.lt (h b hb.tb))
theorem Spares.map {w w' : World} {T : Nat → Prop} (h : Spares w T) (hk : Keep T w w') {b : Nat} {C : Value} {kids : List Kid} (hm : MapAt w b C kids) : MapAt w' b C kids := by
  refine ⟨h.node hk hm.node, ?_, fun c hc => h.node hk (hm.keys c hc)⟩
  obtain ⟨F, hr⟩ := hm.row
  exact ⟨_, hr.bound.move fun k hF => hk.block k hF.2.lt (h k hF.2)⟩
theorem Keep.src {w w' : World} {T : Nat → Prop} (hk : Keep T w w') {sb : Nat} {dp sp : Option Addr} (hs : SrcAt w sb dp sp) (hn : ¬ T sb) : SrcAt w' sb dp sp := by
  obtain ⟨cur, h1, h2⟩ := hs
  exact ⟨cur, hk.at_ h1 hn, h2⟩
theorem src_ne_path {w : World} {sb n : Nat} {dp sp : Option Addr} {path : Value} (hs : SrcAt w sb dp sp) (hp : PathOk w path n) : path.ownBlock ≠ some sb := by
  intro he
  obtain ⟨xs, h⟩ := hp
  obtain ⟨cs, hc⟩ := own_typed h sb he
  obtain ⟨cur, h1, _⟩ := hs
  rw [h1] at hc
  injection hc with hc
  injection hc with _ hc
  cases hc
theorem Keep.same {b : Nat} {w w' : World} (h : Keep (fun k => k = b) w w') (he : w'.heap[b]? = w.heap[b]?) : Keep (fun _ => False) w w' :=
  ⟨h.os, h.tape, h.output, h.size, fun k hk _ => by
    by_cases hb : k = b
    · subst hb; exact he
    · exact h.block k hk hb⟩
theorem meth187 (a0 a1 a2 a3 a4 a5 a6 a7 a8 : Value) (w : World) : Sem.run Tryz.prog (method 345 104 (.agg #[a0, a1, a2, a3, a4, a5, a6, a7, a8]) "Filter") w = .ok (187, .agg #[a0, a1, a2, a3, a4, a5, a6, a7, a8]) w := by kernel_rfl
theorem enter187 (args : Array Value) (w : World) : Sem.run Tryz.prog (callFunc 187 args) w = .ok (.enter 187 args) w := enterFn Tryz.func187 (by kernel_rfl) rfl args w
theorem hasKey_iff {name : ByteArray} {c : Kid} : hasKey name c = true ↔ c.key = name := by
  unfold hasKey
  rw [bs_eq, MapKept.bytes_beq]
  exact eq_comm
theorem find_key {kids : List Kid} {name : ByteArray} (h : ∃ k ∈ kids, k.key = name) : ∃ kid, kids.find? (hasKey name) = some kid ∧ kid ∈ kids ∧ kid.key = name := by
  obtain ⟨k, hk, he⟩ := h
  cases hf : kids.find? (hasKey name) with
  | none => exact absurd (hasKey_iff.2 he) (by simpa using List.find?_eq_none.1 hf k hk)
  | some kid => exact ⟨kid, rfl, List.mem_of_find?_eq_some hf, hasKey_iff.1 (List.find?_some hf)⟩
theorem key_of {name : List UInt8} {key : ByteArray} (h : key.data.toList = name) : key = ⟨name.toArray⟩ := by
  subst h
  cases key
  simp
end Go.Proofs.YtghmajlfmoggfaaGreat
namespace Go.Proofs.YtghmajlfmoggfaaGreat
open Go.RowKit Go.Proofs.YtghmajlfmoggfaaGreatW.PrintWords Go.Proofs.YtghmajlfmoggfaaGreatW.PrintLast PFnMerge
def SelfR (w : World) (sb : Nat) (path : Value) (b : Nat) (q : Option Addr) (w' : World) : Prop :=
  (∃ r, q = some ⟨r, 0, none⟩ ∧ RNB w' r b) ∧ Keep (fun k => k = sb ∨ path.ownBlock = some k) w w' ∧ Shape9 w w'
def SelfC (d : Nat) : Prop := ∀ (y : S25), Good d y → ∀ (w : World) (b : Nat) (F : Nat → Prop), Rep w b y F → ∀ (dp sp : Option Addr), SelfQ w dp sp b → ∀ (V path mo : Value) (sb c n m : Nat), SrcAt w sb dp sp → VisQ m V → m + d ≤ 300 → PathOk w path n → n + d ≤ 1000 →
  Calls Tryz.prog 38 #[wkV V path mo sb c false] w fun e w' => ∃ q, e = .returned (.tuple #[.pointer q, .nilIface]) ∧ SelfR w sb path b q w'
theorem self_leaf {w w' : World} {dp sp : Option Addr} {b sb : Nat} {path : Value} (h : SelfQ w dp sp b) (hb : Below w.heap.size w w') : SelfR w sb path b (sp.or dp) w' := by
  obtain ⟨r, h1, h2⟩ := h.or
  exact ⟨⟨r, h1, h2.under hb⟩, Keep.of_below hb _, Shape9.of_below hb⟩
theorem self_step {d : Nat} (ih : SelfC d) {w' : World} {b r0 sb c n m : Nat} {C : Value} {kids ks : List Kid} {kid : Kid} {sp : Option Addr} {V path mo : Value} {name : List UInt8} {wb : Nat}
    (hs : SrcAt w' sb (some ⟨r0, 0, none⟩) sp) (hr : RNB w' r0 b) (hm : MapAt w' b C kids) (hks : KidsQ w' sp ks) (hso : ks.find? (hasKey ⟨name.toArray⟩) = none ∨ ∃ s, ks.find? (hasKey ⟨name.toArray⟩) = some s ∧ s.cb = kid.cb) (hbox : w'.heap[wb]? = some (.cells #[V, .pointer none, .slice (some ⟨sb, 0, none⟩) 2 c, path, .bool false, .bool false, mo] 66 (0, 0)))
    (hf : kids.find? (hasKey ⟨name.toArray⟩) = some kid) (hne : (⟨name.toArray⟩ : ByteArray).toList.isEmpty = false) (hg : Good d kid.y) (hrep : ∃ F, Rep w' kid.cb kid.y F) (hV : VisQ m V) (hmd : m + d + 1 ≤ 300) (hp : PathOk w' path n) (hnd : n + d + 1 ≤ 1000) :
    Calls Tryz.prog 61 #[wkV V path mo sb c false, .string ⟨name.toArray⟩] w' fun e w1 => ∃ g cap sm, e = .returned (.tuple #[.slice (some ⟨g, 0, none⟩) 2 cap, .pointer none, .map (some sm)]) ∧ PathOk w1 path n ∧
      w1.heap[wb]? = some (.cells #[V, .pointer none, .slice (some ⟨sb, 0, none⟩) 2 c, path, .bool false, .bool false, mo] 66 (0, 0)) ∧ ∀ path' w2, PathApp w1 w2 path path' n → Calls Tryz.prog 38 #[wkV (.iface 66 (wkV V path mo sb c false)) path' mo g cap false] w2 fun e w3 => ∃ q, e = .returned (.tuple #[.pointer q, .nilIface]) ∧ StyM w3 sm ∧ PtrQ w3 q ∧
        ∀ fb w4, Below w3.heap.size w3 w4 → w4.cell? ⟨fb, 0, none⟩ = some (.iface 104 (fsV ⟨name.toArray⟩ q)) → Calls Tryz.prog 62 #[.pointer (some ⟨r0, 0, none⟩), .slice (some ⟨fb, 0, none⟩) 1 1] w4 fun e w5 => ∃ q', e = .returned (.tuple #[.pointer q', .nilIface]) ∧ Keep (fun k => path.ownBlock = some k) w' w5 ∧ Shape9 w' w5 := by
  have hkd : KidsQ w' (some ⟨r0, 0, none⟩) kids := .inr ⟨r0, b, C, rfl, hr, hm⟩
  refine (fieldValue61 w' hs hkd hks).mono ?_
  rintro e w1 ⟨g, cap, sm, dv, sv, rfl, hge, hB1, hs1, hst1, hfd, hfs⟩
  obtain ⟨F, hrep⟩ := hrep
  have hp1 := hp.shape (Shape9.of_below hB1)
  refine ⟨g, cap, sm, rfl, hp1, (hB1.block _ (lt_of_block hbox)).trans hbox, ?_⟩
  intro path' w2 happ
  have sf2 := hp1.soft
  have hs2 : SrcAt w2 g dv sv := happ.keep.src hs1 (src_ne_path hs1 hp1)
  have hrep2 := hp1.spares.rep happ.keep (hrep.under hB1)
  obtain ⟨vr, rfl, hvr⟩ := hfd.2 kid hf
  have hq2 : SelfQ w2 (some ⟨vr, 0, none⟩) sv kid.cb := by
    refine ⟨.inr ⟨vr, rfl, sf2.rnb happ.keep hvr⟩, ?_, by rintro ⟨h, _⟩; cases h⟩
    rcases hso with hn | ⟨s, hs', hcb⟩
    · exact .inl (hfs.1 hn)
    · obtain ⟨vs, h1, h2⟩ := hfs.2 s hs'
      rw [hcb] at h2
      exact .inr ⟨vs, h1, sf2.rnb happ.keep h2⟩
  refine (ih kid.y hg w2 kid.cb F hrep2 _ _ hq2 (.iface 66 (wkV V path mo sb c false)) path' mo g cap (n + 1) (m + 1) hs2 hV.nest (by omega) happ.ok (by omega)).mono ?_
  rintro e w3 ⟨q, rfl, ⟨r', rfl, hr3⟩, hk3, hsh3⟩
  have sf3 : Soft w2 fun k => k = g ∨ path'.ownBlock = some k := hs2.soft.or happ.ok.soft
  have sp3 : Spares w2 fun k => k = g ∨ path'.ownBlock = some k := hs2.spares.or happ.ok.spares
  refine ⟨_, rfl, sf3.sty hk3 (sf2.sty happ.keep hst1), .inr ⟨r', _, _, rfl, hr3⟩, ?_⟩
  intro fb w4 hB4 hcell
  have hr4 : RNB w4 r0 b := (sf3.rnb hk3 (sf2.rnb happ.keep (hr.under hB1))).under hB4
  have hm4 : MapAt w4 b C kids := (sp3.map hk3 (hp1.spares.map happ.keep (hm.under hB1))).under hB4
  have hrep4 := (sp3.rep hk3 hrep2).under hB4
  obtain ⟨k, tag, val, A, l, c', hn1, hn2, hn3, _⟩ := hg.node hrep4
  have hset := set_found (kd := noStr) (c1 := noStr) (c2 := noStr) (c3 := noStr) w4 hr4 hm4 hne hf hn1 hn2 (hr3.under hB4) hn1 hn2 hn3
  refine (pipe1 (fun q' w5 => Keep (fun k => path.ownBlock = some k) w' w5 ∧ Shape9 w' w5) w4 hr4 hm4.node rfl hcell (meth187 _ _ _ _ _ _ _ _ _) enter187 (hset.mono ?_))
  rintro e w5 ⟨q', rfl, hn5, hk5⟩
  have hk5' := hk5.same (hn5.trans hn1.symm)
  refine ⟨q', rfl, ?_, ?_⟩
  · have k1 : Keep (fun k => path.ownBlock = some k) w' w2 := (Keep.of_below hB1 (fun k => path.ownBlock = some k)).trans happ.keep fun k _ hk => hk
    have k2 : Keep (fun k => path.ownBlock = some k) w' w3 := k1.trans hk3 fun k hk hT => by
      rcases hT with rfl | hT
      · omega
      · rcases happ.at_ with h | ⟨k', h, hk'⟩
        · rw [← h]; exact hT
        · rw [h] at hT; injection hT with hT; subst hT
          have := hB1.size
          omega
    have k3 := k2.then hB4
    exact k3.trans hk5' fun k _ h => h.elim
  · exact ((((Shape9.of_below hB1).trans happ.shape).trans hsh3).trans (Shape9.of_below hB4)).trans (Shape9.of_keep hk5' fun _ _ h => h.elim)
theorem walk_self : ∀ d, SelfC d := by
  intro d
  induction d with
  | zero => intro y hg; exact hg.elim
  | succ d ih =>
    intro y hg w b F hrep dp sp hq V path mo sb c n m hs hV hmd hp hnd
    obtain ⟨hk45, hk46, hnd1, hnd2⟩ := hq.kind hg hrep (V := V) (path := path) (mo := mo) (c := c) (infer := false) hs
    have hg' := hg
    have hrep0 := hrep
    cases hrep with
    | sc _ text tag _ h hF =>
      refine walk38_sc _ w hk45 hk46 fun w' hb => (scalar51 w' hV (by omega) (hs.under hb) (hnd1.under hb) (hnd2.under hb)).mono ?_
      rintro e w'' ⟨rfl, hb'⟩
      exact ⟨_, rfl, self_leaf hq (hb.trans (hb'.mono hb.size))⟩
    | sq _ C kids _ h hF hr hd hk hc =>
      refine walk38_seq _ w hk45 hk46 fun w' hb => (list50 w' hV (by omega) (hs.under hb) (hnd1.under hb) (hnd2.under hb)).mono ?_
      rintro e w'' ⟨rfl, hb'⟩
      exact ⟨_, rfl, self_leaf hq (hb.trans (hb'.mono hb.size))⟩
    | mp _ C kids _ h hF hr hd hk hc =>
      rcases hg with ⟨h1, _⟩ | ⟨h1, _⟩ | ⟨_, hne, hlen, hnod, hkeys, hitems⟩
      · simp at h1
      · simp at h1
      have hm : MapAt w b C kids := ⟨h, ⟨_, hr⟩, fun c hc => (hk c hc).1⟩
      have hkn : kids ≠ [] := by rintro rfl; exact hne rfl
      have hpat : kids.find? (hasKey patchKey) = none := by
        rw [List.find?_eq_none]
        intro x hx
        have := (hkeys x.key (List.mem_map_of_mem hx)).2.2
        simpa [hasKey] using this
      refine walk38_map _ w hk45 hk46 ?_
      intro w0 hb0
      obtain ⟨r0, hr0, hvis⟩ : ∃ r0, RNB w r0 b ∧ (dp = none ∨ dp = some ⟨r0, 0, none⟩) ∧ ∀ w1, Below w.heap.size w w1 → Calls Tryz.prog 159 #[.agg #[], .slice (some ⟨sb, 0, none⟩) 2 c, .pointer none] w1 fun e w2 => e = .returned (.tuple #[.pointer (some ⟨r0, 0, none⟩), .nilIface]) ∧ Below w1.heap.size w1 w2 := by
        have hmq : ∀ r, RNB w r b → MapQ w (some ⟨r, 0, none⟩) := fun r hr => ⟨r, b, C, kids, rfl, hr, hm, hkn, hpat⟩
        obtain ⟨q1, q2, q3⟩ := hq
        have hso : sp = none ∨ MapQ w sp := q2.imp id (by rintro ⟨r, rfl, h⟩; exact hmq r h)
        rcases q1 with rfl | ⟨r, rfl, q1⟩
        · rcases q2 with rfl | ⟨r, rfl, q2⟩
          · exact absurd ⟨rfl, rfl⟩ q3
          · exact ⟨r, q2, .inl rfl, fun w1 hb1 => visitMap_n w1 (hs.under hb1) ((hmq r q2).under hb1)⟩
        · exact ⟨r, q1, .inr rfl, fun w1 hb1 => visitMap_d w1 (hs.under hb1) ((hmq r q1).under hb1) (hso.imp id fun h => h.under hb1)⟩
      have hspk : ∃ ks, sp = none ∧ ks = [] ∨ ks = kids ∧ ∃ r, sp = some ⟨r, 0, none⟩ ∧ RNB w r b := by
        rcases hq.2.1 with h | h
        · exact ⟨[], .inl ⟨h, rfl⟩⟩
        · exact ⟨kids, .inr ⟨rfl, h⟩⟩
      obtain ⟨ks, hspk⟩ := hspk
      have hT : Soft w (fun k => k = sb ∨ path.ownBlock = some k) := hs.soft.or hp.soft
      have hS : Spares w (fun k => k = sb ∨ path.ownBlock = some k) := hs.spares.or hp.spares
      have hlenk : kids.length ≤ 1000 := by simpa using hlen
      have hsz : ∀ s ∈ kids.map (·.key), s.size ≤ maxLen := fun s hs => by have := (hkeys s hs).2.1; unfold maxLen; omega
      have hspm : ∀ w', Keep (fun k => k = sb ∨ path.ownBlock = some k) w w' → sp = none ∧ ks = [] ∨ ks = kids ∧ ∃ r, sp = some ⟨r, 0, none⟩ ∧ RNB w' r b := fun w' hk => by
        rcases hspk with h | ⟨h, r, h1, h2⟩
        · exact .inl h
        · exact .inr ⟨h, r, h1, hT.rnb hk h2⟩
      refine (walkMap47 (r := r0) (m := m) w0 hV (by omega) (n := n) (by omega) (hp.shape (Shape9.of_below hb0))
        (fun P w' => Keep (fun k => k = sb ∨ path.ownBlock = some k) w w' ∧ Shape9 w w' ∧ SrcAt w' sb (some ⟨r0, 0, none⟩) sp ∧ w'.heap[w0.heap.size]? = some (.cells #[V, .pointer none, .slice (some ⟨sb, 0, none⟩) 2 c, path, .bool false, .bool false, mo] 66 (0, 0)))
        (fun ns => ∀ x ∈ ns, ∃ k ∈ kids, k.key.data.toList = x) ?_ ?_ ?_ ?_ ?_).mono ?_
      · exact fun w1 hb1 => hvis.2 w1 (hb0.trans (hb1.mono hb0.size))
      · intro w1 hb1 hbx
        have hb2 := hb0.trans (hb1.mono hb0.size)
        refine (setDest57 (q := some ⟨r0, 0, none⟩) w1 (hs.under hb2)).mono ?_
        rintro e w2 ⟨rfl, hs2, hk2⟩
        refine ⟨rfl, (Keep.of_below hb2 _).trans hk2 fun k _ h => .inl h, (Shape9.of_below hb2).trans (Shape9.of_keep hk2 ?_), hs2, hk2.at_ hbx ?_⟩
        · rintro k cur rfl hc
          obtain ⟨cur', h1, _⟩ := hs.under hb2
          rw [h1] at hc
          injection hc with hc
          injection hc with _ hc
          cases hc
        · intro e
          have := hs.lt
          have := hb0.size
          omega
      · exact fun P w' h => h.2.2.2
      · rintro w' ⟨hkk, hsh, hsr, hbx⟩
        have hd' : SrcKeys w' (some ⟨r0, 0, none⟩) (kids.map (·.key)) := SrcKeys.of_map (hT.rnb hkk hr0) (hS.map hkk hm) (by omega)
        have hs' : SrcKeys w' sp (ks.map (·.key)) := by
          rcases hspm w' hkk with ⟨rfl, rfl⟩ | ⟨rfl, r, rfl, h2⟩
          · exact .inl ⟨rfl, rfl⟩
          · exact SrcKeys.of_map h2 (hS.map hkk hm) (by omega)
        have hksz : ∀ s ∈ ks.map (·.key), s.size ≤ maxLen := by
          rcases hspk with ⟨_, rfl⟩ | ⟨rfl, _⟩
          · simp
          · exact hsz
        have hksl : ks.length ≤ 1000 := by
          rcases hspk with ⟨_, rfl⟩ | ⟨rfl, _⟩
          · simp
          · exact hlenk
        refine (fieldNames58 sortC w' hsr hd' hs' hsz hksz (by simp; omega) (by simp; omega)).mono ?_
        rintro e w'' ⟨g, cap, ns, rfl, hnod', hmem, _, hrow, hB⟩
        refine ⟨g, cap, ns, rfl, hnod', ?_, hrow, hkk.then hB, hsh.trans (Shape9.of_below hB), hsr.under hB, (hB.block _ (lt_of_block hbx)).trans hbx⟩
        intro x hx
        rcases (hmem x).1 hx with ⟨s, h1, h2⟩ | ⟨s, h1, h2⟩
        · obtain ⟨k, hkm, rfl⟩ := List.mem_map.1 h1
          exact ⟨k, hkm, h2⟩
        · obtain ⟨k, hkm, rfl⟩ := List.mem_map.1 h1
          rcases hspk with ⟨_, rfl⟩ | ⟨rfl, _⟩
          · cases hkm
          · exact ⟨k, hkm, h2⟩
      · rintro P name rest w' hNm _ ⟨hk', hsh, hsr, hbx⟩
        obtain ⟨k0, hk0, hk0n⟩ := hNm name (by simp)
        obtain ⟨kid, hf, hmem, hkey⟩ := find_key ⟨k0, hk0, key_of hk0n⟩
        have hne' : (⟨name.toArray⟩ : ByteArray).toList.isEmpty = false := by rw [← hkey]; exact (hkeys _ (List.mem_map_of_mem hmem)).1
        refine (self_step ih hsr (hT.rnb hk' hr0) (hS.map hk' hm) (ks := ks) (by
          rcases hspm w' hk' with ⟨rfl, rfl⟩ | ⟨rfl, r, rfl, h⟩
          · exact .inl ⟨rfl, rfl⟩
          · exact .inr ⟨r, b, C, rfl, h, hS.map hk' hm⟩) (by
          rcases hspk with ⟨_, rfl⟩ | ⟨rfl, _⟩
          · exact .inl rfl
          · exact .inr ⟨kid, hf, rfl⟩) hbx hf hne' (hitems _ (List.mem_map_of_mem hmem)) ⟨_, hS.rep hk' (hc kid hmem)⟩ hV (by omega) (hp.shape hsh) (by omega)).mono ?_
        rintro e w1 ⟨g, cap, sm, rfl, h1, h2, h3⟩
        refine ⟨g, cap, sm, rfl, h1, h2, fun path' w2 happ => (h3 path' w2 happ).mono ?_⟩
        rintro e w3 ⟨q, rfl, h4, h5, h6⟩
        refine ⟨q, rfl, h4, h5, fun fb w4 hb4 hc4 => (h6 fb w4 hb4 hc4).mono ?_⟩
        rintro e w5 ⟨q', rfl, hk5, hsh5⟩
        have hpl : ∀ k, path.ownBlock = some k → k < w0.heap.size := fun k hk => by have := hp.lt k hk; have := hb0.size; omega
        refine ⟨q', rfl, ⟨hk'.trans hk5 fun k _ h => .inr h, hsh.trans hsh5, hk5.src hsr (src_ne_path hsr (hp.shape hsh)), hk5.at_ hbx fun e => ?_⟩, hk5.mono fun k _ h => .inl (hpl k h)⟩
        have := hpl _ e
        omega
      · rintro e w' ⟨rfl, ns, _, _, hk', hsh, _, _⟩
        exact ⟨_, rfl, ⟨r0, rfl, hT.rnb hk' hr0⟩, hk', hsh⟩
end Go.Proofs.YtghmajlfmoggfaaGreat
namespace Go.Proofs.YtghmajlfmoggfaaGreat
open Go.RowKit Go.Proofs.YtghmajlfmoggfaaGreatW.PrintWords Go.Proofs.YtghmajlfmoggfaaGreatW.PrintLast PFnMerge
def fld (x : S25) (key : ByteArray) (v : S25) : Prop := (key, v) ∈ x.f3.zip x.f4
def AlikeN : Nat → S25 → S25 → Prop
  | 0, _, _ => False
  | n + 1, x, y => x.f0 = y.f0 ∧ (x.f0 = 2 → ∀ key a b, fld x key a → fld y key b → AlikeN n a b)
def MRel : Nat → S25 → S25 → S25 → Prop
  | 0, _, _, _ => False
  | n + 1, d, s, m => (d.f0 ≠ 2 ∧ m = s) ∨ (d.f0 = 2 ∧ m.f0 = 2 ∧ m.f1 = noStr ∧ m.f2 = noStr ∧ m.f3.length = m.f4.length ∧ m.f3.Nodup ∧ (∀ key, key ∈ m.f3 ↔ key ∈ d.f3 ∨ key ∈ s.f3) ∧
      ∀ key v, fld m key v → (∃ a b, fld d key a ∧ fld s key b ∧ MRel n a b v) ∨ (fld d key v ∧ key ∉ s.f3) ∨ (fld s key v ∧ key ∉ d.f3))
theorem mrel_node {n : Nat} {d s m : S25} (h : MRel n d s m) (hg : Good n s) {w : World} {b : Nat} {F : Nat → Prop} (hr : Rep w b m F) : ∃ k tag val A l c, NodeB w b k tag val (.slice A l c) ∧ (k == 1) = false ∧ (tag.toList == [33, 33, 110, 117, 108, 108]) = false := by
  cases n with
  | zero => exact h.elim
  | succ n =>
    rcases h with ⟨_, rfl⟩ | ⟨_, h2, _⟩
    · obtain ⟨k, tag, val, A, l, c, h1, h2, h3, _⟩ := hg.node hr
      exact ⟨k, tag, val, A, l, c, h1, h2, h3⟩
    · cases hr with
      | sc _ text tag _ h hF => simp at h2
      | sq _ C kids _ h hF hr hd hk hc => simp at h2
      | mp _ C kids _ h hF hr hd hk hc =>
        obtain ⟨A, c, rfl, _, _⟩ := hr.slice
        exact ⟨4, noStr, noStr, A, _, c, h, rfl, nostr_ne⟩
theorem MapAt.keepx {w w' : World} {T : Nat → Prop} {b : Nat} {C : Value} {kids : List Kid} (h : MapAt w b C kids) (hk : Keep T w w') (h1 : ¬ T b) (h2 : ∀ k, C.ownBlock = some k → ¬ T k) (h3 : ∀ c ∈ kids, ¬ T c.kb) : MapAt w' b C kids := by
  refine ⟨h.node.move (hk.block b h.node.lt h1), ?_, fun c hc => (h.keys c hc).move (hk.block _ (h.keys c hc).lt (h3 c hc))⟩
  obtain ⟨F, hr⟩ := h.row
  exact ⟨F, hr.1, own_move hr.2 fun k hb => hk.block k (own_lt hr.2 k hb) (h2 k hb)⟩
theorem new_step {d : Nat} (ih : SelfC d) {w' : World} {b r0 rs sb c n m : Nat} {C : Value} {kids ks : List Kid} {s : Kid} {V path mo : Value} {name : List UInt8} {wb : Nat}
    (hs : SrcAt w' sb (some ⟨r0, 0, none⟩) (some ⟨rs, 0, none⟩)) (hr : RNB w' r0 b) (hm : MapAt w' b C kids) (hks : KidsQ w' (some ⟨rs, 0, none⟩) ks) (hbox : w'.heap[wb]? = some (.cells #[V, .pointer none, .slice (some ⟨sb, 0, none⟩) 2 c, path, .bool false, .bool false, mo] 66 (0, 0)))
    (hf : kids.find? (hasKey ⟨name.toArray⟩) = none) (hfk : ks.find? (hasKey ⟨name.toArray⟩) = some s) (hne : (⟨name.toArray⟩ : ByteArray).toList.isEmpty = false) (hg : Good d s.y) (hrep : ∃ F, Rep w' s.cb s.y F) (hV : VisQ m V) (hmd : m + d + 1 ≤ 300) (hp : PathOk w' path n) (hnd : n + d + 1 ≤ 1000) (hkl : kids.length ≤ 5000) :
    Calls Tryz.prog 61 #[wkV V path mo sb c false, .string ⟨name.toArray⟩] w' fun e w1 => ∃ g cap sm, e = .returned (.tuple #[.slice (some ⟨g, 0, none⟩) 2 cap, .pointer none, .map (some sm)]) ∧ PathOk w1 path n ∧
      w1.heap[wb]? = some (.cells #[V, .pointer none, .slice (some ⟨sb, 0, none⟩) 2 c, path, .bool false, .bool false, mo] 66 (0, 0)) ∧ ∀ path' w2, PathApp w1 w2 path path' n → Calls Tryz.prog 38 #[wkV (.iface 66 (wkV V path mo sb c false)) path' mo g cap false] w2 fun e w3 => ∃ q, e = .returned (.tuple #[.pointer q, .nilIface]) ∧ StyM w3 sm ∧ PtrQ w3 q ∧
        ∀ fb w4, Below w3.heap.size w3 w4 → w4.cell? ⟨fb, 0, none⟩ = some (.iface 104 (fsV ⟨name.toArray⟩ q)) → Calls Tryz.prog 62 #[.pointer (some ⟨r0, 0, none⟩), .slice (some ⟨fb, 0, none⟩) 1 1] w4 fun e w5 => ∃ q', e = .returned (.tuple #[.pointer q', .nilIface]) ∧
          (∃ kb C', w'.heap.size ≤ kb ∧ NodeB w5 kb 8 noStr ⟨name.toArray⟩ nilS ∧ NodeB w5 b 4 noStr noStr C' ∧ w5.ownsRow 0 69 1 C' ((kids.flatMap Kid.two).length + 2) ((kids.flatMap Kid.two).map ptrV ++ [ptrV kb, ptrV s.cb]) ∧ (C'.ownBlock = C.ownBlock ∨ ∃ g, C'.ownBlock = some g ∧ w'.heap.size ≤ g ∧ g ≠ kb)) ∧
          Keep (fun k => k = b ∨ C.ownBlock = some k ∨ path.ownBlock = some k) w' w5 ∧ Shape9 w' w5 := by
  refine (fieldValue61 w' hs (.inr ⟨r0, b, C, rfl, hr, hm⟩) hks).mono ?_
  rintro e w1 ⟨g, cap, sm, dv, sv, rfl, hge, hB1, hs1, hst1, hfd, hfs⟩
  obtain ⟨F, hrep⟩ := hrep
  have hp1 := hp.shape (Shape9.of_below hB1)
  refine ⟨g, cap, sm, rfl, hp1, (hB1.block _ (lt_of_block hbox)).trans hbox, ?_⟩
  intro path' w2 happ
  have sf2 := hp1.soft
  have hs2 : SrcAt w2 g dv sv := happ.keep.src hs1 (src_ne_path hs1 hp1)
  have hrep2 := hp1.spares.rep happ.keep (hrep.under hB1)
  obtain ⟨vs, rfl, hvs⟩ := hfs.2 s hfk
  obtain rfl := hfd.1 hf
  have hq2 : SelfQ w2 none (some ⟨vs, 0, none⟩) s.cb := ⟨.inl rfl, .inr ⟨vs, rfl, sf2.rnb happ.keep hvs⟩, by rintro ⟨_, h⟩; cases h⟩
  refine (ih s.y hg w2 s.cb F hrep2 _ _ hq2 (.iface 66 (wkV V path mo sb c false)) path' mo g cap (n + 1) (m + 1) hs2 hV.nest (by omega) happ.ok (by omega)).mono ?_
  rintro e w3 ⟨q, rfl, ⟨r', rfl, hr3⟩, hk3, hsh3⟩
  have sf3 : Soft w2 fun k => k = g ∨ path'.ownBlock = some k := hs2.soft.or happ.ok.soft
  have sp3 : Spares w2 fun k => k = g ∨ path'.ownBlock = some k := hs2.spares.or happ.ok.spares
  refine ⟨_, rfl, sf3.sty hk3 (sf2.sty happ.keep hst1), .inr ⟨r', _, _, rfl, hr3⟩, ?_⟩
  intro fb w4 hB4 hcell
  have hr4 : RNB w4 r0 b := (sf3.rnb hk3 (sf2.rnb happ.keep (hr.under hB1))).under hB4
  have hm4 : MapAt w4 b C kids := (sp3.map hk3 (hp1.spares.map happ.keep (hm.under hB1))).under hB4
  have hrep4 := (sp3.rep hk3 hrep2).under hB4
  obtain ⟨k, tag, val, A, l, c', hn1, hn2, hn3, _⟩ := hg.node hrep4
  obtain ⟨Fr, hrow4⟩ := hm4.row
  obtain ⟨AC, cC, rfl, _, _⟩ := hrow4.slice
  have hset := set_new (kd := noStr) w4 hr4 hm4 hne hf (hr3.under hB4) hn1 hn2 hn3 hrow4.2 (by rw [two_length]; omega)
  have k1 : Keep (fun k => path.ownBlock = some k) w' w2 := (Keep.of_below hB1 (fun k => path.ownBlock = some k)).trans happ.keep fun k _ hk => hk
  have k2 : Keep (fun k => path.ownBlock = some k) w' w3 := k1.trans hk3 fun k hk hT => by
    rcases hT with rfl | hT
    · omega
    · rcases happ.at_ with h | ⟨k', h, hk'⟩
      · rw [← h]; exact hT
      · rw [h] at hT; injection hT with hT; subst hT
        have := hB1.size
        omega
  have k3 := k2.then hB4
  have hsz := k3.size
  have hsh4 := ((((Shape9.of_below hB1).trans happ.shape).trans hsh3).trans (Shape9.of_below hB4))
  refine (pipe1 (fun q' w5 => _) w4 hr4 hm4.node rfl hcell (meth187 _ _ _ _ _ _ _ _ _) enter187 (hset.mono ?_))
  rintro e w5 ⟨q', kb, C', rfl, g1, g2, g3, g4, g5, g6⟩
  refine ⟨q', rfl, ⟨kb, C', by omega, g2, g3, g4, g5.imp id fun ⟨g, h1, h2, h3⟩ => ⟨g, h1, by omega, h3⟩⟩, (k3.mono fun k _ h => .inr (.inr h)).trans g6 fun k _ h => h.elim .inl fun h => .inr (.inl h), hsh4.trans (Shape9.of_keep g6 ?_)⟩
  rintro k cur (rfl | h) hc
  · have := hm4.node
    rw [NodeB, hc] at this
    injection this with this
    injection this with _ this
    cases this
  · obtain ⟨cs, hcs⟩ := own_typed hrow4.2 k h
    rw [hc] at hcs
    injection hcs with hcs
    injection hcs with _ hcs
    cases hcs
end Go.Proofs.YtghmajlfmoggfaaGreat
namespace Go.Proofs.YtghmajlfmoggfaaGreat
open Go.RowKit Go.Proofs.YtghmajlfmoggfaaGreatW.PrintWords Go.Proofs.YtghmajlfmoggfaaGreatW.PrintLast PFnMerge
def BothR (d : Nat) (w : World) (sb : Nat) (path : Value) (bd bs : Nat) (yd ys : S25) (Fd Fs : Nat → Prop) (q : Option Addr) (w' : World) : Prop :=
  ∃ r b' ym, q = some ⟨r, 0, none⟩ ∧ RNB w' r b' ∧ MRel d yd ys ym ∧ Rep w' b' ym (fun k => Fd k ∨ Fs k ∨ w.heap.size ≤ k) ∧ Shape9 w w' ∧
    (b' = bd ∧ Keep (fun k => Fd k ∨ k = sb ∨ path.ownBlock = some k) w w' ∨ b' = bs ∧ ym = ys ∧ Keep (fun k => k = sb ∨ path.ownBlock = some k) w w')
def BothC (d : Nat) : Prop := ∀ (yd ys : S25), Good d yd → Good d ys → AlikeN d yd ys → ∀ (w : World) (bd bs : Nat) (Fd Fs : Nat → Prop), Rep w bd yd Fd → Rep w bs ys Fs → (∀ k, Fd k → TB w k) → (∀ k, Fs k → TB w k) → (∀ k, Fd k → Fs k → False) → ∀ (rd rs : Nat), RNB w rd bd → RNB w rs bs →
  ∀ (V path mo : Value) (sb c n m : Nat), SrcAt w sb (some ⟨rd, 0, none⟩) (some ⟨rs, 0, none⟩) → VisQ m V → m + d ≤ 300 → PathOk w path n → n + d ≤ 1000 →
  Calls Tryz.prog 38 #[wkV V path mo sb c false] w fun e w' => ∃ q, e = .returned (.tuple #[.pointer q, .nilIface]) ∧ BothR d w sb path bd bs yd ys Fd Fs q w'
theorem TB.keep {w w' : World} {T : Nat → Prop} {k : Nat} (h : TB w k) (hk : Keep T w w') (hn : ¬ T k) : TB w' k := by
  obtain ⟨cs, t, h1, h2⟩ := h
  exact ⟨cs, t, hk.at_ h1 hn, h2⟩
theorem TB.under {w w' : World} {k : Nat} (h : TB w k) (hb : Below w.heap.size w w') : TB w' k := by
  obtain ⟨cs, t, h1, h2⟩ := h
  exact ⟨cs, t, (hb.block k (lt_of_block h1)).trans h1, h2⟩
theorem tb_soft {w : World} {F : Nat → Prop} (h : ∀ k, F k → TB w k) : Soft w F := fun k _ hk => by
  obtain ⟨cs, t, h1, h2⟩ := h k hk
  exact ⟨cs, t, h1, .inr (.inr h2)⟩
theorem both_step {d : Nat} (ih : BothC d) {w' : World} {b r0 rs sb c n m : Nat} {C : Value} {kids ks : List Kid} {kid s : Kid} {V path mo : Value} {name : List UInt8} {wb : Nat} {Fc Fs : Nat → Prop}
    (hs : SrcAt w' sb (some ⟨r0, 0, none⟩) (some ⟨rs, 0, none⟩)) (hr : RNB w' r0 b) (hm : MapAt w' b C kids) (hks : KidsQ w' (some ⟨rs, 0, none⟩) ks) (hbox : w'.heap[wb]? = some (.cells #[V, .pointer none, .slice (some ⟨sb, 0, none⟩) 2 c, path, .bool false, .bool false, mo] 66 (0, 0)))
    (hf : kids.find? (hasKey ⟨name.toArray⟩) = some kid) (hfk : ks.find? (hasKey ⟨name.toArray⟩) = some s) (hne : (⟨name.toArray⟩ : ByteArray).toList.isEmpty = false) (hgd : Good d kid.y) (hgs : Good d s.y) (hal : AlikeN d kid.y s.y) (hrd : Rep w' kid.cb kid.y Fc) (hrs : Rep w' s.cb s.y Fs)
    (hFc : ∀ k, Fc k → TB w' k) (hFs : ∀ k, Fs k → TB w' k) (hdis : ∀ k, Fc k → Fs k → False) (hb : ¬ Fc b) (hC : ∀ k, C.ownBlock = some k → ¬ Fc k) (hkb : ∀ c' ∈ kids, ¬ Fc c'.kb)
    (hV : VisQ m V) (hmd : m + d + 1 ≤ 300) (hp : PathOk w' path n) (hnd : n + d + 1 ≤ 1000) :
    Calls Tryz.prog 61 #[wkV V path mo sb c false, .string ⟨name.toArray⟩] w' fun e w1 => ∃ g cap sm, e = .returned (.tuple #[.slice (some ⟨g, 0, none⟩) 2 cap, .pointer none, .map (some sm)]) ∧ PathOk w1 path n ∧
      w1.heap[wb]? = some (.cells #[V, .pointer none, .slice (some ⟨sb, 0, none⟩) 2 c, path, .bool false, .bool false, mo] 66 (0, 0)) ∧ ∀ path' w2, PathApp w1 w2 path path' n → Calls Tryz.prog 38 #[wkV (.iface 66 (wkV V path mo sb c false)) path' mo g cap false] w2 fun e w3 => ∃ q, e = .returned (.tuple #[.pointer q, .nilIface]) ∧ StyM w3 sm ∧ PtrQ w3 q ∧
        ∀ fb w4, Below w3.heap.size w3 w4 → w4.cell? ⟨fb, 0, none⟩ = some (.iface 104 (fsV ⟨name.toArray⟩ q)) → Calls Tryz.prog 62 #[.pointer (some ⟨r0, 0, none⟩), .slice (some ⟨fb, 0, none⟩) 1 1] w4 fun e w5 => ∃ q', e = .returned (.tuple #[.pointer q', .nilIface]) ∧
          (∃ ym, MRel d kid.y s.y ym ∧ Rep w5 kid.cb ym (fun k => Fc k ∨ Fs k ∨ (w'.heap.size ≤ k ∧ k < w5.heap.size))) ∧
          Keep (fun k => Fc k ∨ path.ownBlock = some k) w' w5 ∧ Shape9 w' w5 := by
  refine (fieldValue61 w' hs (.inr ⟨r0, b, C, rfl, hr, hm⟩) hks).mono ?_
  rintro e w1 ⟨g, cap, sm, dv, sv, rfl, hge, hB1, hs1, hst1, hfd, hfs⟩
  have hp1 := hp.shape (Shape9.of_below hB1)
  refine ⟨g, cap, sm, rfl, hp1, (hB1.block _ (lt_of_block hbox)).trans hbox, ?_⟩
  intro path' w2 happ
  have sf2 := hp1.soft
  have hs2 : SrcAt w2 g dv sv := happ.keep.src hs1 (src_ne_path hs1 hp1)
  have hrd2 := hp1.spares.rep happ.keep (hrd.under hB1)
  have hrs2 := hp1.spares.rep happ.keep (hrs.under hB1)
  have hm2 := hp1.spares.map happ.keep (hm.under hB1)
  have hFc2 : ∀ k, Fc k → TB w2 k := fun k hk => ((hFc k hk).under hB1).keep happ.keep (hp1.spares k ((hFc k hk).under hB1))
  have hFs2 : ∀ k, Fs k → TB w2 k := fun k hk => ((hFs k hk).under hB1).keep happ.keep (hp1.spares k ((hFs k hk).under hB1))
  obtain ⟨vs, rfl, hvs⟩ := hfs.2 s hfk
  obtain ⟨vr, rfl, hvr⟩ := hfd.2 kid hf
  refine (ih kid.y s.y hgd hgs hal w2 kid.cb s.cb Fc Fs hrd2 hrs2 hFc2 hFs2 hdis vr vs (sf2.rnb happ.keep hvr) (sf2.rnb happ.keep hvs) (.iface 66 (wkV V path mo sb c false)) path' mo g cap (n + 1) (m + 1) hs2 hV.nest (by omega) happ.ok (by omega)).mono ?_
  rintro e w3 ⟨q, rfl, r', b', ym, rfl, hr3, hM, hrep3, hsh3, halt⟩
  have sfp : Soft w2 fun k => k = g ∨ path'.ownBlock = some k := hs2.soft.or happ.ok.soft
  have spp : Spares w2 fun k => k = g ∨ path'.ownBlock = some k := hs2.spares.or happ.ok.spares
  have sf3 : Soft w2 fun k => Fc k ∨ k = g ∨ path'.ownBlock = some k := (tb_soft hFc2).or sfp
  have hk3 : Keep (fun k => Fc k ∨ k = g ∨ path'.ownBlock = some k) w2 w3 := by
    rcases halt with ⟨_, h⟩ | ⟨_, _, h⟩
    · exact h
    · exact h.mono fun k _ h => .inr h
  refine ⟨_, rfl, sf3.sty hk3 (sf2.sty happ.keep hst1), .inr ⟨r', _, _, rfl, hr3⟩, ?_⟩
  intro fb w4 hB4 hcell
  have hr4 : RNB w4 r0 b := (sf3.rnb hk3 (sf2.rnb happ.keep (hr.under hB1))).under hB4
  have hnp : ∀ k, TB w2 k → ¬ Fc k → ¬ (Fc k ∨ k = g ∨ path'.ownBlock = some k) := fun k ht hn h => h.elim hn (spp k ht)
  obtain ⟨Fr, hrow2⟩ := hm2.row
  have hm3 : MapAt w3 b C kids := hm2.keepx hk3 (hnp b hm2.node.tb hb) (fun k hk => hnp k (hrow2.bound.1 k hk).2 (hC k hk)) fun c' hc' => hnp _ (hm2.keys c' hc').tb (hkb c' hc')
  have hm4 := hm3.under hB4
  have k1 : Keep (fun k => Fc k ∨ path.ownBlock = some k) w' w2 := (Keep.of_below hB1 (fun k => Fc k ∨ path.ownBlock = some k)).trans happ.keep fun k _ hk => .inr hk
  have k2 : Keep (fun k => Fc k ∨ path.ownBlock = some k) w' w3 := k1.trans hk3 fun k hk hT => by
    rcases hT with hT | rfl | hT
    · exact .inl hT
    · omega
    · rcases happ.at_ with h | ⟨k', h, hk'⟩
      · rw [← h]; exact .inr hT
      · rw [h] at hT; injection hT with hT; subst hT
        have := hB1.size
        omega
  have k4 := k2.then hB4
  have hsz := k4.size
  have hsz1 : w'.heap.size ≤ w2.heap.size := k1.size
  have hsh4 := ((((Shape9.of_below hB1).trans happ.shape).trans hsh3).trans (Shape9.of_below hB4))
  have hrep4 := hrep3.under hB4
  obtain ⟨k, tag, val, A, l, c', hn1, hn2, hn3⟩ := mrel_node hM hgs hrep4
  rcases halt with ⟨rfl, _⟩ | ⟨rfl, rfl, hk3'⟩
  · have hset := set_found (kd := noStr) (c1 := noStr) (c2 := noStr) (c3 := noStr) w4 hr4 hm4 hne hf hn1 hn2 (hr3.under hB4) hn1 hn2 hn3
    refine (pipe1 (fun q' w5 => _) w4 hr4 hm4.node rfl hcell (meth187 _ _ _ _ _ _ _ _ _) enter187 (hset.mono ?_))
    rintro e w5 ⟨q', rfl, hn5, hk5⟩
    have hk5' := hk5.same (hn5.trans hn1.symm)
    refine ⟨q', rfl, ⟨ym, hM, ?_⟩, k4.trans hk5' fun k _ h => h.elim, hsh4.trans (Shape9.of_keep hk5' fun _ _ h => h.elim)⟩
    have hrep5 := ((Spares.none w4).rep hk5' hrep4).bound
    refine hrep5.mono fun k hk => ?_
    rcases hk with ⟨h | h | h, ht⟩
    · exact .inl h
    · exact .inr (.inl h)
    · exact .inr (.inr ⟨by omega, ht.lt⟩)
  · have hrd4 := (spp.rep hk3' hrd2).under hB4
    have hrs4 := (spp.rep hk3' hrs2).under hB4
    have hFs4 : ∀ k, Fs k → TB w4 k := fun k hk => ((hFs2 k hk).keep hk3' (spp k (hFs2 k hk))).under hB4
    obtain ⟨k0, tag0, val0, A0, l0, c0, hd1, hd2, hd3, _⟩ := hgd.node hrd4
    have hset := set_found (kd := noStr) (c1 := noStr) (c2 := noStr) (c3 := noStr) w4 hr4 hm4 hne hf hd1 hd2 (hr3.under hB4) hn1 hn2 hn3
    refine (pipe1 (fun q' w5 => _) w4 hr4 hm4.node rfl hcell (meth187 _ _ _ _ _ _ _ _ _) enter187 (hset.mono ?_))
    rintro e w5 ⟨q', rfl, hn5, hk5⟩
    have hrc := hrd.root
    refine ⟨q', rfl, ⟨_, hM, ?_⟩, k4.trans hk5 fun k _ h => .inl (by rw [h]; exact hrc), hsh4.trans (Shape9.of_keep hk5 ?_)⟩
    · have hcp := hrs4.copy (b := kid.cb) (hn5.trans hn1.symm) fun k hk hne => by
        have hkc : k ≠ kid.cb := by rintro rfl; exact hdis _ hrc hk
        exact ⟨hkc, hk5.block k (hFs4 k hk).lt hkc⟩
      refine hcp.mono fun k hk => ?_
      rcases hk with rfl | hk
      · exact .inl hrc
      · exact .inr (.inl hk.1)
    · rintro k cur rfl hc
      have := hd1
      rw [NodeB, hc] at this
      injection this with this
      injection this with _ this
      cases this
end Go.Proofs.YtghmajlfmoggfaaGreat
