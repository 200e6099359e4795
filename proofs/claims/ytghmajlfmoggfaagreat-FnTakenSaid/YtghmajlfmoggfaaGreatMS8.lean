import Derived.Test.YtghmajlfmoggfaaGreatMS7
import Derived.Test.YtghmajlfmoggfaaGreatMS5
import Derived.Test.YtghmajlfmoggfaaGreatME13
set_option linter.unusedSimpArgs false
set_option linter.unusedVariables false
namespace Go.Proofs.YtghmajlfmoggfaaGreat
open Go.RowKit Go.Proofs.YtghmajlfmoggfaaGreatW.PrintWords Go.Proofs.YtghmajlfmoggfaaGreatW.PrintLast PFnMerge
structure PM (d : Nat) (y x : S25) (j : Nat) (out : S25) : Prop where
  f0 : out.f0 = 2
  f1 : out.f1 = noStr
  f2 : out.f2 = noStr
  len : out.f3.length = out.f4.length
  nd : out.f3.Nodup
  keys : ∀ key, key ∈ out.f3 ↔ key ∈ y.f3 ∨ key ∈ x.f3.take j
  vals : ∀ key v, fld out key v → (∃ a b, fld y key a ∧ fld x key b ∧ MRel d a b v) ∨ (fld y key v ∧ key ∉ x.f3.take j) ∨ (fld x key v ∧ key ∉ y.f3)
  size : out.f3.length ≤ y.f3.length + j
  bnd : Bnd out
theorem fld_mk {x : S25} {i : Nat} {key : ByteArray} {v : S25} (h1 : x.f3[i]? = some key) (h2 : x.f4[i]? = some v) : fld x key v := by
  unfold fld
  exact List.mem_of_getElem? (i := i) (List.getElem?_zip_eq_some.2 ⟨h1, h2⟩)
theorem idx_lt {α : Type} {l : List α} {i : Nat} {a : α} (h : l[i]? = some a) : i < l.length := (List.getElem?_eq_some_iff.1 h).1
theorem PM.start {d : Nat} {y x : S25} (hy : y.f0 = 2 ∧ y.f1 = noStr ∧ y.f2 = noStr ∧ y.f3.length = y.f4.length ∧ y.f3.Nodup) (hb : Bnd y) : PM d y x 0 y :=
  ⟨hy.1, hy.2.1, hy.2.2.1, hy.2.2.2.1, hy.2.2.2.2, fun key => by simp, fun key v h => .inr (.inl ⟨h, by simp⟩), by omega, hb⟩
theorem PM.done {d : Nat} {y x out : S25} (hy : y.f0 = 2) (h : PM d y x x.f3.length out) : MRel (d + 1) y x out := by
  have hk := h.keys
  have hv := h.vals
  rw [List.take_of_length_le (Nat.le_refl _)] at hk hv
  exact .inr ⟨hy, h.f0, h.f1, h.f2, h.len, h.nd, hk, hv⟩
theorem mem_take_succ {l : List ByteArray} {j : Nat} {key k : ByteArray} (h : l[j]? = some key) : k ∈ l.take (j + 1) ↔ k ∈ l.take j ∨ k = key := by
  rw [take_succ h, List.mem_append, List.mem_singleton]
theorem PM.both {d : Nat} {y x out out' a b v : S25} {j : Nat} {key : ByteArray} (h : PM d y x j out) (hnd : x.f3.Nodup) (hk : x.f3[j]? = some key) (hb : x.f4[j]? = some b) (ha : fld y key a) (hm : MRel d a b v) (hv : Bnd v) (hw : WithP out key v out') : PM d y x (j + 1) out' := by
  have hkin : key ∈ out.f3 := (h.keys key).2 (.inl (by obtain ⟨i, h1, _⟩ := fld_at' ha; exact List.mem_of_getElem? h1))
  obtain ⟨w0, w1, w2, ⟨i, hi, hik, w3, w4⟩ | ⟨hn, _⟩⟩ := hw
  · refine ⟨w0, w1, w2, by rw [w3, w4, List.length_set]; exact h.len, by rw [w3]; exact h.nd, fun k => ?_, fun k u hf => ?_, by rw [w3]; have := h.size; omega, ?_⟩
    · rw [w3, h.keys k, mem_take_succ hk]
      constructor
      · rintro (h1 | h1)
        · exact .inl h1
        · exact .inr (.inl h1)
      · rintro (h1 | h1 | rfl)
        · exact .inl h1
        · exact .inr h1
        · exact (h.keys k).1 hkin
    · obtain ⟨i', h1, h2⟩ := fld_at' hf
      rw [w3] at h1
      rw [w4] at h2
      by_cases hii : i' = i
      · subst hii
        rw [List.getElem?_set_self hi] at h2
        injection h2 with h2
        subst h2
        rw [hik] at h1
        injection h1 with h1
        subst h1
        exact .inl ⟨a, b, ha, fld_mk hk hb, hm⟩
      · rw [List.getElem?_set_ne (fun e => hii e.symm)] at h2
        have hkk : k ≠ key := fun e => hii (by
          subst e
          exact (List.getElem?_inj (idx_lt h1) h.nd).1 (h1.trans hik.symm))
        rcases h.vals k u (fld_mk h1 h2) with h3 | ⟨h3, h4⟩ | h3
        · exact .inl h3
        · refine .inr (.inl ⟨h3, fun e => ?_⟩)
          rcases (mem_take_succ hk).1 e with e | e
          · exact h4 e
          · exact hkk e
        · exact .inr (.inr h3)
    · have hbo := h.bnd
      refine .mk _ (by rw [w1]; show (0 : Nat) ≤ _; omega) (by rw [w2]; show (0 : Nat) ≤ _; omega) (by rw [w3]; exact hbo.key) fun z hz => ?_
      rw [w4] at hz
      rcases List.mem_or_eq_of_mem_set hz with hz | rfl
      · exact hbo.item z hz
      · exact hv
  · exact absurd hkin hn
theorem PM.new {d : Nat} {y x out out' b : S25} {j : Nat} {key : ByteArray} (h : PM d y x j out) (hnd : x.f3.Nodup) (hk : x.f3[j]? = some key) (hb : x.f4[j]? = some b) (hy : key ∉ y.f3) (hx : Bnd x) (hw : WithP out key b out') : PM d y x (j + 1) out' := by
  have hnt : key ∉ x.f3.take j := fun e => by
    obtain ⟨i, hi⟩ := List.getElem?_of_mem e
    have hl := idx_lt hi
    rw [List.length_take] at hl
    rw [List.getElem?_take] at hi
    rw [if_pos (by omega)] at hi
    have := (List.getElem?_inj (idx_lt hi) hnd).1 (hi.trans hk.symm)
    omega
  have hkn : key ∉ out.f3 := fun e => ((h.keys key).1 e).elim hy hnt
  obtain ⟨w0, w1, w2, ⟨i, hi, hik, _⟩ | ⟨_, w3, w4⟩⟩ := hw
  · exact absurd (List.mem_of_getElem? hik) hkn
  · refine ⟨w0, w1, w2, by rw [w3, w4, List.length_append, List.length_append, h.len]; rfl, ?_, fun k => ?_, fun k u hf => ?_, by rw [w3, List.length_append]; have := h.size; simp only [List.length_singleton]; omega, ?_⟩
    · rw [w3]
      exact List.nodup_append.2 ⟨h.nd, by simp, fun a ha b hb => by rw [List.mem_singleton.1 hb]; rintro rfl; exact hkn ha⟩
    · rw [w3, List.mem_append, List.mem_singleton, h.keys k, mem_take_succ hk, or_assoc]
    · unfold fld at hf
      rw [w3, w4, List.zip_append h.len] at hf
      rcases List.mem_append.1 hf with hf | hf
      · have hfo : fld out k u := hf
        have hkk : k ≠ key := fun e => by
          obtain ⟨i, h1, _⟩ := fld_at' hfo
          exact hkn (e ▸ List.mem_of_getElem? h1)
        rcases h.vals k u hf with h3 | ⟨h3, h4⟩ | h3
        · exact .inl h3
        · refine .inr (.inl ⟨h3, fun e => ?_⟩)
          rcases (mem_take_succ hk).1 e with e | e
          · exact h4 e
          · exact hkk e
        · exact .inr (.inr h3)
      · simp only [List.zip_cons_cons, List.zip_nil_right, List.mem_singleton, Prod.mk.injEq] at hf
        obtain ⟨rfl, rfl⟩ := hf
        exact .inr (.inr ⟨fld_mk hk hb, hy⟩)
    · refine .mk _ (by rw [w1]; show (0 : Nat) ≤ _; omega) (by rw [w2]; show (0 : Nat) ≤ _; omega) (fun k hk' => ?_) fun z hz => ?_
      · rw [w3] at hk'
        rcases List.mem_append.1 hk' with hk' | hk'
        · exact h.bnd.key k hk'
        · rw [List.mem_singleton.1 hk']; exact hx.key key (List.mem_of_getElem? hk)
      · rw [w4] at hz
        rcases List.mem_append.1 hz with hz | hz
        · exact h.bnd.item z hz
        · rw [List.mem_singleton.1 hz]; exact hx.item b (List.mem_of_getElem? hb)
end Go.Proofs.YtghmajlfmoggfaaGreat
namespace Go.Proofs.YtghmajlfmoggfaaGreat
open Go.RowKit Go.Proofs.YtghmajlfmoggfaaGreatW.PrintWords Go.Proofs.YtghmajlfmoggfaaGreatW.PrintLast PFnMerge
def MergedQ (P : Nat → Prop) (d : Nat) (y x : S25) (w : World) (e : Ending) (w' : World) : Prop := ∃ m A3 c3 A4 c4, e = .returned (ndV m A3 c3 A4 c4) ∧ MRel d y x m ∧ Bnd m ∧ NdG w' (fun k => P k ∨ w.heap.size ≤ k) m A3 c3 A4 c4 ∧ Below w.heap.size w w'
def MergedC (d : Nat) : Prop := ∀ (P : Nat → Prop) (x y : S25), TreeB d x → TreeB d y → AlikeN d y x → Bnd x → Bnd y → ∀ (w : World) (A3 A4 B3 B4 : Option Addr) (c3 c4 d3 d4 : Nat), NdG w P x A3 c3 A4 c4 → NdG w P y B3 d3 B4 d4 → Calls Tryz.prog 12 #[ndV x A3 c3 A4 c4, ndV y B3 d3 B4 d4, .bool false] w fun e w' => MergedQ P d y x w e w'
theorem TreeP.not_null : ∀ {d : Nat} {x : S25}, TreeP d x → (x.f2.toList == [33, 33, 110, 117, 108, 108]) = false
  | 0, _, h => h.elim
  | d + 1, x, h => by
    rcases h with ⟨_, _, _, h⟩ | ⟨_, _, h, _⟩ | ⟨_, _, h, _⟩
    · exact h.tag_ne.1
    · rw [h, ByteArray.toList_eq]; rfl
    · rw [h, ByteArray.toList_eq]; rfl
structure MW (P : Nat → Prop) (d : Nat) (y x : S25) (w : World) (bx bY : Array Value) (j : Nat) (out : S25) (P3 : Option Addr) (q3 : Nat) (P4 : Option Addr) (q4 : Nat) (wr : World) : Prop where
  below : Below w.heap.size w wr
  boxx : wr.heap[w.heap.size]? = some (.cells bx 25 (0, 0))
  boxy : wr.heap[w.heap.size + 1]? = some (.cells bY 25 (0, 0))
  boxr : wr.heap[w.heap.size + 1 + 1]? = some (.cells #[.int .i64 0, .string noStr, .string noStr, nilS, nilS] 25 (0, 0))
  boxo : wr.heap[w.heap.size + 1 + 1 + 1]? = some (.cells #[.int .i64 out.f0, .string out.f1, .string out.f2, .slice P3 out.f3.length q3, .slice P4 out.f4.length q4] 25 (0, 0))
  nd : NdG wr (fun k => k ≠ w.heap.size + 1 + 1 ∧ k ≠ w.heap.size + 1 + 1 + 1 ∧ (P k ∧ k < w.heap.size ∨ w.heap.size ≤ k)) out P3 q3 P4 q4
  pm : PM d y x j out
section
variable {P : Nat → Prop} {d : Nat} {y x : S25} {w : World} {bx bY : Array Value} {j : Nat} {out : S25} {P3 P4 : Option Addr} {q3 q4 : Nat} {wr wr' : World}
theorem MW.under (h : MW P d y x w bx bY j out P3 q3 P4 q4 wr) (hb : Below wr.heap.size wr wr') : MW P d y x w bx bY j out P3 q3 P4 q4 wr' :=
  ⟨h.below.trans (hb.mono h.below.size), (hb.block _ (lt_of_block h.boxx)).trans h.boxx, (hb.block _ (lt_of_block h.boxy)).trans h.boxy, (hb.block _ (lt_of_block h.boxr)).trans h.boxr, (hb.block _ (lt_of_block h.boxo)).trans h.boxo, h.nd.below hb, h.pm⟩
theorem MW.put (h' : MW P d y x w bx bY j out P3 q3 P4 q4 wr') {out' : S25} {R3 R4 : Option Addr} {s3 s4 b : Nat} (hb : b = w.heap.size + 1 + 1 + 1) (hpm : PM d y x (j + 1) out') (hnd : NdG wr' (fun k => k ≠ w.heap.size + 1 + 1 ∧ k ≠ w.heap.size + 1 + 1 + 1 ∧ (P k ∧ k < w.heap.size ∨ w.heap.size ≤ k)) out' R3 s3 R4 s4) : MW P d y x w bx bY (j + 1) out' R3 s3 R4 s4 (((((wr'.setCell ⟨b, 0, none⟩ (.int .i64 out'.f0)).setCell ⟨b, 1, none⟩ (.string out'.f1)).setCell ⟨b, 2, none⟩ (.string out'.f2)).setCell ⟨b, 3, none⟩ (.slice R3 out'.f3.length s3)).setCell ⟨b, 4, none⟩ (.slice R4 out'.f4.length s4)) := by
  subst hb
  have hk := keep_put5 wr' (w.heap.size + 1 + 1 + 1) (.int .i64 out'.f0) (.string out'.f1) (.string out'.f2) (.slice R3 out'.f3.length s3) (.slice R4 out'.f4.length s4)
  exact ⟨h'.below.trans (hk.below h'.below.size fun k _ e => by omega), hk.at_ h'.boxx (by omega), hk.at_ h'.boxy (by omega), hk.at_ h'.boxr (by omega), put5_blk h'.boxo _ _ _ _ _, hnd.keep hk fun k hp e => hp.2.1 e, hpm⟩
theorem MW.fin (h : MW P d y x w bx bY j out P3 q3 P4 q4 wr) {b : Nat} (hb : b = w.heap.size + 1 + 1) :
    (((((wr.setCell ⟨b, 0, none⟩ (.int .i64 out.f0)).setCell ⟨b, 1, none⟩ (.string out.f1)).setCell ⟨b, 2, none⟩ (.string out.f2)).setCell ⟨b, 3, none⟩ (.slice P3 out.f3.length q3)).setCell ⟨b, 4, none⟩ (.slice P4 out.f4.length q4)).heap[b]? = some (.cells #[.int .i64 out.f0, .string out.f1, .string out.f2, .slice P3 out.f3.length q3, .slice P4 out.f4.length q4] 25 (0, 0)) ∧ NdG (((((wr.setCell ⟨b, 0, none⟩ (.int .i64 out.f0)).setCell ⟨b, 1, none⟩ (.string out.f1)).setCell ⟨b, 2, none⟩ (.string out.f2)).setCell ⟨b, 3, none⟩ (.slice P3 out.f3.length q3)).setCell ⟨b, 4, none⟩ (.slice P4 out.f4.length q4)) (fun k => P k ∨ w.heap.size ≤ k) out P3 q3 P4 q4 ∧ Below w.heap.size w (((((wr.setCell ⟨b, 0, none⟩ (.int .i64 out.f0)).setCell ⟨b, 1, none⟩ (.string out.f1)).setCell ⟨b, 2, none⟩ (.string out.f2)).setCell ⟨b, 3, none⟩ (.slice P3 out.f3.length q3)).setCell ⟨b, 4, none⟩ (.slice P4 out.f4.length q4)) := by
  subst hb
  have hk := keep_put5 wr (w.heap.size + 1 + 1) (.int .i64 out.f0) (.string out.f1) (.string out.f2) (.slice P3 out.f3.length q3) (.slice P4 out.f4.length q4)
  exact ⟨put5_blk h.boxr _ _ _ _ _, (h.nd.keep hk fun k hp e => hp.1 e).mono fun k hp => hp.2.2.imp (fun e => e.1) id, h.below.trans (hk.below h.below.size fun k _ e => by omega)⟩
end
set_option maxRecDepth 20000 in
set_option maxHeartbeats 8000000 in
theorem merged12 : ∀ d, MergedC d := by
  intro d
  induction d with
  | zero => intro P x y hx; exact hx.1.elim
  | succ d ih =>
    intro P x y hx hy hal hbx hby w A3 A4 B3 B4 c3 c4 d3 d4 ha hb
    obtain ⟨f0, f1, f2, f3, f4⟩ := x
    obtain ⟨g0, g1, g2, g3, g4⟩ := y
    have hk0 : g0 = f0 := hal.1
    subst hk0
    obtain ⟨L3, hL3⟩ : ∃ L3, L3 = f3.length := ⟨_, rfl⟩
    obtain ⟨L4, hL4⟩ : ∃ L4, L4 = f4.length := ⟨_, rfl⟩
    obtain ⟨M3, hM3⟩ : ∃ M3, M3 = g3.length := ⟨_, rfl⟩
    obtain ⟨M4, hM4⟩ : ∃ M4, M4 = g4.length := ⟨_, rfl⟩
    have hargs : ndV ⟨g0, f1, f2, f3, f4⟩ A3 c3 A4 c4 = .agg #[.int .i64 g0, .string f1, .string f2, .slice A3 L3 c3, .slice A4 L4 c4] := by rw [hL3, hL4]
    have hargs2 : ndV ⟨g0, g1, g2, g3, g4⟩ B3 d3 B4 d4 = .agg #[.int .i64 g0, .string g1, .string g2, .slice B3 M3 d3, .slice B4 M4 d4] := by rw [hM3, hM4]
    rw [hargs, hargs2]
    clear hargs hargs2
    have HX := Lib.hid (And.intro hx (And.intro hy (And.intro hal (And.intro hbx (And.intro hby (And.intro ha hb))))))
    have HL := Lib.hid (And.intro hL3 (And.intro hL4 (And.intro hM3 hM4)))
    have HI := Lib.hid ih
    by_cases hk : g0 = 2
    · subst hk
      have hn3 : (L3 : Int) ≤ 1000000 := by have h1 := hx.len; have h2 := hx.1.nd.2 rfl; simp only at h1 h2; omega
      have hx2 : f1 = noStr ∧ f2 = noStr ∧ f3.length = f4.length ∧ f3.Nodup := by
        rcases hx.1 with ⟨h, _⟩ | ⟨_, h1, h2, h3, h4, _⟩ | ⟨h, _⟩
        · simp at h
        · exact ⟨h1, h2, h3, h4⟩
        · simp at h
      have hy2 : g1 = noStr ∧ g2 = noStr ∧ g3.length = g4.length ∧ g3.Nodup := by
        rcases hy.1 with ⟨h, _⟩ | ⟨_, h1, h2, h3, h4, _⟩ | ⟨h, _⟩
        · simp at h
        · exact ⟨h1, h2, h3, h4⟩
        · simp at h
      have H2 := Lib.hid (And.intro hx2 hy2)
      have hmw : MW P d ⟨2, g1, g2, g3, g4⟩ ⟨2, f1, f2, f3, f4⟩ w #[.int .i64 2, .string f1, .string f2, .slice A3 L3 c3, .slice A4 L4 c4] #[.int .i64 2, .string g1, .string g2, .slice B3 M3 d3, .slice B4 M4 d4] 0 ⟨2, g1, g2, g3, g4⟩ B3 d3 B4 d4 ((((w.alloc (.cells #[.int .i64 2, .string f1, .string f2, .slice A3 L3 c3, .slice A4 L4 c4] 25)).alloc (.cells #[.int .i64 2, .string g1, .string g2, .slice B3 M3 d3, .slice B4 M4 d4] 25)).alloc (.cells #[.int .i64 0, .string { data := #[] }, .string { data := #[] }, .slice none 0 0, .slice none 0 0] 25)).alloc (.cells #[.int .i64 2, .string g1, .string g2, .slice B3 M3 d3, .slice B4 M4 d4] 25)) :=
        ⟨below_alloc (below_alloc (below_alloc (below_alloc (Below.refl _ _) _) _) _) _, blk_old _ (blk_old _ (blk_old _ (blk_new rfl _))), blk_old _ (blk_old _ (blk_new (by simp) _)), blk_old _ (blk_new (by simp) _), (blk_new (by simp) _).trans (by rw [hM3, hM4]), (hb.bound.below (below_alloc (below_alloc (below_alloc (below_alloc (Below.refl _ _) _) _) _) _)).mono fun k hp => ⟨by have := hp.2; omega, by have := hp.2; omega, .inl hp⟩,
          PM.start ⟨rfl, hy2⟩ hby⟩
      have HMW := Lib.hid hmw
      clear hx hy hal hbx hby ha hb ih hL3 hL4 hM3 hM4 hx2 hy2 hmw
      go_enter Tryz.func12, Tryz.ntmps12
      go_wp2_with fail
      go_loopg [30] L3 (fun k i wr => ∃ j : Nat, j + k = L3 ∧ i = .int .i64 (j : Int) ∧ Hid (∃ out P3 q3 P4 q4, MW P d ⟨2, g1, g2, g3, g4⟩ ⟨2, f1, f2, f3, f4⟩ w #[.int .i64 2, .string f1, .string f2, .slice A3 L3 c3, .slice A4 L4 c4] #[.int .i64 2, .string g1, .string g2, .slice B3 M3 d3, .slice B4 M4 d4] j out P3 q3 P4 q4 wr))
      case atStart => exact ⟨0, by omega, rfl, Lib.hid ⟨_, _, _, _, _, HMW.out⟩⟩
      case round =>
        obtain ⟨j, hj, rfl, hI⟩ := hrel
        obtain ⟨out, P3, q3, P4, q4, hmw⟩ := hI.out
        have HM := Lib.hid hmw
        by_cases hlt : 1 ≤ gk
        · have hj2 : (j : Int) < (L3 : Int) := by omega
          have hj3 : j < L3 := by omega
          have hjl : j < f3.length := by have := HL.out.1; omega
          obtain ⟨key, hkey⟩ : ∃ key, f3[j]? = some key := ⟨_, List.getElem?_eq_getElem hjl⟩
          have hl34 : f3.length = f4.length := H2.out.1.2.2.1
          obtain ⟨a, haj⟩ : ∃ a, f4[j]? = some a := ⟨_, List.getElem?_eq_getElem (by omega)⟩
          have hj4 : (j : Int) < (L4 : Int) := by have := HL.out.2.1; omega
          have hj4' : j < L4 := by omega
          obtain ⟨ad3, rfl, x3⟩ := str_at (HX.out.2.2.2.2.2.1.now.keys) j key hjl hkey
          have x3' := (hmw.below.cell (World.block_lt_of_cell? w _ x3)).trans x3
          have b0 : wr.cell? ⟨w.heap.size + 1, 0, none⟩ = some (.int .i64 2) := (blk_cell hmw.boxy 0).trans rfl
          have b1 : wr.cell? ⟨w.heap.size + 1, 1, none⟩ = some (.string g1) := (blk_cell hmw.boxy 1).trans rfl
          have b2 : wr.cell? ⟨w.heap.size + 1, 2, none⟩ = some (.string g2) := (blk_cell hmw.boxy 2).trans rfl
          have b3 : wr.cell? ⟨w.heap.size + 1, 3, none⟩ = some (.slice B3 M3 d3) := (blk_cell hmw.boxy 3).trans rfl
          have b4 : wr.cell? ⟨w.heap.size + 1, 4, none⟩ = some (.slice B4 M4 d4) := (blk_cell hmw.boxy 4).trans rfl
          have HK := Lib.hid (And.intro hkey (And.intro haj (List.mem_of_getElem? haj)))
          clear hjl hkey hl34 haj x3 hmw hI
          go_wp2_with fail
          have hcall := fieldG20 wr (fun k => k ≠ w.heap.size + 1 + 1 ∧ k ≠ w.heap.size + 1 + 1 + 1 ∧ (P k ∧ k < w.heap.size ∨ w.heap.size ≤ k)) ⟨2, g1, g2, g3, g4⟩ key B3 B4 d3 d4 ((HX.out.2.2.2.2.2.2.bound.below HM.out.below).mono fun k hp => ⟨by have := hp.2; omega, by have := hp.2; omega, .inl hp⟩) (fun _ => Nat.le_of_eq H2.out.2.2.2.1)
          simp only [ndV, ← HL.out.2.2.1, ← HL.out.2.2.2] at hcall
          refine hcall.mono ?_
          clear hcall
          rintro e w' ⟨hb, ⟨v, E3, e3, E4, e4, rfl, h0, h1⟩ | ⟨rfl, h0⟩⟩
          · have HA1 := Lib.hid (HM.out.under hb)
            have HV := Lib.hid (And.intro h0 h1)
            clear h0 h1 hb b0 b1 b2 b3 b4
            obtain ⟨W, hW⟩ : ∃ W, W = w'.alloc (.cells #[.int .i64 v.f0, .string v.f1, .string v.f2, .slice E3 v.f3.length e3, .slice E4 v.f4.length e4] 25) := ⟨_, rfl⟩
            have HA2 := Lib.hid (show MW P d ⟨2, g1, g2, g3, g4⟩ ⟨2, f1, f2, f3, f4⟩ w #[.int .i64 2, .string f1, .string f2, .slice (some ad3) L3 c3, .slice A4 L4 c4] #[.int .i64 2, .string g1, .string g2, .slice B3 M3 d3, .slice B4 M4 d4] j out P3 q3 P4 q4 W from hW ▸ HA1.out.under (below_alloc (Below.refl _ _) _))
            have HVW := Lib.hid (show NdG W (fun k => k ≠ w.heap.size + 1 + 1 ∧ k ≠ w.heap.size + 1 + 1 + 1 ∧ (P k ∧ k < w.heap.size ∨ w.heap.size ≤ k)) v E3 e3 E4 e4 from hW ▸ HV.out.2.below (below_alloc (Below.refl _ _) _))
            have HBX := Lib.hid (show W.heap[w'.heap.size]? = some (.cells #[.int .i64 v.f0, .string v.f1, .string v.f2, .slice E3 v.f3.length e3, .slice E4 v.f4.length e4] 25 (0, 0)) from hW ▸ blk_new rfl _)
            obtain ⟨ad4, C3, cc3, C4, cc4, e4_, y0, y1, y2, y3, y4, hnd⟩ := ((HX.out.2.2.2.2.2.1.bound.below HA2.out.below).mono (Q := (fun k => k ≠ w.heap.size + 1 + 1 ∧ k ≠ w.heap.size + 1 + 1 + 1 ∧ (P k ∧ k < w.heap.size ∨ w.heap.size ≤ k))) fun k hp => ⟨by have := hp.2; omega, by have := hp.2; omega, .inl hp⟩).item j a HK.out.2.1
            subst e4_
            have HND := Lib.hid hnd
            have htag := (HX.out.1.item a HK.out.2.2).1.not_null
            have x4 : W.cell? ⟨w.heap.size, 4, none⟩ = some (.slice (some ad4) L4 c4) := (blk_cell HA2.out.boxx 4).trans rfl
            have HY5 := Lib.hid (And.intro x4 (And.intro y0 (And.intro y1 (And.intro y2 (And.intro y3 y4)))))
            have x4w := x4
            have y2w := y2
            rw [hW] at x4w y2w
            have HWS := Lib.hid hW
            clear hnd hW x4 y0 y1 y2 y3 y4
            go_wp2_with fail
            rw [← HWS.out]
            clear x4w y2w htag x3'
            have x4 := HY5.out.1
            have y0 := HY5.out.2.1
            have y1 := HY5.out.2.2.1
            have y2 := HY5.out.2.2.2.1
            have y3 := HY5.out.2.2.2.2.1
            have y4 := HY5.out.2.2.2.2.2
            obtain ⟨vb, hvb⟩ : ∃ vb, vb = w'.heap.size := ⟨_, rfl⟩
            rw [← hvb] at HBX
            rw [← hvb]
            clear hvb
            have v0 : W.cell? ⟨vb, 0, none⟩ = some (.int .i64 v.f0) := (blk_cell HBX.out 0).trans rfl
            have v1 : W.cell? ⟨vb, 1, none⟩ = some (.string v.f1) := (blk_cell HBX.out 1).trans rfl
            have v2 : W.cell? ⟨vb, 2, none⟩ = some (.string v.f2) := (blk_cell HBX.out 2).trans rfl
            have v3 : W.cell? ⟨vb, 3, none⟩ = some (.slice E3 v.f3.length e3) := (blk_cell HBX.out 3).trans rfl
            have v4 : W.cell? ⟨vb, 4, none⟩ = some (.slice E4 v.f4.length e4) := (blk_cell HBX.out 4).trans rfl
            have o0 : W.cell? ⟨w.heap.size + 1 + 1 + 1, 0, none⟩ = some (.int .i64 out.f0) := (blk_cell HA2.out.boxo 0).trans rfl
            have o1 : W.cell? ⟨w.heap.size + 1 + 1 + 1, 1, none⟩ = some (.string out.f1) := (blk_cell HA2.out.boxo 1).trans rfl
            have o2 : W.cell? ⟨w.heap.size + 1 + 1 + 1, 2, none⟩ = some (.string out.f2) := (blk_cell HA2.out.boxo 2).trans rfl
            have o3 : W.cell? ⟨w.heap.size + 1 + 1 + 1, 3, none⟩ = some (.slice P3 out.f3.length q3) := (blk_cell HA2.out.boxo 3).trans rfl
            have o4 : W.cell? ⟨w.heap.size + 1 + 1 + 1, 4, none⟩ = some (.slice P4 out.f4.length q4) := (blk_cell HA2.out.boxo 4).trans rfl
            refine start_ (n := 12) (S := fun w' => w'.cell? ⟨w.heap.size + 1 + 1 + 1, 0, none⟩ = some (.int .i64 out.f0) ∧ w'.cell? ⟨w.heap.size + 1 + 1 + 1, 1, none⟩ = some (.string out.f1) ∧ w'.cell? ⟨w.heap.size + 1 + 1 + 1, 2, none⟩ = some (.string out.f2) ∧ w'.cell? ⟨w.heap.size + 1 + 1 + 1, 3, none⟩ = some (.slice P3 out.f3.length q3) ∧ w'.cell? ⟨w.heap.size + 1 + 1 + 1, 4, none⟩ = some (.slice P4 out.f4.length q4) ∧ w'.cell? ⟨w.heap.size, 4, none⟩ = some (.slice (some ad4) L4 c4) ∧ w'.cell? (ad4.add (j * 5)) = some (.int .i64 a.f0) ∧ w'.cell? ⟨(ad4.add (j * 5)).block, (ad4.add (j * 5)).off + 1, none⟩ = some (.string a.f1) ∧ w'.cell? ⟨(ad4.add (j * 5)).block, (ad4.add (j * 5)).off + 2, none⟩ = some (.string a.f2) ∧ w'.cell? ⟨(ad4.add (j * 5)).block, (ad4.add (j * 5)).off + 3, none⟩ = some (.slice C3 a.f3.length cc3) ∧ w'.cell? ⟨(ad4.add (j * 5)).block, (ad4.add (j * 5)).off + 4, none⟩ = some (.slice C4 a.f4.length cc4) ∧ w'.cell? ⟨vb, 0, none⟩ = some (.int .i64 v.f0) ∧ w'.cell? ⟨vb, 1, none⟩ = some (.string v.f1) ∧ w'.cell? ⟨vb, 2, none⟩ = some (.string v.f2) ∧ w'.cell? ⟨vb, 3, none⟩ = some (.slice E3 v.f3.length e3) ∧ w'.cell? ⟨vb, 4, none⟩ = some (.slice E4 v.f4.length e4)) (ds := [11]) #[false, false, false, false, false, false, false, false, false, false, false, false] (by kernel_rfl) rfl rfl ⟨o0, o1, o2, o3, o4, x4, y0, y1, y2, y3, y4, v0, v1, v2, v3, v4⟩ (fun hHeld => ?_)
            refine pure_ (i := 1) (N := some 63) (v := ?_) (a' := ?_) (bl 12 2) rfl rfl (by kernel_rfl) (fun _ _ _ h => h) (Or.inl ⟨by rfl, ?_⟩) ?_ ?_; rotate_left; (· (intro w'; go_simp; with_reducible rfl)); rotate_left; (· (simp only [np]; rfl))
            refine pure_ (i := 2) (N := some 64) (v := ?_) (a' := ?_) (bl 12 6) rfl rfl (by kernel_rfl) (fun _ _ _ h => h) (Or.inl ⟨by rfl, ?_⟩) ?_ ?_; rotate_left; (· (intro w'; go_simp; with_reducible rfl)); rotate_left; (· (simp only [np]; rfl))
            refine pure_ (i := 4) (N := some 66) (v := ?_) (a' := ?_) (bl 12 22) rfl rfl (by kernel_rfl) (fun _ _ _ h => h) (Or.inl ⟨by rfl, ?_⟩) ?_ ?_; rotate_left; (· (intro w'; go_simp; with_reducible rfl)); rotate_left; (· (simp only [np]; rfl))
            refine pure_ (i := 8) (N := some 70) (v := ?_) (a' := ?_) (bl 12 278) rfl rfl (by kernel_rfl) (fun _ _ _ h => h) (Or.inl ⟨by rfl, ?_⟩) ?_ ?_; rotate_left; (· (intro w'; go_simp; with_reducible rfl)); rotate_left; (· (simp only [np]; rfl))
            refine take_ (i := 0) (N := some 62) (v := ?_) (a' := ?_) (bl 12 279) rfl rfl (by kernel_rfl) (fun _ _ _ h => h) (Or.inl ⟨by rfl, ?_⟩) hHeld ?_ ?_; rotate_left; (· (rintro w' ⟨s0, s1, s2, s3, s4, s5, s6, s7, s8, s9, s10, s11, s12, s13, s14, s15⟩; go_simp; with_reducible rfl)); rotate_left; (· (simp only [np]; rfl))
            refine take_ (i := 3) (N := some 65) (v := ?_) (a' := ?_) (bl 12 287) rfl rfl (by kernel_rfl) (fun _ _ _ h => h) (Or.inl ⟨by rfl, ?_⟩) hHeld ?_ ?_; rotate_left; (· (rintro w' ⟨s0, s1, s2, s3, s4, s5, s6, s7, s8, s9, s10, s11, s12, s13, s14, s15⟩; go_simp; with_reducible rfl)); rotate_left; (· (simp only [np]; rfl))
            refine pure_ (i := 5) (N := some 67) (v := ?_) (a' := ?_) (bl 12 319) rfl rfl (by kernel_rfl) (fun _ _ _ h => h) (Or.inl ⟨by rfl, ?_⟩) ?_ ?_; rotate_left; (· (intro w'; go_simp; with_reducible rfl)); rotate_left; (· (simp only [np]; rfl))
            refine take_ (i := 6) (N := some 68) (v := ?_) (a' := ?_) (bl 12 383) rfl rfl (by kernel_rfl) (fun _ _ _ h => h) (Or.inl ⟨by rfl, ?_⟩) hHeld ?_ ?_; rotate_left; (· (rintro w' ⟨s0, s1, s2, s3, s4, s5, s6, s7, s8, s9, s10, s11, s12, s13, s14, s15⟩; go_simp; with_reducible rfl)); rotate_left; (· (simp only [np]; rfl))
            refine take_ (i := 7) (N := some 69) (v := ?_) (a' := ?_) (bl 12 511) rfl rfl (by kernel_rfl) (fun _ _ _ h => h) (Or.inl ⟨by rfl, ?_⟩) hHeld ?_ ?_; rotate_left; (· (rintro w' ⟨s0, s1, s2, s3, s4, s5, s6, s7, s8, s9, s10, s11, s12, s13, s14, s15⟩; go_simp; with_reducible rfl)); rotate_left; (· (simp only [np]; rfl))
            refine one_ (i := 9) (N := some 71) (bl 12 1023) rfl rfl (by kernel_rfl) (by decide) (fun K hK => ?_)
            refine goes_ Tryz.func12 (by kernel_rfl) rfl #[ndV a C3 cc3 C4 cc4, ndV v E3 e3 E4 e4, .bool false] (by rfl) rfl rfl (by simp only [List.map_toArray, List.map_cons, List.map_nil]; rfl) ?_
            refine (HI.out (fun k => k ≠ w.heap.size + 1 + 1 ∧ k ≠ w.heap.size + 1 + 1 + 1 ∧ (P k ∧ k < w.heap.size ∨ w.heap.size ≤ k)) a v (HX.out.1.item a HK.out.2.2) (HX.out.2.1.item v (by obtain ⟨_, i, _, h⟩ := HV.out.1; exact List.mem_of_getElem? h)) (HX.out.2.2.1.2 rfl key v a (by obtain ⟨_, i, h1, h2⟩ := HV.out.1; exact fld_mk h1 h2) (fld_mk HK.out.1 HK.out.2.1)) (HX.out.2.2.2.1.item a HK.out.2.2) (HX.out.2.2.2.2.1.item v (by obtain ⟨_, i, _, h⟩ := HV.out.1; exact List.mem_of_getElem? h)) W.drew C3 C4 E3 E4 cc3 cc4 e3 e4 (HND.out.below (below_drew (Below.refl _ _))) (HVW.out.below (below_drew (Below.refl _ _)))).mono ?_
            rintro e w9 ⟨m, R3, s3, R4, s4, rfl, hmr, hbm, hng, hbc⟩
            have HB9 := Lib.hid hbc
            have HMR := Lib.hid (And.intro hmr (And.intro hbm (hng.mono (Q := (fun k => k ≠ w.heap.size + 1 + 1 ∧ k ≠ w.heap.size + 1 + 1 + 1 ∧ (P k ∧ k < w.heap.size ∨ w.heap.size ≤ k))) (fun k hp => hp.elim id fun e => ⟨by have := lt_of_block HA2.out.boxo; have := (show W.heap.size ≤ W.drew.heap.size by simp); omega, by have := lt_of_block HA2.out.boxo; have := (show W.heap.size ≤ W.drew.heap.size by simp); omega, .inr (by have := lt_of_block HA2.out.boxo; have := (show W.heap.size ≤ W.drew.heap.size by simp); omega)⟩))))
            have HA9 := Lib.hid ((HA2.out.under (below_drew (Below.refl _ _))).under hbc)
            clear hmr hbm hng hbc
            refine ⟨_, rfl, ?_⟩
            refine hK.out _ _ ⟨(HB9.out.cell (World.block_lt_of_cell? _ _ hHeld.1)).trans hHeld.1, (HB9.out.cell (World.block_lt_of_cell? _ _ hHeld.2.1)).trans hHeld.2.1, (HB9.out.cell (World.block_lt_of_cell? _ _ hHeld.2.2.1)).trans hHeld.2.2.1, (HB9.out.cell (World.block_lt_of_cell? _ _ hHeld.2.2.2.1)).trans hHeld.2.2.2.1, (HB9.out.cell (World.block_lt_of_cell? _ _ hHeld.2.2.2.2.1)).trans hHeld.2.2.2.2.1, (HB9.out.cell (World.block_lt_of_cell? _ _ hHeld.2.2.2.2.2.1)).trans hHeld.2.2.2.2.2.1, (HB9.out.cell (World.block_lt_of_cell? _ _ hHeld.2.2.2.2.2.2.1)).trans hHeld.2.2.2.2.2.2.1, (HB9.out.cell (World.block_lt_of_cell? _ _ hHeld.2.2.2.2.2.2.2.1)).trans hHeld.2.2.2.2.2.2.2.1, (HB9.out.cell (World.block_lt_of_cell? _ _ hHeld.2.2.2.2.2.2.2.2.1)).trans hHeld.2.2.2.2.2.2.2.2.1, (HB9.out.cell (World.block_lt_of_cell? _ _ hHeld.2.2.2.2.2.2.2.2.2.1)).trans hHeld.2.2.2.2.2.2.2.2.2.1, (HB9.out.cell (World.block_lt_of_cell? _ _ hHeld.2.2.2.2.2.2.2.2.2.2.1)).trans hHeld.2.2.2.2.2.2.2.2.2.2.1, (HB9.out.cell (World.block_lt_of_cell? _ _ hHeld.2.2.2.2.2.2.2.2.2.2.2.1)).trans hHeld.2.2.2.2.2.2.2.2.2.2.2.1, (HB9.out.cell (World.block_lt_of_cell? _ _ hHeld.2.2.2.2.2.2.2.2.2.2.2.2.1)).trans hHeld.2.2.2.2.2.2.2.2.2.2.2.2.1, (HB9.out.cell (World.block_lt_of_cell? _ _ hHeld.2.2.2.2.2.2.2.2.2.2.2.2.2.1)).trans hHeld.2.2.2.2.2.2.2.2.2.2.2.2.2.1, (HB9.out.cell (World.block_lt_of_cell? _ _ hHeld.2.2.2.2.2.2.2.2.2.2.2.2.2.2.1)).trans hHeld.2.2.2.2.2.2.2.2.2.2.2.2.2.2.1, (HB9.out.cell (World.block_lt_of_cell? _ _ hHeld.2.2.2.2.2.2.2.2.2.2.2.2.2.2.2)).trans hHeld.2.2.2.2.2.2.2.2.2.2.2.2.2.2.2⟩ (fun hHeld => ?_)
            clear hK K
            refine norm_ (a' := ?_) ?_ ?_; rotate_left; (· (show Act.put _ (some 71) _ = _; simp only [np]; rfl))
            refine one_ (i := 10) (N := some 72) (bl 12 2047) rfl rfl (by kernel_rfl) (by decide) (fun K hK => ?_)
            refine goes_ Tryz.func17 (by kernel_rfl) rfl #[ndV out P3 q3 P4 q4, .string key, ndV m R3 s3 R4 s4] (by rfl) rfl rfl (by simp only [List.map_toArray, List.map_cons, List.map_nil]; rfl) ?_
            refine (with17 w9 (fun k => k ≠ w.heap.size + 1 + 1 ∧ k ≠ w.heap.size + 1 + 1 + 1 ∧ (P k ∧ k < w.heap.size ∨ w.heap.size ≤ k)) out m key P3 P4 R3 R4 q3 q4 s3 s4 HA9.out.nd HMR.out.2.2 HA9.out.pm.len (by have h1 := HA9.out.pm.len; have h2 := HA9.out.pm.size; have h3 := HX.out.2.1.len; have h4 := H2.out.2.2.2.1; have h5 := HX.out.1.len; have h6 := H2.out.1.2.2.1; have h7 := HL.out.1; simp only at h2 h3 h5; omega)).mono ?_
            rintro e wf ⟨out', U3, u3, U4, u4, rfl, hwp, hng, hbc⟩
            have HBF := Lib.hid hbc
            have HAF := Lib.hid (HA9.out.under hbc)
            have HNG := Lib.hid (hng.mono (Q := (fun k => k ≠ w.heap.size + 1 + 1 ∧ k ≠ w.heap.size + 1 + 1 + 1 ∧ (P k ∧ k < w.heap.size ∨ w.heap.size ≤ k))) (fun k hp => hp.elim id fun e => ⟨by have := lt_of_block HA9.out.boxo; have := HA9.out.below.size; omega, by have := lt_of_block HA9.out.boxo; have := HA9.out.below.size; omega, .inr (by have := lt_of_block HA9.out.boxo; have := HA9.out.below.size; omega)⟩))
            have HPM := Lib.hid (HA9.out.pm.both H2.out.1.2.2.2 HK.out.1 HK.out.2.1 (by obtain ⟨_, i, h1, h2⟩ := HV.out.1; exact fld_mk h1 h2) HMR.out.1 HMR.out.2.1 hwp)
            clear hwp hng hbc
            refine ⟨_, rfl, ?_⟩
            refine hK.out _ _ ⟨(HBF.out.cell (World.block_lt_of_cell? _ _ hHeld.1)).trans hHeld.1, (HBF.out.cell (World.block_lt_of_cell? _ _ hHeld.2.1)).trans hHeld.2.1, (HBF.out.cell (World.block_lt_of_cell? _ _ hHeld.2.2.1)).trans hHeld.2.2.1, (HBF.out.cell (World.block_lt_of_cell? _ _ hHeld.2.2.2.1)).trans hHeld.2.2.2.1, (HBF.out.cell (World.block_lt_of_cell? _ _ hHeld.2.2.2.2.1)).trans hHeld.2.2.2.2.1, (HBF.out.cell (World.block_lt_of_cell? _ _ hHeld.2.2.2.2.2.1)).trans hHeld.2.2.2.2.2.1, (HBF.out.cell (World.block_lt_of_cell? _ _ hHeld.2.2.2.2.2.2.1)).trans hHeld.2.2.2.2.2.2.1, (HBF.out.cell (World.block_lt_of_cell? _ _ hHeld.2.2.2.2.2.2.2.1)).trans hHeld.2.2.2.2.2.2.2.1, (HBF.out.cell (World.block_lt_of_cell? _ _ hHeld.2.2.2.2.2.2.2.2.1)).trans hHeld.2.2.2.2.2.2.2.2.1, (HBF.out.cell (World.block_lt_of_cell? _ _ hHeld.2.2.2.2.2.2.2.2.2.1)).trans hHeld.2.2.2.2.2.2.2.2.2.1, (HBF.out.cell (World.block_lt_of_cell? _ _ hHeld.2.2.2.2.2.2.2.2.2.2.1)).trans hHeld.2.2.2.2.2.2.2.2.2.2.1, (HBF.out.cell (World.block_lt_of_cell? _ _ hHeld.2.2.2.2.2.2.2.2.2.2.2.1)).trans hHeld.2.2.2.2.2.2.2.2.2.2.2.1, (HBF.out.cell (World.block_lt_of_cell? _ _ hHeld.2.2.2.2.2.2.2.2.2.2.2.2.1)).trans hHeld.2.2.2.2.2.2.2.2.2.2.2.2.1, (HBF.out.cell (World.block_lt_of_cell? _ _ hHeld.2.2.2.2.2.2.2.2.2.2.2.2.2.1)).trans hHeld.2.2.2.2.2.2.2.2.2.2.2.2.2.1, (HBF.out.cell (World.block_lt_of_cell? _ _ hHeld.2.2.2.2.2.2.2.2.2.2.2.2.2.2.1)).trans hHeld.2.2.2.2.2.2.2.2.2.2.2.2.2.2.1, (HBF.out.cell (World.block_lt_of_cell? _ _ hHeld.2.2.2.2.2.2.2.2.2.2.2.2.2.2.2)).trans hHeld.2.2.2.2.2.2.2.2.2.2.2.2.2.2.2⟩ (fun hHeld => ?_)
            clear hK K
            refine norm_ (a' := ?_) ?_ ?_; rotate_left; (· (show Act.put _ (some 72) _ = _; simp only [np]; rfl))
            refine last_ (i := 11) (N := none) (bl 12 4095) rfl rfl (by kernel_rfl) (by decide) (fun K hK => ?_)
            have z0 := blk_frozen HAF.out.boxo 0
            have z1 := blk_frozen HAF.out.boxo 1
            have z2 := blk_frozen HAF.out.boxo 2
            have z3 := blk_frozen HAF.out.boxo 3
            have z4 := blk_frozen HAF.out.boxo 4
            have k0 := blk_cell HAF.out.boxo 0
            have k1 := blk_cell HAF.out.boxo 1
            have k2 := blk_cell HAF.out.boxo 2
            have k3 := blk_cell HAF.out.boxo 3
            have k4 := blk_cell HAF.out.boxo 4
            refine skip_ (w1 := ?_) (by rfl) rfl ?_ ?_
            rotate_left
            · go_simp
              rfl
            have HMN := Lib.hid (HAF.out.put rfl HPM.out HNG.out)
            clear z0 z1 z2 z3 z4 k0 k1 k2 k3 k4
            refine hK.out _ _ ?_
            clear hK K
            refine done_ (by kernel_rfl) ?_
            go_wp2_with fail
            go_roundg (gk - 1)
            case measure => omega
            case rel => exact ⟨j + 1, by omega, by go_num, Lib.hid ⟨_, _, _, _, _, HMN.out⟩⟩
          · have HA1 := Lib.hid (HM.out.under hb)
            have HV := Lib.hid h0
            clear h0 hb b0 b1 b2 b3 b4
            obtain ⟨W, hW⟩ : ∃ W, W = w'.alloc (.cells #[.int .i64 0, .string noStr, .string noStr, nilS, nilS] 25) := ⟨_, rfl⟩
            have HA2 := Lib.hid (show MW P d ⟨2, g1, g2, g3, g4⟩ ⟨2, f1, f2, f3, f4⟩ w #[.int .i64 2, .string f1, .string f2, .slice (some ad3) L3 c3, .slice A4 L4 c4] #[.int .i64 2, .string g1, .string g2, .slice B3 M3 d3, .slice B4 M4 d4] j out P3 q3 P4 q4 W from hW ▸ HA1.out.under (below_alloc (Below.refl _ _) _))
            obtain ⟨ad4, C3, cc3, C4, cc4, e4_, y0, y1, y2, y3, y4, hnd⟩ := ((HX.out.2.2.2.2.2.1.bound.below HA2.out.below).mono (Q := (fun k => k ≠ w.heap.size + 1 + 1 ∧ k ≠ w.heap.size + 1 + 1 + 1 ∧ (P k ∧ k < w.heap.size ∨ w.heap.size ≤ k))) fun k hp => ⟨by have := hp.2; omega, by have := hp.2; omega, .inl hp⟩).item j a HK.out.2.1
            subst e4_
            have HND := Lib.hid hnd
            have htag := (HX.out.1.item a HK.out.2.2).1.not_null
            have x4 : W.cell? ⟨w.heap.size, 4, none⟩ = some (.slice (some ad4) L4 c4) := (blk_cell HA2.out.boxx 4).trans rfl
            have HY5 := Lib.hid (And.intro x4 (And.intro y0 (And.intro y1 (And.intro y2 (And.intro y3 y4)))))
            have x4w := x4
            have y2w := y2
            rw [hW] at x4w y2w
            have HWS := Lib.hid hW
            clear hnd hW x4 y0 y1 y2 y3 y4
            go_wp2_with fail
            rw [← HWS.out]
            clear x4w y2w htag x3'
            have x4 := HY5.out.1
            have y0 := HY5.out.2.1
            have y1 := HY5.out.2.2.1
            have y2 := HY5.out.2.2.2.1
            have y3 := HY5.out.2.2.2.2.1
            have y4 := HY5.out.2.2.2.2.2
            have o0 : W.cell? ⟨w.heap.size + 1 + 1 + 1, 0, none⟩ = some (.int .i64 out.f0) := (blk_cell HA2.out.boxo 0).trans rfl
            have o1 : W.cell? ⟨w.heap.size + 1 + 1 + 1, 1, none⟩ = some (.string out.f1) := (blk_cell HA2.out.boxo 1).trans rfl
            have o2 : W.cell? ⟨w.heap.size + 1 + 1 + 1, 2, none⟩ = some (.string out.f2) := (blk_cell HA2.out.boxo 2).trans rfl
            have o3 : W.cell? ⟨w.heap.size + 1 + 1 + 1, 3, none⟩ = some (.slice P3 out.f3.length q3) := (blk_cell HA2.out.boxo 3).trans rfl
            have o4 : W.cell? ⟨w.heap.size + 1 + 1 + 1, 4, none⟩ = some (.slice P4 out.f4.length q4) := (blk_cell HA2.out.boxo 4).trans rfl
            refine start_ (n := 9) (S := fun w' => w'.cell? ⟨w.heap.size + 1 + 1 + 1, 0, none⟩ = some (.int .i64 out.f0) ∧ w'.cell? ⟨w.heap.size + 1 + 1 + 1, 1, none⟩ = some (.string out.f1) ∧ w'.cell? ⟨w.heap.size + 1 + 1 + 1, 2, none⟩ = some (.string out.f2) ∧ w'.cell? ⟨w.heap.size + 1 + 1 + 1, 3, none⟩ = some (.slice P3 out.f3.length q3) ∧ w'.cell? ⟨w.heap.size + 1 + 1 + 1, 4, none⟩ = some (.slice P4 out.f4.length q4) ∧ w'.cell? ⟨w.heap.size, 4, none⟩ = some (.slice (some ad4) L4 c4) ∧ w'.cell? (ad4.add (j * 5)) = some (.int .i64 a.f0) ∧ w'.cell? ⟨(ad4.add (j * 5)).block, (ad4.add (j * 5)).off + 1, none⟩ = some (.string a.f1) ∧ w'.cell? ⟨(ad4.add (j * 5)).block, (ad4.add (j * 5)).off + 2, none⟩ = some (.string a.f2) ∧ w'.cell? ⟨(ad4.add (j * 5)).block, (ad4.add (j * 5)).off + 3, none⟩ = some (.slice C3 a.f3.length cc3) ∧ w'.cell? ⟨(ad4.add (j * 5)).block, (ad4.add (j * 5)).off + 4, none⟩ = some (.slice C4 a.f4.length cc4)) (ds := [8]) #[false, false, false, false, false, false, false, false, false] (by kernel_rfl) rfl rfl ⟨o0, o1, o2, o3, o4, x4, y0, y1, y2, y3, y4⟩ (fun hHeld => ?_)
            refine pure_ (i := 1) (N := some 42) (v := ?_) (a' := ?_) (bl 9 2) rfl rfl (by kernel_rfl) (fun _ _ _ h => h) (Or.inl ⟨by rfl, ?_⟩) ?_ ?_; rotate_left; (· (intro w'; go_simp; with_reducible rfl)); rotate_left; (· (simp only [np]; rfl))
            refine pure_ (i := 2) (N := some 43) (v := ?_) (a' := ?_) (bl 9 6) rfl rfl (by kernel_rfl) (fun _ _ _ h => h) (Or.inl ⟨by rfl, ?_⟩) ?_ ?_; rotate_left; (· (intro w'; go_simp; with_reducible rfl)); rotate_left; (· (simp only [np]; rfl))
            refine pure_ (i := 4) (N := some 45) (v := ?_) (a' := ?_) (bl 9 22) rfl rfl (by kernel_rfl) (fun _ _ _ h => h) (Or.inl ⟨by rfl, ?_⟩) ?_ ?_; rotate_left; (· (intro w'; go_simp; with_reducible rfl)); rotate_left; (· (simp only [np]; rfl))
            refine take_ (i := 0) (N := some 41) (v := ?_) (a' := ?_) (bl 9 23) rfl rfl (by kernel_rfl) (fun _ _ _ h => h) (Or.inl ⟨by rfl, ?_⟩) hHeld ?_ ?_; rotate_left; (· (rintro w' ⟨s0, s1, s2, s3, s4, s5, s6, s7, s8, s9, s10⟩; go_simp; with_reducible rfl)); rotate_left; (· (simp only [np]; rfl))
            refine take_ (i := 3) (N := some 44) (v := ?_) (a' := ?_) (bl 9 31) rfl rfl (by kernel_rfl) (fun _ _ _ h => h) (Or.inl ⟨by rfl, ?_⟩) hHeld ?_ ?_; rotate_left; (· (rintro w' ⟨s0, s1, s2, s3, s4, s5, s6, s7, s8, s9, s10⟩; go_simp; with_reducible rfl)); rotate_left; (· (simp only [np]; rfl))
            refine pure_ (i := 5) (N := some 46) (v := ?_) (a' := ?_) (bl 9 63) rfl rfl (by kernel_rfl) (fun _ _ _ h => h) (Or.inl ⟨by rfl, ?_⟩) ?_ ?_; rotate_left; (· (intro w'; go_simp; with_reducible rfl)); rotate_left; (· (simp only [np]; rfl))
            refine take_ (i := 6) (N := some 47) (v := ?_) (a' := ?_) (bl 9 127) rfl rfl (by kernel_rfl) (fun _ _ _ h => h) (Or.inl ⟨by rfl, ?_⟩) hHeld ?_ ?_; rotate_left; (· (rintro w' ⟨s0, s1, s2, s3, s4, s5, s6, s7, s8, s9, s10⟩; go_simp; with_reducible rfl)); rotate_left; (· (simp only [np]; rfl))
            refine one_ (i := 7) (N := some 48) (bl 9 255) rfl rfl (by kernel_rfl) (by decide) (fun K hK => ?_)
            have HA9 := Lib.hid (HA2.out.under (below_drew (Below.refl _ _)))
            refine goes_ Tryz.func17 (by kernel_rfl) rfl #[ndV out P3 q3 P4 q4, .string key, ndV a C3 cc3 C4 cc4] (by rfl) rfl rfl (by simp only [List.map_toArray, List.map_cons, List.map_nil]; rfl) ?_
            refine (with17 W.drew (fun k => k ≠ w.heap.size + 1 + 1 ∧ k ≠ w.heap.size + 1 + 1 + 1 ∧ (P k ∧ k < w.heap.size ∨ w.heap.size ≤ k)) out a key P3 P4 C3 C4 q3 q4 cc3 cc4 HA9.out.nd (HND.out.below (below_drew (Below.refl _ _))) HA9.out.pm.len (by have h1 := HA9.out.pm.len; have h2 := HA9.out.pm.size; have h3 := HX.out.2.1.len; have h4 := H2.out.2.2.2.1; have h5 := HX.out.1.len; have h6 := H2.out.1.2.2.1; have h7 := HL.out.1; simp only at h2 h3 h5; omega)).mono ?_
            rintro e wf ⟨out', U3, u3, U4, u4, rfl, hwp, hng, hbc⟩
            have HBF := Lib.hid hbc
            have HAF := Lib.hid (HA9.out.under hbc)
            have HNG := Lib.hid (hng.mono (Q := (fun k => k ≠ w.heap.size + 1 + 1 ∧ k ≠ w.heap.size + 1 + 1 + 1 ∧ (P k ∧ k < w.heap.size ∨ w.heap.size ≤ k))) (fun k hp => hp.elim id fun e => ⟨by have := lt_of_block HA9.out.boxo; have := HA9.out.below.size; omega, by have := lt_of_block HA9.out.boxo; have := HA9.out.below.size; omega, .inr (by have := lt_of_block HA9.out.boxo; have := HA9.out.below.size; omega)⟩))
            have HPM := Lib.hid (HA9.out.pm.new H2.out.1.2.2.2 HK.out.1 HK.out.2.1 (fun e => HV.out (by first | exact ⟨rfl, e⟩ | exact ⟨trivial, e⟩ | exact e)) HX.out.2.2.2.1 hwp)
            clear hwp hng hbc
            refine ⟨_, rfl, ?_⟩
            refine hK.out _ _ ⟨(HBF.out.cell (World.block_lt_of_cell? _ _ hHeld.1)).trans hHeld.1, (HBF.out.cell (World.block_lt_of_cell? _ _ hHeld.2.1)).trans hHeld.2.1, (HBF.out.cell (World.block_lt_of_cell? _ _ hHeld.2.2.1)).trans hHeld.2.2.1, (HBF.out.cell (World.block_lt_of_cell? _ _ hHeld.2.2.2.1)).trans hHeld.2.2.2.1, (HBF.out.cell (World.block_lt_of_cell? _ _ hHeld.2.2.2.2.1)).trans hHeld.2.2.2.2.1, (HBF.out.cell (World.block_lt_of_cell? _ _ hHeld.2.2.2.2.2.1)).trans hHeld.2.2.2.2.2.1, (HBF.out.cell (World.block_lt_of_cell? _ _ hHeld.2.2.2.2.2.2.1)).trans hHeld.2.2.2.2.2.2.1, (HBF.out.cell (World.block_lt_of_cell? _ _ hHeld.2.2.2.2.2.2.2.1)).trans hHeld.2.2.2.2.2.2.2.1, (HBF.out.cell (World.block_lt_of_cell? _ _ hHeld.2.2.2.2.2.2.2.2.1)).trans hHeld.2.2.2.2.2.2.2.2.1, (HBF.out.cell (World.block_lt_of_cell? _ _ hHeld.2.2.2.2.2.2.2.2.2.1)).trans hHeld.2.2.2.2.2.2.2.2.2.1, (HBF.out.cell (World.block_lt_of_cell? _ _ hHeld.2.2.2.2.2.2.2.2.2.2)).trans hHeld.2.2.2.2.2.2.2.2.2.2⟩ (fun hHeld => ?_)
            clear hK K
            refine norm_ (a' := ?_) ?_ ?_; rotate_left; (· (show Act.put _ (some 48) _ = _; simp only [np]; rfl))
            refine last_ (i := 8) (N := none) (bl 9 511) rfl rfl (by kernel_rfl) (by decide) (fun K hK => ?_)
            have z0 := blk_frozen HAF.out.boxo 0
            have z1 := blk_frozen HAF.out.boxo 1
            have z2 := blk_frozen HAF.out.boxo 2
            have z3 := blk_frozen HAF.out.boxo 3
            have z4 := blk_frozen HAF.out.boxo 4
            have k0 := blk_cell HAF.out.boxo 0
            have k1 := blk_cell HAF.out.boxo 1
            have k2 := blk_cell HAF.out.boxo 2
            have k3 := blk_cell HAF.out.boxo 3
            have k4 := blk_cell HAF.out.boxo 4
            refine skip_ (w1 := ?_) (by rfl) rfl ?_ ?_
            rotate_left
            · go_simp
              rfl
            have HMN := Lib.hid (HAF.out.put rfl HPM.out HNG.out)
            clear z0 z1 z2 z3 z4 k0 k1 k2 k3 k4
            refine hK.out _ _ ?_
            clear hK K
            refine done_ (by kernel_rfl) ?_
            go_wp2_with fail
            go_roundg (gk - 1)
            case measure => omega
            case rel => exact ⟨j + 1, by omega, by go_num, Lib.hid ⟨_, _, _, _, _, HMN.out⟩⟩
        · have hqe : ¬ ((j : Int) < (L3 : Int)) := by omega
          have hqe' : ¬ (j < L3) := by omega
          have hjl : j = f3.length := by have := HL.out.1; omega
          have HPM := Lib.hid (show PM d ⟨2, g1, g2, g3, g4⟩ ⟨2, f1, f2, f3, f4⟩ f3.length out from hjl ▸ hmw.pm)
          have o0 : wr.cell? ⟨w.heap.size + 1 + 1 + 1, 0, none⟩ = some (.int .i64 out.f0) := (blk_cell hmw.boxo 0).trans rfl
          have o1 : wr.cell? ⟨w.heap.size + 1 + 1 + 1, 1, none⟩ = some (.string out.f1) := (blk_cell hmw.boxo 1).trans rfl
          have o2 : wr.cell? ⟨w.heap.size + 1 + 1 + 1, 2, none⟩ = some (.string out.f2) := (blk_cell hmw.boxo 2).trans rfl
          have o3 : wr.cell? ⟨w.heap.size + 1 + 1 + 1, 3, none⟩ = some (.slice P3 out.f3.length q3) := (blk_cell hmw.boxo 3).trans rfl
          have o4 : wr.cell? ⟨w.heap.size + 1 + 1 + 1, 4, none⟩ = some (.slice P4 out.f4.length q4) := (blk_cell hmw.boxo 4).trans rfl
          have r0 : wr.cell? ⟨w.heap.size + 1 + 1, 0, none⟩ = some (.int .i64 0) := (blk_cell hmw.boxr 0).trans rfl
          have rz0 : wr.frozen? ⟨w.heap.size + 1 + 1, 0, none⟩ = false := blk_frozen hmw.boxr 0
          have r1 : wr.cell? ⟨w.heap.size + 1 + 1, 1, none⟩ = some (.string noStr) := (blk_cell hmw.boxr 1).trans rfl
          have rz1 : wr.frozen? ⟨w.heap.size + 1 + 1, 1, none⟩ = false := blk_frozen hmw.boxr 1
          have r2 : wr.cell? ⟨w.heap.size + 1 + 1, 2, none⟩ = some (.string noStr) := (blk_cell hmw.boxr 2).trans rfl
          have rz2 : wr.frozen? ⟨w.heap.size + 1 + 1, 2, none⟩ = false := blk_frozen hmw.boxr 2
          have r3 : wr.cell? ⟨w.heap.size + 1 + 1, 3, none⟩ = some (nilS) := (blk_cell hmw.boxr 3).trans rfl
          have rz3 : wr.frozen? ⟨w.heap.size + 1 + 1, 3, none⟩ = false := blk_frozen hmw.boxr 3
          have r4 : wr.cell? ⟨w.heap.size + 1 + 1, 4, none⟩ = some (nilS) := (blk_cell hmw.boxr 4).trans rfl
          have rz4 : wr.frozen? ⟨w.heap.size + 1 + 1, 4, none⟩ = false := blk_frozen hmw.boxr 4
          clear hmw hI hjl hj
          go_wp2_with fail
          have hfin := HM.out.fin rfl
          exact bodyPost_ret (results_cell_row rfl _ _ (w.heap.size + 1 + 1) 25 #[.int .i64 out.f0, .string out.f1, .string out.f2, .slice P3 out.f3.length q3, .slice P4 out.f4.length q4] (0, 0) _ rfl hfin.1 Tryz.underlying25 rfl (by kernel_rfl)) rfl ⟨out, P3, q3, P4, q4, rfl, PM.done rfl HPM.out, HPM.out.bnd, hfin.2.1, hfin.2.2⟩
    · have hkb : (g0 == 2) = false := beq_false_of_ne hk
      have HK := Lib.hid hk
      clear hx hy hal hbx hby ha hb ih hL3 hL4 hM3 hM4 hk
      go_enter Tryz.func12, Tryz.ntmps12
      go_wp2_with fail
      refine bodyPost_ret (results_cell_row rfl _ _ (w.heap.size + 1 + 1) 25 #[.int .i64 g0, .string f1, .string f2, .slice A3 L3 c3, .slice A4 L4 c4] (0, 0) _ rfl (blk_new (by simp) _) Tryz.underlying25 rfl (by kernel_rfl)) rfl ?_
      refine ⟨⟨g0, f1, f2, f3, f4⟩, A3, c3, A4, c4, ?_, .inl ⟨HK.out, rfl⟩, HX.out.2.2.2.1, (HX.out.2.2.2.2.2.1.below (below_alloc (below_alloc (below_alloc (Below.refl _ _) _) _) _)).mono fun k hp => .inl hp, below_alloc (below_alloc (below_alloc (Below.refl _ _) _) _) _⟩
      simp only [ndV, ← HL.out.1, ← HL.out.2.1]
end Go.Proofs.YtghmajlfmoggfaaGreat
namespace Go.Proofs.YtghmajlfmoggfaaGreat
open Go.RowKit Go.Proofs.YtghmajlfmoggfaaGreatW.PrintWords Go.Proofs.YtghmajlfmoggfaaGreatW.PrintLast PFnMerge
def okO (w : World) (PP : Nat → Prop) (o3 : Option (Value × List ByteArray)) (og : Option (Nat × Array Value)) (k : Nat) : Prop := (∀ v l, o3 = some (v, l) → v.ownBlock ≠ some k) ∧ (∀ g cs, og = some (g, cs) → k ≠ g) ∧ k ≠ w.heap.size + 1 ∧ (PP k ∨ w.heap.size ≤ k)
structure WO (w : World) (PP : Nat → Prop) (bx bv br : Array Value) (o3 : Option (Value × List ByteArray)) (o4 : Option (Value × List S25)) (og : Option (Nat × Array Value)) (W : World) : Prop where
  below : Below w.heap.size w W
  boxx : W.heap[w.heap.size]? = some (.cells bx 25 (0, 0))
  boxv : W.heap[w.heap.size]? = some (.cells bv 25 (0, 0))
  boxr : W.heap[w.heap.size + 1]? = some (.cells br 25 (0, 0))
  r3 : ∀ v l, o3 = some (v, l) → Kd.R Kd.string 9 W (w.heap.size + 2) (fun k => some k = v.ownBlock) v l
  r4 : ∀ v l, o4 = some (v, l) → Kd.N k25 25 W (w.heap.size + 2) (okO w PP o3 og) v l
  rg : ∀ g cs, og = some (g, cs) → W.heap[g]? = some (.cells cs 25 (0, 0)) ∧ w.heap.size + 2 ≤ g
section
variable {w W W' w1 : World} {PP : Nat → Prop} {bx bv br cs : Array Value} {o3 : Option (Value × List ByteArray)} {o4 : Option (Value × List S25)} {og : Option (Nat × Array Value)} {v v1 : Value} {l3 l3' : List ByteArray} {l4 l4' : List S25} {g : Nat}
theorem WO.size (h : WO w PP bx bv br o3 o4 og W) : w.heap.size + 2 ≤ W.heap.size := lt_of_block h.boxr
theorem WO.under (h : WO w PP bx bv br o3 o4 og W) (hb : Below W.heap.size W W') : WO w PP bx bv br o3 o4 og W' :=
  ⟨h.below.trans (hb.mono h.below.size), (hb.block _ (lt_of_block h.boxx)).trans h.boxx, (hb.block _ (lt_of_block h.boxv)).trans h.boxv, (hb.block _ (lt_of_block h.boxr)).trans h.boxr,
    fun v l e => Kd.R_below (h.r3 v l e) hb, fun v l e => Kd.N_below (h.r4 v l e) hb, fun g cs e => ⟨(hb.block _ (lt_of_block (h.rg g cs e).1)).trans (h.rg g cs e).1, (h.rg g cs e).2⟩⟩
theorem WO.fresh (h : WO w PP bx bv br o3 o4 og W) : ∀ k, W.heap.size ≤ k → okO w PP o3 og k := fun k hk => ⟨fun v l e he => by have := Kd.R_lt (h.r3 v l e) _ he; omega, fun g cs e he => by have := lt_of_block (h.rg g cs e).1; omega, by have := h.size; omega, .inr (by have := h.size; omega)⟩
theorem WO.okp (h : WO w PP bx bv br o3 (some (v, l4)) og W) : ∀ k, (PP k ∧ k < w.heap.size) → okO w PP o3 og k ∧ some k ≠ v.ownBlock := fun k ⟨hp, hk⟩ =>
  ⟨⟨fun v l e he => by have := Kd.R_base (h.r3 v l e) _ he; omega, fun g cs e he => by have := (h.rg g cs e).2; omega, by omega, .inl hp⟩, fun he => by have := Kd.N_base (h.r4 _ _ rfl) _ he.symm; omega⟩
theorem WO.grow3 (h : WO w PP bx bv br (some (v, l3)) o4 og W) {ok : Nat → Prop} (hr : Kd.R Kd.string 9 w1 (w.heap.size + 2) ok v1 l3') (hg : W.grownBy w1 v.ownBlock) (hat : v1.ownBlock = v.ownBlock ∨ ∃ b, v1.ownBlock = some b ∧ W.heap.size ≤ b) : WO w PP bx bv br (some (v1, l3')) o4 og w1 := by
  have hb := fun k hk => Kd.R_base (h.r3 _ _ rfl) k hk
  have hne : ∀ k, k < w.heap.size + 2 → some k ≠ v.ownBlock := fun k hk e => by have := hb k e.symm; omega
  have hs := h.size
  refine ⟨h.below.grown hg h.below.size fun k hk => by have := hb k hk; omega, (hg.block _ (lt_of_block h.boxx) (hne _ (by omega))).trans h.boxx, (hg.block _ (lt_of_block h.boxv) (hne _ (by omega))).trans h.boxv, (hg.block _ (lt_of_block h.boxr) (hne _ (by omega))).trans h.boxr, ?_, ?_, ?_⟩
  · rintro v' l' e
    injection e with e
    injection e with e1 e2
    subst e1; subst e2
    exact Kd.R_tight rfl hr
  · intro v' l' e
    refine Kd.N_mono (Kd.N_grown (Kd.N_bound (h.r4 v' l' e)) hg fun k hk he => hk.1.1 _ _ rfl he.symm) fun k hk => ⟨?_, hk.1.2⟩
    rintro v'' l'' e'
    injection e' with e'
    injection e' with e1 _
    subst e1
    rcases hat with hat | ⟨b, hat, hle⟩
    · rw [hat]; exact hk.1.1 _ _ rfl
    · rw [hat]; intro e2; injection e2 with e2; have := hk.2; omega
  · intro g cs e
    obtain ⟨h1, h2⟩ := h.rg g cs e
    exact ⟨(hg.block _ (lt_of_block h1) (Kd.R_ne (h.r3 _ _ rfl) h1 (by decide))).trans h1, h2⟩
theorem WO.grow4 (h : WO w PP bx bv br o3 (some (v, l4)) og W) (hr : Kd.N k25 25 w1 (w.heap.size + 2) (okO w PP o3 og) v1 l4') (hg : W.grownBy w1 v.ownBlock) : WO w PP bx bv br o3 (some (v1, l4')) og w1 := by
  have hb := fun k hk => Kd.N_base (h.r4 _ _ rfl) k hk
  have hne : ∀ k, k < w.heap.size + 2 → some k ≠ v.ownBlock := fun k hk e => by have := hb k e.symm; omega
  have hs := h.size
  refine ⟨h.below.grown hg h.below.size fun k hk => by have := hb k hk; omega, (hg.block _ (lt_of_block h.boxx) (hne _ (by omega))).trans h.boxx, (hg.block _ (lt_of_block h.boxv) (hne _ (by omega))).trans h.boxv, (hg.block _ (lt_of_block h.boxr) (hne _ (by omega))).trans h.boxr, ?_, ?_, ?_⟩
  · intro v' l' e
    exact Kd.R_grown (h.r3 v' l' e) hg fun k hk he => ((h.r4 _ _ rfl).1 k he.symm).1 v' l' e hk.symm
  · rintro v' l' e
    injection e with e
    injection e with e1 e2
    subst e1; subst e2
    exact hr
  · intro g cs e
    obtain ⟨h1, h2⟩ := h.rg g cs e
    exact ⟨(hg.block _ (lt_of_block h1) (fun he => ((h.r4 _ _ rfl).1 g he.symm).2.1 g cs e rfl)).trans h1, h2⟩
theorem WO.setg (h : WO w PP bx bv br o3 o4 (some (g, cs)) W) {cs' : Array Value} (hk : Keep (fun k => k = g) W W') (hc : W'.heap[g]? = some (.cells cs' 25 (0, 0))) : WO w PP bx bv br o3 o4 (some (g, cs')) W' := by
  have hg := (h.rg _ _ rfl).2
  refine ⟨h.below.trans (hk.below h.below.size fun k _ e => by omega), hk.at_ h.boxx (by omega), hk.at_ h.boxv (by omega), hk.at_ h.boxr (by omega), ?_, ?_, ?_⟩
  · intro v l e
    exact Kd.R_step (h.r3 v l e) fun k hk' hlt => hk.block k hlt fun e2 => Kd.R_ne (h.r3 v l e) (h.rg _ _ rfl).1 (by decide) (e2 ▸ hk')
  · intro v l e
    refine Kd.N_mono (Kd.N_step (h.r4 v l e) fun k hk' hlt => hk.block k hlt fun e2 => hk'.2.1 _ _ rfl e2) fun k hk' => ⟨hk'.1, ?_, hk'.2.2⟩
    rintro g' cs'' e'
    injection e' with e'
    injection e' with e1 _
    rw [← e1]
    exact hk'.2.1 _ _ rfl
  · rintro g' cs'' e'
    injection e' with e'
    injection e' with e1 e2
    subst e1; subst e2
    exact ⟨hc, hg⟩
structure LiO3 (v : Value) (name : ByteArray) (lb : Nat) (W : World) : Prop where
  blk : W.heap[lb]? = some (.cells #[.string name] 9 (0, 0))
  lt : ∀ k, v.ownBlock = some k → k < lb
structure LiO4 (w : World) (v : Value) (g : Nat) (cells : Array Value) (lb : Nat) (W : World) : Prop where
  blk : W.heap[lb]? = some (.cells cells 25 (0, 0))
  lt : ∀ k, v.ownBlock = some k → k < lb
  glt : g < lb
  base : w.heap.size + 2 ≤ lb
theorem LiO3.under {name : ByteArray} {lb : Nat} (h : LiO3 v name lb W) (hb : Below W.heap.size W W') : LiO3 v name lb W' := ⟨(hb.block _ (lt_of_block h.blk)).trans h.blk, h.lt⟩
theorem LiO4.under {cells : Array Value} {lb : Nat} (h : LiO4 w v g cells lb W) (hb : Below W.heap.size W W') : LiO4 w v g cells lb W' := ⟨(hb.block _ (lt_of_block h.blk)).trans h.blk, h.lt, h.glt, h.base⟩
theorem LiO4.grown {cells : Array Value} {lb : Nat} {u : Value} (h : LiO4 w v g cells lb W) (hw : WO w PP bx bv br (some (u, l3)) o4 og W) (hg : W.grownBy w1 u.ownBlock) : LiO4 w v g cells lb w1 :=
  ⟨(hg.block _ (lt_of_block h.blk) (Kd.R_ne (hw.r3 _ _ rfl) h.blk (by decide))).trans h.blk, h.lt, h.glt, h.base⟩
theorem WO.mk3 (h : WO w PP bx bv br (some (v, l3)) o4 og W) (name : ByteArray) : ∃ lb, lb = W.heap.size ∧ LiO3 v name lb (W.alloc (.cells #[.string name] 9)) := ⟨_, rfl, blk_new rfl _, fun k hk => Kd.R_lt (h.r3 _ _ rfl) k hk⟩
theorem WO.mk4 (h : WO w PP bx bv br o3 (some (v, l4)) (some (g, cs)) W) (cells : Array Value) : ∃ lb, lb = W.heap.size ∧ LiO4 w v g cells lb (W.alloc (.cells cells 25)) := ⟨_, rfl, blk_new rfl _, fun k hk => Kd.N_lt (h.r4 _ _ rfl) k hk, lt_of_block (h.rg _ _ rfl).1, h.size⟩
theorem LiO3.reads {name : ByteArray} {lb : Nat} (h : LiO3 v name lb W) : ReadsRow (fun x cs => cs = [Value.string x]) 1 W (some ⟨lb, 0, none⟩) 1 [name] := by
  refine ⟨rfl, by omega, fun _ => ⟨⟨lb, 0, none⟩, rfl, fun j p hj => ?_⟩⟩
  match j, hj with
  | 0, hj =>
    simp only [List.getElem?_cons_zero, Option.some.injEq] at hj
    subst hj
    refine ⟨_, rfl, rfl, fun i u hu => ?_⟩
    match i, hu with
    | 0, hu =>
      simp only [List.getElem?_cons_zero, Option.some.injEq] at hu
      subst hu
      exact (blk_cell h.blk 0).trans rfl
theorem LiO4.reads {x : S25} {E3 E4 : Option Addr} {e3 e4 : Nat} {lb : Nat} (h : LiO4 w v g #[.int .i64 x.f0, .string x.f1, .string x.f2, .slice E3 x.f3.length e3, .slice E4 x.f4.length e4] lb W) {Q : Nat → Prop} (hx : NdG W Q x E3 e3 E4 e4) : Kd.F k25 W (fun k => Q k ∨ k = lb) (some ⟨lb, 0, none⟩) 1 [x] := by
  intro W' hW
  have hblk : W'.heap[lb]? = some (.cells #[.int .i64 x.f0, .string x.f1, .string x.f2, .slice E3 x.f3.length e3, .slice E4 x.f4.length e4] 25 (0, 0)) := (hW lb (.inr rfl) (lt_of_block h.blk)).trans h.blk
  have h3 : Kd.C Kd.string W' E3 x.f3.length x.f3 := hx.keys W' fun k hk hlt => hW k (.inl hk) hlt
  have h4 : Kd.C k25 W' E4 x.f4.length x.f4 := hx.items W' fun k hk hlt => hW k (.inl hk) hlt
  refine ⟨rfl, by omega, fun _ => ⟨⟨lb, 0, none⟩, rfl, fun j p hj => ?_⟩⟩
  match j, hj with
  | 0, hj =>
    simp only [List.getElem?_cons_zero, Option.some.injEq] at hj
    subst hj
    refine ⟨_, rfl, k25_mk W' x hx.kcap h3 hx.icap h4, fun i u hu => ?_⟩
    have hc := blk_cell hblk i
    rw [add_at, Nat.zero_add]
    simp only [Nat.zero_mul, Nat.zero_add]
    rw [hc]
    simpa using hu
theorem WO.put3 {a0 a1 a2 a3 a4 : Value} (h : WO w PP bx bv br o3 o4 (some (g, #[a0, a1, a2, a3, a4])) W) (u : Value) : WO w PP bx bv br o3 o4 (some (g, #[a0, a1, a2, u, a4])) (W.setCell ⟨g, 3, none⟩ u) :=
  h.setg ((Keep.refl (fun k => k = g) W).setCell ⟨g, 3, none⟩ u fun _ => rfl) ((blk_set (h.rg _ _ rfl).1 3 u).trans (by simp only [List.setIfInBounds_toArray, List.set_cons_zero, List.set_cons_succ]))
theorem WO.put4 {a0 a1 a2 a3 a4 : Value} (h : WO w PP bx bv br o3 o4 (some (g, #[a0, a1, a2, a3, a4])) W) (u : Value) : WO w PP bx bv br o3 o4 (some (g, #[a0, a1, a2, a3, u])) (W.setCell ⟨g, 4, none⟩ u) :=
  h.setg ((Keep.refl (fun k => k = g) W).setCell ⟨g, 4, none⟩ u fun _ => rfl) ((blk_set (h.rg _ _ rfl).1 4 u).trans (by simp only [List.setIfInBounds_toArray, List.set_cons_zero, List.set_cons_succ]))
theorem WO.okl {cells : Array Value} {lb : Nat} (h : WO w PP bx bv br (some (v1, l3)) (some (v, l4)) (some (g, cs)) W) (hl : LiO4 w v g cells lb W) : ∀ k, ((PP k ∧ k < w.heap.size) ∨ k = lb) → okO w PP (some (v1, l3)) (some (g, cs)) k ∧ some k ≠ v.ownBlock := by
  rintro k (hk | rfl)
  · exact h.okp k hk
  · refine ⟨⟨?_, ?_, ?_, .inr (by have := hl.base; omega)⟩, fun e => Nat.lt_irrefl _ (hl.lt _ e.symm)⟩
    · intro v' l' e
      injection e with e
      injection e with e1 _
      subst e1
      intro e2
      exact Kd.R_ne (h.r3 _ _ rfl) hl.blk (by decide) e2.symm
    · intro g' cs' e
      injection e with e
      injection e with e1 _
      have := hl.glt
      omega
    · have := hl.base
      omega
theorem WO.fin {P3 P4 : Option Addr} {n3 n4 q3 q4 : Nat} {a0 a1 a2 a3 a4 : Value} (h : WO w PP bx bv #[a0, a1, a2, a3, a4] (some (.slice P3 n3 q3, l3)) (some (.slice P4 n4 q4, l4)) og W) (f0 : Int) (f1 f2 : ByteArray) (v0 v1 v2 v3 v4 : Value) {b : Nat} (hb : b = w.heap.size + 1) :
    (((((W.setCell ⟨b, 0, none⟩ v0).setCell ⟨b, 1, none⟩ v1).setCell ⟨b, 2, none⟩ v2).setCell ⟨b, 3, none⟩ v3).setCell ⟨b, 4, none⟩ v4).heap[b]? = some (.cells #[v0, v1, v2, v3, v4] 25 (0, 0)) ∧
    NdG (((((W.setCell ⟨b, 0, none⟩ v0).setCell ⟨b, 1, none⟩ v1).setCell ⟨b, 2, none⟩ v2).setCell ⟨b, 3, none⟩ v3).setCell ⟨b, 4, none⟩ v4) (fun k => PP k ∨ w.heap.size ≤ k) ⟨f0, f1, f2, l3, l4⟩ P3 q3 P4 q4 ∧
    Below w.heap.size w (((((W.setCell ⟨b, 0, none⟩ v0).setCell ⟨b, 1, none⟩ v1).setCell ⟨b, 2, none⟩ v2).setCell ⟨b, 3, none⟩ v3).setCell ⟨b, 4, none⟩ v4) ∧ n3 = l3.length ∧ n4 = l4.length := by
  subst hb
  have hk := keep_put5 W (w.heap.size + 1) v0 v1 v2 v3 v4
  have g3 := Kd.R_step (h.r3 _ _ rfl) fun k hk' hlt => hk.block k hlt fun e2 => by have := Kd.R_base (h.r3 _ _ rfl) k hk'.symm; omega
  have g4 := Kd.N_step (h.r4 _ _ rfl) fun k hk' hlt => hk.block k hlt hk'.2.2.1
  have h3 := Kd.R_reads' g3
  have h4 := Kd.N_reads' g4
  have n3' := h3.1
  have n4' := h4.1
  subst n3'
  subst n4'
  refine ⟨put5_blk h.boxr v0 v1 v2 v3 v4, ⟨Kd.F_mono (Kd.R_F g3) fun k hk' => .inr (by have := Kd.R_base (h.r3 _ _ rfl) k hk'.symm; omega), h3.2.1, Kd.F_mono (Kd.N_F g4) fun k hk' => hk'.2.2.2, h4.2.1⟩, h.below.trans (hk.below h.below.size fun k _ e => by omega), rfl, rfl⟩
end
def cutA (nm : ByteArray) (l3 : List ByteArray) (l4 : List S25) : List ByteArray := ((l3.zip l4).filter fun p => !(nm.toList == p.1.toList)).map (·.1)
def cutB (nm : ByteArray) (l3 : List ByteArray) (l4 : List S25) : List S25 := ((l3.zip l4).filter fun p => !(nm.toList == p.1.toList)).map (·.2)
theorem zip_snoc {l3 : List ByteArray} {l4 : List S25} {j : Nat} {key : ByteArray} {y : S25} (h3 : l3[j]? = some key) (h4 : l4[j]? = some y) : (l3.take (j + 1)).zip (l4.take (j + 1)) = (l3.take j).zip (l4.take j) ++ [(key, y)] := by
  rw [take_succ h3, List.take_add_one, h4]
  have h1 : (l3.take j).length = (l4.take j).length := by
    have := (List.getElem?_eq_some_iff.1 h3).1
    have := (List.getElem?_eq_some_iff.1 h4).1
    rw [List.length_take, List.length_take]
    omega
  rw [show (some y).toList = [y] from rfl, List.zip_append h1]
  rfl
theorem cutA_snoc {nm : ByteArray} {l3 : List ByteArray} {l4 : List S25} {j : Nat} {key : ByteArray} {y : S25} (h3 : l3[j]? = some key) (h4 : l4[j]? = some y) (hne : (nm.toList == key.toList) = false) : cutA nm (l3.take (j + 1)) (l4.take (j + 1)) = cutA nm (l3.take j) (l4.take j) ++ [key] := by
  unfold cutA
  rw [zip_snoc h3 h4, List.filter_append, List.map_append]
  simp [hne]
theorem cutB_snoc {nm : ByteArray} {l3 : List ByteArray} {l4 : List S25} {j : Nat} {key : ByteArray} {y : S25} (h3 : l3[j]? = some key) (h4 : l4[j]? = some y) (hne : (nm.toList == key.toList) = false) : cutB nm (l3.take (j + 1)) (l4.take (j + 1)) = cutB nm (l3.take j) (l4.take j) ++ [y] := by
  unfold cutB
  rw [zip_snoc h3 h4, List.filter_append, List.map_append]
  simp [hne]
theorem cutA_same {nm : ByteArray} {l3 : List ByteArray} {l4 : List S25} {j : Nat} {key : ByteArray} {y : S25} (h3 : l3[j]? = some key) (h4 : l4[j]? = some y) (hne : (nm.toList == key.toList) = true) : cutA nm (l3.take (j + 1)) (l4.take (j + 1)) = cutA nm (l3.take j) (l4.take j) := by
  unfold cutA
  rw [zip_snoc h3 h4, List.filter_append, List.map_append]
  simp [hne]
theorem cutB_same {nm : ByteArray} {l3 : List ByteArray} {l4 : List S25} {j : Nat} {key : ByteArray} {y : S25} (h3 : l3[j]? = some key) (h4 : l4[j]? = some y) (hne : (nm.toList == key.toList) = true) : cutB nm (l3.take (j + 1)) (l4.take (j + 1)) = cutB nm (l3.take j) (l4.take j) := by
  unfold cutB
  rw [zip_snoc h3 h4, List.filter_append, List.map_append]
  simp [hne]
theorem cutA_le (nm : ByteArray) (l3 : List ByteArray) (l4 : List S25) : (cutA nm l3 l4).length ≤ l3.length := by
  unfold cutA
  rw [List.length_map]
  exact Nat.le_trans (List.length_filter_le _ _) (by rw [List.length_zip]; omega)
theorem cutB_le (nm : ByteArray) (l3 : List ByteArray) (l4 : List S25) : (cutB nm l3 l4).length ≤ l3.length := by
  unfold cutB
  rw [List.length_map]
  exact Nat.le_trans (List.length_filter_le _ _) (by rw [List.length_zip]; omega)
def WoutQ (PP : Nat → Prop) (x : S25) (name : ByteArray) (w : World) (e : Ending) (w' : World) : Prop := ∃ P3 q3 P4 q4, e = .returned (ndV (cutN name x) P3 q3 P4 q4) ∧ NdG w' (fun k => PP k ∨ w.heap.size ≤ k) (cutN name x) P3 q3 P4 q4 ∧ Below w.heap.size w w'
set_option maxRecDepth 20000 in
set_option maxHeartbeats 8000000 in
theorem without24 (w : World) (PP : Nat → Prop) (x : S25) (name : ByteArray) (A3 A4 : Option Addr) (c3 c4 : Nat) (h : NdG w PP x A3 c3 A4 c4) (hlen : x.f3.length = x.f4.length) (hmax : x.f4.length ≤ 1000000) :
    Calls Tryz.prog 24 #[ndV x A3 c3 A4 c4, .string name] w fun e w' => WoutQ PP x name w e w' := by
  obtain ⟨f0, f1, f2, f3, f4⟩ := x
  obtain ⟨L3, hL3⟩ : ∃ L3, L3 = f3.length := ⟨_, rfl⟩
  obtain ⟨L4, hL4⟩ : ∃ L4, L4 = f4.length := ⟨_, rfl⟩
  have hargs : ndV ⟨f0, f1, f2, f3, f4⟩ A3 c3 A4 c4 = .agg #[.int .i64 f0, .string f1, .string f2, .slice A3 L3 c3, .slice A4 L4 c4] := by rw [hL3, hL4]
  rw [hargs]
  clear hargs
  have H := Lib.hid (And.intro h (And.intro hlen (And.intro hmax (And.intro hL3 hL4))))
  have hn3 : (L3 : Int) ≤ 1000000 := by simp only at hlen hmax; omega
  clear h hlen hmax hL3 hL4
  have hws : WO w PP #[.int .i64 f0, .string f1, .string f2, .slice A3 L3 c3, .slice A4 L4 c4] #[.int .i64 f0, .string f1, .string f2, .slice A3 L3 c3, .slice A4 L4 c4] #[.int .i64 0, .string noStr, .string noStr, nilS, nilS] (some (nilS, [])) (some (nilS, [])) (some (w.heap.size + 1 + 1, #[.int .i64 2, .string noStr, .string noStr, nilS, nilS])) (((w.alloc (.cells #[.int .i64 f0, .string f1, .string f2, .slice A3 L3 c3, .slice A4 L4 c4] 25)).alloc (.cells #[.int .i64 0, .string noStr, .string noStr, nilS, nilS] 25)).alloc (.cells #[.int .i64 2, .string noStr, .string noStr, nilS, nilS] 25)) := by
    refine ⟨below_alloc (below_alloc (below_alloc (Below.refl _ _) _) _) _, blk_old _ (blk_old _ (blk_new rfl _)), blk_old _ (blk_old _ (blk_new rfl _)), blk_old _ (blk_new (by simp) _), ?_, ?_, ?_⟩
    · rintro v l e
      injection e with e
      injection e with e1 e2
      subst e1; subst e2
      exact Kd.R_nil _ _ _ _ _
    · rintro v l e
      injection e with e
      injection e with e1 e2
      subst e1; subst e2
      exact Kd.N_nil _ _ _ _ _
    · rintro g cs e
      injection e with e
      injection e with e1 e2
      subst e1; subst e2
      exact ⟨blk_new (by simp) _, by omega⟩
  have HWS := Lib.hid hws
  clear hws
  go_enter Tryz.func24, Tryz.ntmps24
  go_wp2_with fail
  go_loopg [12] L3 (fun k i wr => ∃ j : Nat, j + k = L3 ∧ i = .int .i64 (j : Int) ∧ Hid (∃ P3 q3 P4 q4 K3 K4 ks vs, ks = cutA name (f3.take j) (f4.take j) ∧ vs = cutB name (f3.take j) (f4.take j) ∧ K3 = ks.length ∧ K4 = vs.length ∧ WO w PP #[.int .i64 f0, .string f1, .string f2, .slice A3 L3 c3, .slice A4 L4 c4] #[.int .i64 f0, .string f1, .string f2, .slice A3 L3 c3, .slice A4 L4 c4] #[.int .i64 0, .string noStr, .string noStr, nilS, nilS] (some (.slice P3 K3 q3, ks)) (some (.slice P4 K4 q4, vs)) (some (w.heap.size + 1 + 1, #[.int .i64 2, .string noStr, .string noStr, .slice P3 K3 q3, .slice P4 K4 q4])) wr))
  case atStart => exact ⟨0, by omega, rfl, Lib.hid ⟨none, 0, none, 0, 0, 0, [], [], rfl, rfl, rfl, rfl, HWS.out⟩⟩
  case round =>
    obtain ⟨j, hj, rfl, hI⟩ := hrel
    obtain ⟨P3, q3, P4, q4, K3, K4, ks, vs, hks, hvs, hk3, hk4, hw⟩ := hI.out
    have HW := Lib.hid hw
    by_cases hlt : 1 ≤ gk
    · have hj2 : (j : Int) < (L3 : Int) := by omega
      have hj3 : j < L3 := by omega
      have hjl : j < f3.length := by have := H.out.2.2.2.1; omega
      obtain ⟨key, hkey⟩ : ∃ key, f3[j]? = some key := ⟨_, List.getElem?_eq_getElem hjl⟩
      have hl34 : f3.length = f4.length := H.out.2.1
      obtain ⟨y, hyj⟩ : ∃ y, f4[j]? = some y := ⟨_, List.getElem?_eq_getElem (by omega)⟩
      have hj4 : (j : Int) < (L4 : Int) := by have := H.out.2.2.2.2; omega
      have hj4' : j < L4 := by omega
      obtain ⟨ad3, rfl, x3⟩ := str_at (H.out.1.now.keys) j key hjl hkey
      have x3' := (hw.below.cell (World.block_lt_of_cell? w _ x3)).trans x3
      have HKL := Lib.hid (And.intro hk3 (And.intro hk4 (show K3 ≤ j ∧ K4 ≤ j ∧ j ≤ 1000000 from ⟨by rw [hk3, hks]; exact Nat.le_trans (cutA_le _ _ _) (by rw [List.length_take]; omega), by rw [hk4, hvs]; exact Nat.le_trans (cutB_le _ _ _) (by rw [List.length_take]; omega), by omega⟩)))
      have HKS := Lib.hid (And.intro hks hvs)
      have HK := Lib.hid (And.intro hkey hyj)
      obtain ⟨ad4, B3, d3, B4, d4, e4_, y0, y1, y2, y3, y4, hnd⟩ := H.out.1.item j y hyj
      subst e4_
      have HND := Lib.hid hnd
      have HY := Lib.hid (And.intro y0 (And.intro y1 (And.intro y2 (And.intro y3 y4))))
      clear hjl hkey hl34 hyj x3 hw hI y0 y1 y2 y3 y4 hnd hks hvs hk3 hk4
      cases hne0 : (name.toList == key.toList) with
      | true =>
        have hne1 : (key.toList == name.toList) = true := by rw [beq_iff_eq] at hne0 ⊢; exact hne0.symm
        go_wp2_with fail
        go_roundg (gk - 1)
        case measure => omega
        case rel => exact ⟨j + 1, by omega, by go_num, Lib.hid ⟨P3, q3, P4, q4, K3, K4, ks, vs, by rw [HKS.out.1, cutA_same HK.out.1 HK.out.2 hne0], by rw [HKS.out.2, cutB_same HK.out.1 HK.out.2 hne0], HKL.out.1, HKL.out.2.1, HW.out⟩⟩
      | false =>
        have hne1 : (key.toList == name.toList) = false := by rw [beq_eq_false_iff_ne] at hne0 ⊢; exact fun e => hne0 e.symm
        go_wp2_with fail
        have c3' : wr.cell? ⟨w.heap.size + 1 + 1, 3, none⟩ = some (.slice P3 K3 q3) := (blk_cell (HW.out.rg _ _ rfl).1 3).trans rfl
        have c4' : wr.cell? ⟨w.heap.size + 1 + 1, 4, none⟩ = some (.slice P4 K4 q4) := (blk_cell (HW.out.rg _ _ rfl).1 4).trans rfl
        have x4 : wr.cell? ⟨w.heap.size, 4, none⟩ = some (.slice (some ad4) L4 c4) := (blk_cell HW.out.boxx 4).trans rfl
        have y0 := (HW.out.below.cell (World.block_lt_of_cell? w _ HY.out.1)).trans HY.out.1
        have y1 := (HW.out.below.cell (World.block_lt_of_cell? w _ HY.out.2.1)).trans HY.out.2.1
        have y2 := (HW.out.below.cell (World.block_lt_of_cell? w _ HY.out.2.2.1)).trans HY.out.2.2.1
        have y3 := (HW.out.below.cell (World.block_lt_of_cell? w _ HY.out.2.2.2.1)).trans HY.out.2.2.2.1
        have y4 := (HW.out.below.cell (World.block_lt_of_cell? w _ HY.out.2.2.2.2)).trans HY.out.2.2.2.2
        refine start_ (n := 18) (S := fun w' => w'.cell? ⟨w.heap.size + 1 + 1, 3, none⟩ = some (.slice P3 K3 q3) ∧ w'.cell? ⟨w.heap.size + 1 + 1, 4, none⟩ = some (.slice P4 K4 q4) ∧ w'.cell? ⟨w.heap.size, 4, none⟩ = some (.slice (some ad4) L4 c4) ∧ w'.cell? (ad4.add (j * 5)) = some (.int .i64 y.f0) ∧ w'.cell? ⟨(ad4.add (j * 5)).block, (ad4.add (j * 5)).off + 1, none⟩ = some (.string y.f1) ∧ w'.cell? ⟨(ad4.add (j * 5)).block, (ad4.add (j * 5)).off + 2, none⟩ = some (.string y.f2) ∧ w'.cell? ⟨(ad4.add (j * 5)).block, (ad4.add (j * 5)).off + 3, none⟩ = some (.slice B3 y.f3.length d3) ∧ w'.cell? ⟨(ad4.add (j * 5)).block, (ad4.add (j * 5)).off + 4, none⟩ = some (.slice B4 y.f4.length d4)) (ds := [15, 17]) #[false, false, false, false, false, false, false, false, false, false, false, false, false, false, false, false, false, false] (by kernel_rfl) rfl rfl ⟨c3', c4', x4, y0, y1, y2, y3, y4⟩ (fun hHeld => ?_)
        have HW := Lib.hid (HW.out.under (below_drew (Below.refl _ _)))
        refine pure_ (i := 0) (N := some 20) (v := ?_) (a' := ?_) (bl 18 1) rfl rfl (by kernel_rfl) (fun _ _ _ h => h) (Or.inl ⟨by rfl, ?_⟩) ?_ ?_; rotate_left; (· (intro w'; go_simp; with_reducible rfl)); rotate_left; (· (simp only [np]; rfl))
        refine pure_ (i := 2) (N := some 22) (v := ?_) (a' := ?_) (bl 18 5) rfl rfl (by kernel_rfl) (fun _ _ _ h => h) (Or.inl ⟨by rfl, ?_⟩) ?_ ?_; rotate_left; (· (intro w'; go_simp; with_reducible rfl)); rotate_left; (· (simp only [np]; rfl))
        refine pure_ (i := 5) (N := some 25) (v := ?_) (a' := ?_) (bl 18 37) rfl rfl (by kernel_rfl) (fun _ _ _ h => h) (Or.inl ⟨by rfl, ?_⟩) ?_ ?_; rotate_left; (· (intro w'; go_simp; with_reducible rfl)); rotate_left; (· (simp only [np]; rfl))
        refine pure_ (i := 7) (N := some 27) (v := ?_) (a' := ?_) (bl 18 165) rfl rfl (by kernel_rfl) (fun _ _ _ h => h) (Or.inl ⟨by rfl, ?_⟩) ?_ ?_; rotate_left; (· (intro w'; go_simp; with_reducible rfl)); rotate_left; (· (simp only [np]; rfl))
        refine pure_ (i := 9) (N := some 29) (v := ?_) (a' := ?_) (bl 18 677) rfl rfl (by kernel_rfl) (fun _ _ _ h => h) (Or.inl ⟨by rfl, ?_⟩) ?_ ?_; rotate_left; (· (intro w'; go_simp; with_reducible rfl)); rotate_left; (· (simp only [np]; rfl))
        refine take_ (i := 1) (N := some 21) (v := ?_) (a' := ?_) (bl 18 679) rfl rfl (by kernel_rfl) (fun _ _ _ h => h) (Or.inl ⟨by rfl, ?_⟩) hHeld ?_ ?_; rotate_left; (· (rintro w' ⟨s0, s1, s2, s3, s4, s5, s6, s7⟩; go_simp; with_reducible rfl)); rotate_left; (· (simp only [np]; rfl))
        refine take_ (i := 6) (N := some 26) (v := ?_) (a' := ?_) (bl 18 743) rfl rfl (by kernel_rfl) (fun _ _ _ h => h) (Or.inl ⟨by rfl, ?_⟩) hHeld ?_ ?_; rotate_left; (· (rintro w' ⟨s0, s1, s2, s3, s4, s5, s6, s7⟩; go_simp; with_reducible rfl)); rotate_left; (· (simp only [np]; rfl))
        refine take_ (i := 8) (N := some 28) (v := ?_) (a' := ?_) (bl 18 999) rfl rfl (by kernel_rfl) (fun _ _ _ h => h) (Or.inl ⟨by rfl, ?_⟩) hHeld ?_ ?_; rotate_left; (· (rintro w' ⟨s0, s1, s2, s3, s4, s5, s6, s7⟩; go_simp; with_reducible rfl)); rotate_left; (· (simp only [np]; rfl))
        refine pure_ (i := 10) (N := some 30) (v := ?_) (a' := ?_) (bl 18 2023) rfl rfl (by kernel_rfl) (fun _ _ _ h => h) (Or.inl ⟨by rfl, ?_⟩) ?_ ?_; rotate_left; (· (intro w'; go_simp; with_reducible rfl)); rotate_left; (· (simp only [np]; rfl))
        refine take_ (i := 11) (N := some 31) (v := ?_) (a' := ?_) (bl 18 4071) rfl rfl (by kernel_rfl) (fun _ _ _ h => h) (Or.inl ⟨by rfl, ?_⟩) hHeld ?_ ?_; rotate_left; (· (rintro w' ⟨s0, s1, s2, s3, s4, s5, s6, s7⟩; go_simp; with_reducible rfl)); rotate_left; (· (simp only [np]; rfl))
        refine two_ (i := 3) (j := 12) (Ni := some 23) (Nj := some 32) (bl 18 4079) (bl 18 8167) rfl rfl rfl rfl (by kernel_rfl) (by decide) (by decide) (fun K hK => ?_) (fun K hK => ?_)
        · skip
          refine value_ (w1 := ?_) (v := ?_) (by rfl) rfl ?_ ?_
          rotate_left 2
          · go_simp
            constructor
            · rfl
            · rfl
          obtain ⟨gg, hgg, hw⟩ := HW.out.mk3 key
          try simp at hgg
          subst hgg
          have HL3 := Lib.hid hw
          clear hw
          have HW := Lib.hid (HW.out.under (below_alloc (Below.refl _ _) (.cells #[.string key] 9)))
          refine hK.out _ _ ⟨(blk_cell (HW.out.rg _ _ rfl).1 3).trans rfl, (blk_cell (HW.out.rg _ _ rfl).1 4).trans rfl, (blk_cell HW.out.boxx 4).trans rfl, (HW.out.below.cell (World.block_lt_of_cell? w _ HY.out.1)).trans HY.out.1, (HW.out.below.cell (World.block_lt_of_cell? w _ HY.out.2.1)).trans HY.out.2.1, (HW.out.below.cell (World.block_lt_of_cell? w _ HY.out.2.2.1)).trans HY.out.2.2.1, (HW.out.below.cell (World.block_lt_of_cell? w _ HY.out.2.2.2.1)).trans HY.out.2.2.2.1, (HW.out.below.cell (World.block_lt_of_cell? w _ HY.out.2.2.2.2)).trans HY.out.2.2.2.2⟩ (fun hHeld => ?_)
          clear hK K
          refine norm_ (a' := ?_) ?_ ?_; rotate_left; (· (show Act.put _ (some 23) _ = _; simp only [np]; rfl))
          refine two_ (i := 4) (j := 12) (Ni := some 24) (Nj := some 32) (bl 18 4095) (bl 18 8175) rfl rfl rfl rfl (by kernel_rfl) (by decide) (by decide) (fun K hK => ?_) (fun K hK => ?_)
          · skip
            refine Kd.R_append_rows_step Kd.string (w0 := _) (w.heap.size + 2) (by rfl) _ _ 22 9 (.string ⟨#[]⟩) 16 rfl Tryz.underlying22 info9 rfl (by decide) (by omega) (.slice P3 K3 q3) ks [key] (some ⟨_, 0, none⟩) 1 1 (fun _ => True) (fun _ => False) (by rfl) (by rfl) (Kd.R_mono (HW.out.r3 _ _ rfl) fun _ _ => trivial) (Rr := fun x cs => cs = [Value.string x]) HL3.out.reads (fun x cs h => h) (fun _ h => h.elim) (fun _ _ => trivial) (Below.refl _ _) HW.out.size (by have h1 := HKL.out.2.2; have h2 := H.out.2.2.1; have h3 := HKL.out.1; have h4 := HKL.out.2.1; omega) ?_
            intro v1 w1 hr1 hb1 hg1 hat1
            obtain ⟨P5, q5, rfl⟩ : ∃ A c, v1 = .slice A (K3 + 1) c := by obtain ⟨A, c, e⟩ := Kd.R_slice hr1; exact ⟨A, c, by rw [e, List.length_append, ← HKL.out.1]; rfl⟩
            have HW := Lib.hid (HW.out.grow3 hr1 hg1 hat1)
            clear hr1 hb1 hg1 hat1
            refine hK.out _ _ ⟨(blk_cell (HW.out.rg _ _ rfl).1 3).trans rfl, (blk_cell (HW.out.rg _ _ rfl).1 4).trans rfl, (blk_cell HW.out.boxx 4).trans rfl, (HW.out.below.cell (World.block_lt_of_cell? w _ HY.out.1)).trans HY.out.1, (HW.out.below.cell (World.block_lt_of_cell? w _ HY.out.2.1)).trans HY.out.2.1, (HW.out.below.cell (World.block_lt_of_cell? w _ HY.out.2.2.1)).trans HY.out.2.2.1, (HW.out.below.cell (World.block_lt_of_cell? w _ HY.out.2.2.2.1)).trans HY.out.2.2.2.1, (HW.out.below.cell (World.block_lt_of_cell? w _ HY.out.2.2.2.2)).trans HY.out.2.2.2.2⟩ (fun hHeld => ?_)
            clear hK K
            refine norm_ (a' := ?_) ?_ ?_; rotate_left; (· (show Act.put _ (some 24) _ = _; simp only [np]; rfl))
            refine pure_ (i := 14) (N := some 34) (v := ?_) (a' := ?_) (bl 18 20479) rfl rfl (by kernel_rfl) (fun _ _ _ h => h) (Or.inl ⟨by rfl, ?_⟩) ?_ ?_; rotate_left; (· (intro w'; go_simp; with_reducible rfl)); rotate_left; (· (simp only [np]; rfl))
            refine one_ (i := 12) (N := some 32) (bl 18 24575) rfl rfl (by kernel_rfl) (by decide) (fun K hK => ?_)
            refine value_ (w1 := ?_) (v := ?_) (by rfl) rfl ?_ ?_
            rotate_left 2
            · go_simp
              constructor
              · rfl
              · rfl
            obtain ⟨gg, hgg, hw⟩ := HW.out.mk4 #[.int .i64 y.f0, .string y.f1, .string y.f2, .slice B3 y.f3.length d3, .slice B4 y.f4.length d4]
            try simp at hgg
            subst hgg
            have HL4 := Lib.hid hw
            clear hw
            have HW := Lib.hid (HW.out.under (below_alloc (Below.refl _ _) (.cells #[.int .i64 y.f0, .string y.f1, .string y.f2, .slice B3 y.f3.length d3, .slice B4 y.f4.length d4] 25)))
            refine hK.out _ _ ⟨(blk_cell (HW.out.rg _ _ rfl).1 3).trans rfl, (blk_cell (HW.out.rg _ _ rfl).1 4).trans rfl, (blk_cell HW.out.boxx 4).trans rfl, (HW.out.below.cell (World.block_lt_of_cell? w _ HY.out.1)).trans HY.out.1, (HW.out.below.cell (World.block_lt_of_cell? w _ HY.out.2.1)).trans HY.out.2.1, (HW.out.below.cell (World.block_lt_of_cell? w _ HY.out.2.2.1)).trans HY.out.2.2.1, (HW.out.below.cell (World.block_lt_of_cell? w _ HY.out.2.2.2.1)).trans HY.out.2.2.2.1, (HW.out.below.cell (World.block_lt_of_cell? w _ HY.out.2.2.2.2)).trans HY.out.2.2.2.2⟩ (fun hHeld => ?_)
            clear hK K
            refine norm_ (a' := ?_) ?_ ?_; rotate_left; (· (show Act.put _ (some 32) _ = _; simp only [np]; rfl))
            refine one_ (i := 13) (N := some 33) (bl 18 32767) rfl rfl (by kernel_rfl) (by decide) (fun K hK => ?_)
            refine Kd.N_append_rows_step k25 (w0 := _) (w.heap.size + 2) (by rfl) _ _ 23 25 (.agg #[(.int .i64 0), (.string ⟨#[]⟩), (.string ⟨#[]⟩), (.slice none 0 0), (.slice none 0 0)]) 88 rfl Tryz.underlying23 info25 rfl (by decide) (by omega) (.slice P4 K4 q4) vs [y] (some ⟨_, 0, none⟩) 1 1 (okO w PP _ _) _ (by rfl) (by rfl) (HW.out.r4 _ _ rfl) (HL4.out.reads (HND.out.bound.below HW.out.below)) (HW.out.okl HL4.out) HW.out.fresh (Below.refl _ _) HW.out.size (by have h1 := HKL.out.2.2; have h2 := H.out.2.2.1; have h3 := HKL.out.1; have h4 := HKL.out.2.1; omega) ?_
            intro v1 w1 hr1 hb1 hg1 hat1
            obtain ⟨P6, q6, rfl⟩ : ∃ A c, v1 = .slice A (K4 + 1) c := by obtain ⟨A, c, e⟩ := Kd.N_slice hr1; exact ⟨A, c, by rw [e, List.length_append, ← HKL.out.2.1]; rfl⟩
            have HW := Lib.hid (HW.out.grow4 hr1 hg1)
            clear hr1 hb1 hg1 hat1
            refine hK.out _ _ ⟨(blk_cell (HW.out.rg _ _ rfl).1 3).trans rfl, (blk_cell (HW.out.rg _ _ rfl).1 4).trans rfl, (blk_cell HW.out.boxx 4).trans rfl, (HW.out.below.cell (World.block_lt_of_cell? w _ HY.out.1)).trans HY.out.1, (HW.out.below.cell (World.block_lt_of_cell? w _ HY.out.2.1)).trans HY.out.2.1, (HW.out.below.cell (World.block_lt_of_cell? w _ HY.out.2.2.1)).trans HY.out.2.2.1, (HW.out.below.cell (World.block_lt_of_cell? w _ HY.out.2.2.2.1)).trans HY.out.2.2.2.1, (HW.out.below.cell (World.block_lt_of_cell? w _ HY.out.2.2.2.2)).trans HY.out.2.2.2.2⟩ (fun hHeld => ?_)
            clear hK K
            refine norm_ (a' := ?_) ?_ ?_; rotate_left; (· (show Act.put _ (some 33) _ = _; simp only [np]; rfl))
            refine last_ (i := 15) (N := none) (bl 18 65535) rfl rfl (by kernel_rfl) (by decide) (fun K hK => ?_)
            have hz := blk_frozen (HW.out.rg _ _ rfl).1 3
            have hq := blk_cell (HW.out.rg _ _ rfl).1 3
            refine skip_ (w1 := ?_) (by rfl) rfl ?_ ?_
            rotate_left
            · go_simp
              rfl
            have HW := Lib.hid (HW.out.put3 (.slice P5 (K3 + 1) q5))
            clear hz hq
            refine hK.out _ _ ?_
            clear hK K
            refine pure_ (i := 16) (N := some 35) (v := ?_) (a' := ?_) (bl 18 131071) rfl rfl (by kernel_rfl) (fun _ _ _ h => h) (Or.inl ⟨by rfl, ?_⟩) ?_ ?_; rotate_left; (· (intro w'; go_simp; with_reducible rfl)); rotate_left; (· (simp only [np]; rfl))
            refine last_ (i := 17) (N := none) (bl 18 262143) rfl rfl (by kernel_rfl) (by decide) (fun K hK => ?_)
            have hz := blk_frozen (HW.out.rg _ _ rfl).1 4
            have hq := blk_cell (HW.out.rg _ _ rfl).1 4
            refine skip_ (w1 := ?_) (by rfl) rfl ?_ ?_
            rotate_left
            · go_simp
              rfl
            have HW := Lib.hid (HW.out.put4 (.slice P6 (K4 + 1) q6))
            clear hz hq
            refine hK.out _ _ ?_
            clear hK K
            refine done_ (by kernel_rfl) ?_
            go_wp2_with fail
            go_roundg (gk - 1)
            case measure => omega
            case rel => exact ⟨j + 1, by omega, by go_num, Lib.hid ⟨P5, q5, P6, q6, K3 + 1, K4 + 1, ks ++ [key], vs ++ [y], by rw [HKS.out.1, cutA_snoc HK.out.1 HK.out.2 hne0], by rw [HKS.out.2, cutB_snoc HK.out.1 HK.out.2 hne0], by rw [List.length_append, ← HKL.out.1]; rfl, by rw [List.length_append, ← HKL.out.2.1]; rfl, HW.out⟩⟩
          · skip
            refine value_ (w1 := ?_) (v := ?_) (by rfl) rfl ?_ ?_
            rotate_left 2
            · go_simp
              constructor
              · rfl
              · rfl
            obtain ⟨gg, hgg, hw⟩ := HW.out.mk4 #[.int .i64 y.f0, .string y.f1, .string y.f2, .slice B3 y.f3.length d3, .slice B4 y.f4.length d4]
            try simp at hgg
            subst hgg
            have HL4 := Lib.hid hw
            clear hw
            have HW := Lib.hid (HW.out.under (below_alloc (Below.refl _ _) (.cells #[.int .i64 y.f0, .string y.f1, .string y.f2, .slice B3 y.f3.length d3, .slice B4 y.f4.length d4] 25)))
            have HL3 := Lib.hid (HL3.out.under (below_alloc (Below.refl _ _) (.cells #[.int .i64 y.f0, .string y.f1, .string y.f2, .slice B3 y.f3.length d3, .slice B4 y.f4.length d4] 25)))
            refine hK.out _ _ ⟨(blk_cell (HW.out.rg _ _ rfl).1 3).trans rfl, (blk_cell (HW.out.rg _ _ rfl).1 4).trans rfl, (blk_cell HW.out.boxx 4).trans rfl, (HW.out.below.cell (World.block_lt_of_cell? w _ HY.out.1)).trans HY.out.1, (HW.out.below.cell (World.block_lt_of_cell? w _ HY.out.2.1)).trans HY.out.2.1, (HW.out.below.cell (World.block_lt_of_cell? w _ HY.out.2.2.1)).trans HY.out.2.2.1, (HW.out.below.cell (World.block_lt_of_cell? w _ HY.out.2.2.2.1)).trans HY.out.2.2.2.1, (HW.out.below.cell (World.block_lt_of_cell? w _ HY.out.2.2.2.2)).trans HY.out.2.2.2.2⟩ (fun hHeld => ?_)
            clear hK K
            refine norm_ (a' := ?_) ?_ ?_; rotate_left; (· (show Act.put _ (some 32) _ = _; simp only [np]; rfl))
            refine one_ (i := 4) (N := some 24) (bl 18 8191) rfl rfl (by kernel_rfl) (by decide) (fun K hK => ?_)
            refine Kd.R_append_rows_step Kd.string (w0 := _) (w.heap.size + 2) (by rfl) _ _ 22 9 (.string ⟨#[]⟩) 16 rfl Tryz.underlying22 info9 rfl (by decide) (by omega) (.slice P3 K3 q3) ks [key] (some ⟨_, 0, none⟩) 1 1 (fun _ => True) (fun _ => False) (by rfl) (by rfl) (Kd.R_mono (HW.out.r3 _ _ rfl) fun _ _ => trivial) (Rr := fun x cs => cs = [Value.string x]) HL3.out.reads (fun x cs h => h) (fun _ h => h.elim) (fun _ _ => trivial) (Below.refl _ _) HW.out.size (by have h1 := HKL.out.2.2; have h2 := H.out.2.2.1; have h3 := HKL.out.1; have h4 := HKL.out.2.1; omega) ?_
            intro v1 w1 hr1 hb1 hg1 hat1
            obtain ⟨P5, q5, rfl⟩ : ∃ A c, v1 = .slice A (K3 + 1) c := by obtain ⟨A, c, e⟩ := Kd.R_slice hr1; exact ⟨A, c, by rw [e, List.length_append, ← HKL.out.1]; rfl⟩
            have HL4 := Lib.hid (HL4.out.grown HW.out hg1)
            have HW := Lib.hid (HW.out.grow3 hr1 hg1 hat1)
            clear hr1 hb1 hg1 hat1
            refine hK.out _ _ ⟨(blk_cell (HW.out.rg _ _ rfl).1 3).trans rfl, (blk_cell (HW.out.rg _ _ rfl).1 4).trans rfl, (blk_cell HW.out.boxx 4).trans rfl, (HW.out.below.cell (World.block_lt_of_cell? w _ HY.out.1)).trans HY.out.1, (HW.out.below.cell (World.block_lt_of_cell? w _ HY.out.2.1)).trans HY.out.2.1, (HW.out.below.cell (World.block_lt_of_cell? w _ HY.out.2.2.1)).trans HY.out.2.2.1, (HW.out.below.cell (World.block_lt_of_cell? w _ HY.out.2.2.2.1)).trans HY.out.2.2.2.1, (HW.out.below.cell (World.block_lt_of_cell? w _ HY.out.2.2.2.2)).trans HY.out.2.2.2.2⟩ (fun hHeld => ?_)
            clear hK K
            refine norm_ (a' := ?_) ?_ ?_; rotate_left; (· (show Act.put _ (some 24) _ = _; simp only [np]; rfl))
            refine pure_ (i := 14) (N := some 34) (v := ?_) (a' := ?_) (bl 18 24575) rfl rfl (by kernel_rfl) (fun _ _ _ h => h) (Or.inl ⟨by rfl, ?_⟩) ?_ ?_; rotate_left; (· (intro w'; go_simp; with_reducible rfl)); rotate_left; (· (simp only [np]; rfl))
            refine one_ (i := 13) (N := some 33) (bl 18 32767) rfl rfl (by kernel_rfl) (by decide) (fun K hK => ?_)
            refine Kd.N_append_rows_step k25 (w0 := _) (w.heap.size + 2) (by rfl) _ _ 23 25 (.agg #[(.int .i64 0), (.string ⟨#[]⟩), (.string ⟨#[]⟩), (.slice none 0 0), (.slice none 0 0)]) 88 rfl Tryz.underlying23 info25 rfl (by decide) (by omega) (.slice P4 K4 q4) vs [y] (some ⟨_, 0, none⟩) 1 1 (okO w PP _ _) _ (by rfl) (by rfl) (HW.out.r4 _ _ rfl) (HL4.out.reads (HND.out.bound.below HW.out.below)) (HW.out.okl HL4.out) HW.out.fresh (Below.refl _ _) HW.out.size (by have h1 := HKL.out.2.2; have h2 := H.out.2.2.1; have h3 := HKL.out.1; have h4 := HKL.out.2.1; omega) ?_
            intro v1 w1 hr1 hb1 hg1 hat1
            obtain ⟨P6, q6, rfl⟩ : ∃ A c, v1 = .slice A (K4 + 1) c := by obtain ⟨A, c, e⟩ := Kd.N_slice hr1; exact ⟨A, c, by rw [e, List.length_append, ← HKL.out.2.1]; rfl⟩
            have HW := Lib.hid (HW.out.grow4 hr1 hg1)
            clear hr1 hb1 hg1 hat1
            refine hK.out _ _ ⟨(blk_cell (HW.out.rg _ _ rfl).1 3).trans rfl, (blk_cell (HW.out.rg _ _ rfl).1 4).trans rfl, (blk_cell HW.out.boxx 4).trans rfl, (HW.out.below.cell (World.block_lt_of_cell? w _ HY.out.1)).trans HY.out.1, (HW.out.below.cell (World.block_lt_of_cell? w _ HY.out.2.1)).trans HY.out.2.1, (HW.out.below.cell (World.block_lt_of_cell? w _ HY.out.2.2.1)).trans HY.out.2.2.1, (HW.out.below.cell (World.block_lt_of_cell? w _ HY.out.2.2.2.1)).trans HY.out.2.2.2.1, (HW.out.below.cell (World.block_lt_of_cell? w _ HY.out.2.2.2.2)).trans HY.out.2.2.2.2⟩ (fun hHeld => ?_)
            clear hK K
            refine norm_ (a' := ?_) ?_ ?_; rotate_left; (· (show Act.put _ (some 33) _ = _; simp only [np]; rfl))
            refine last_ (i := 15) (N := none) (bl 18 65535) rfl rfl (by kernel_rfl) (by decide) (fun K hK => ?_)
            have hz := blk_frozen (HW.out.rg _ _ rfl).1 3
            have hq := blk_cell (HW.out.rg _ _ rfl).1 3
            refine skip_ (w1 := ?_) (by rfl) rfl ?_ ?_
            rotate_left
            · go_simp
              rfl
            have HW := Lib.hid (HW.out.put3 (.slice P5 (K3 + 1) q5))
            clear hz hq
            refine hK.out _ _ ?_
            clear hK K
            refine pure_ (i := 16) (N := some 35) (v := ?_) (a' := ?_) (bl 18 131071) rfl rfl (by kernel_rfl) (fun _ _ _ h => h) (Or.inl ⟨by rfl, ?_⟩) ?_ ?_; rotate_left; (· (intro w'; go_simp; with_reducible rfl)); rotate_left; (· (simp only [np]; rfl))
            refine last_ (i := 17) (N := none) (bl 18 262143) rfl rfl (by kernel_rfl) (by decide) (fun K hK => ?_)
            have hz := blk_frozen (HW.out.rg _ _ rfl).1 4
            have hq := blk_cell (HW.out.rg _ _ rfl).1 4
            refine skip_ (w1 := ?_) (by rfl) rfl ?_ ?_
            rotate_left
            · go_simp
              rfl
            have HW := Lib.hid (HW.out.put4 (.slice P6 (K4 + 1) q6))
            clear hz hq
            refine hK.out _ _ ?_
            clear hK K
            refine done_ (by kernel_rfl) ?_
            go_wp2_with fail
            go_roundg (gk - 1)
            case measure => omega
            case rel => exact ⟨j + 1, by omega, by go_num, Lib.hid ⟨P5, q5, P6, q6, K3 + 1, K4 + 1, ks ++ [key], vs ++ [y], by rw [HKS.out.1, cutA_snoc HK.out.1 HK.out.2 hne0], by rw [HKS.out.2, cutB_snoc HK.out.1 HK.out.2 hne0], by rw [List.length_append, ← HKL.out.1]; rfl, by rw [List.length_append, ← HKL.out.2.1]; rfl, HW.out⟩⟩
        · skip
          refine value_ (w1 := ?_) (v := ?_) (by rfl) rfl ?_ ?_
          rotate_left 2
          · go_simp
            constructor
            · rfl
            · rfl
          obtain ⟨gg, hgg, hw⟩ := HW.out.mk4 #[.int .i64 y.f0, .string y.f1, .string y.f2, .slice B3 y.f3.length d3, .slice B4 y.f4.length d4]
          try simp at hgg
          subst hgg
          have HL4 := Lib.hid hw
          clear hw
          have HW := Lib.hid (HW.out.under (below_alloc (Below.refl _ _) (.cells #[.int .i64 y.f0, .string y.f1, .string y.f2, .slice B3 y.f3.length d3, .slice B4 y.f4.length d4] 25)))
          refine hK.out _ _ ⟨(blk_cell (HW.out.rg _ _ rfl).1 3).trans rfl, (blk_cell (HW.out.rg _ _ rfl).1 4).trans rfl, (blk_cell HW.out.boxx 4).trans rfl, (HW.out.below.cell (World.block_lt_of_cell? w _ HY.out.1)).trans HY.out.1, (HW.out.below.cell (World.block_lt_of_cell? w _ HY.out.2.1)).trans HY.out.2.1, (HW.out.below.cell (World.block_lt_of_cell? w _ HY.out.2.2.1)).trans HY.out.2.2.1, (HW.out.below.cell (World.block_lt_of_cell? w _ HY.out.2.2.2.1)).trans HY.out.2.2.2.1, (HW.out.below.cell (World.block_lt_of_cell? w _ HY.out.2.2.2.2)).trans HY.out.2.2.2.2⟩ (fun hHeld => ?_)
          clear hK K
          refine norm_ (a' := ?_) ?_ ?_; rotate_left; (· (show Act.put _ (some 32) _ = _; simp only [np]; rfl))
          refine one_ (i := 3) (N := some 23) (bl 18 8175) rfl rfl (by kernel_rfl) (by decide) (fun K hK => ?_)
          refine value_ (w1 := ?_) (v := ?_) (by rfl) rfl ?_ ?_
          rotate_left 2
          · go_simp
            constructor
            · rfl
            · rfl
          obtain ⟨gg, hgg, hw⟩ := HW.out.mk3 key
          try simp at hgg
          subst hgg
          have HL3 := Lib.hid hw
          clear hw
          have HW := Lib.hid (HW.out.under (below_alloc (Below.refl _ _) (.cells #[.string key] 9)))
          have HL4 := Lib.hid (HL4.out.under (below_alloc (Below.refl _ _) (.cells #[.string key] 9)))
          refine hK.out _ _ ⟨(blk_cell (HW.out.rg _ _ rfl).1 3).trans rfl, (blk_cell (HW.out.rg _ _ rfl).1 4).trans rfl, (blk_cell HW.out.boxx 4).trans rfl, (HW.out.below.cell (World.block_lt_of_cell? w _ HY.out.1)).trans HY.out.1, (HW.out.below.cell (World.block_lt_of_cell? w _ HY.out.2.1)).trans HY.out.2.1, (HW.out.below.cell (World.block_lt_of_cell? w _ HY.out.2.2.1)).trans HY.out.2.2.1, (HW.out.below.cell (World.block_lt_of_cell? w _ HY.out.2.2.2.1)).trans HY.out.2.2.2.1, (HW.out.below.cell (World.block_lt_of_cell? w _ HY.out.2.2.2.2)).trans HY.out.2.2.2.2⟩ (fun hHeld => ?_)
          clear hK K
          refine norm_ (a' := ?_) ?_ ?_; rotate_left; (· (show Act.put _ (some 23) _ = _; simp only [np]; rfl))
          refine one_ (i := 4) (N := some 24) (bl 18 8191) rfl rfl (by kernel_rfl) (by decide) (fun K hK => ?_)
          refine Kd.R_append_rows_step Kd.string (w0 := _) (w.heap.size + 2) (by rfl) _ _ 22 9 (.string ⟨#[]⟩) 16 rfl Tryz.underlying22 info9 rfl (by decide) (by omega) (.slice P3 K3 q3) ks [key] (some ⟨_, 0, none⟩) 1 1 (fun _ => True) (fun _ => False) (by rfl) (by rfl) (Kd.R_mono (HW.out.r3 _ _ rfl) fun _ _ => trivial) (Rr := fun x cs => cs = [Value.string x]) HL3.out.reads (fun x cs h => h) (fun _ h => h.elim) (fun _ _ => trivial) (Below.refl _ _) HW.out.size (by have h1 := HKL.out.2.2; have h2 := H.out.2.2.1; have h3 := HKL.out.1; have h4 := HKL.out.2.1; omega) ?_
          intro v1 w1 hr1 hb1 hg1 hat1
          obtain ⟨P5, q5, rfl⟩ : ∃ A c, v1 = .slice A (K3 + 1) c := by obtain ⟨A, c, e⟩ := Kd.R_slice hr1; exact ⟨A, c, by rw [e, List.length_append, ← HKL.out.1]; rfl⟩
          have HL4 := Lib.hid (HL4.out.grown HW.out hg1)
          have HW := Lib.hid (HW.out.grow3 hr1 hg1 hat1)
          clear hr1 hb1 hg1 hat1
          refine hK.out _ _ ⟨(blk_cell (HW.out.rg _ _ rfl).1 3).trans rfl, (blk_cell (HW.out.rg _ _ rfl).1 4).trans rfl, (blk_cell HW.out.boxx 4).trans rfl, (HW.out.below.cell (World.block_lt_of_cell? w _ HY.out.1)).trans HY.out.1, (HW.out.below.cell (World.block_lt_of_cell? w _ HY.out.2.1)).trans HY.out.2.1, (HW.out.below.cell (World.block_lt_of_cell? w _ HY.out.2.2.1)).trans HY.out.2.2.1, (HW.out.below.cell (World.block_lt_of_cell? w _ HY.out.2.2.2.1)).trans HY.out.2.2.2.1, (HW.out.below.cell (World.block_lt_of_cell? w _ HY.out.2.2.2.2)).trans HY.out.2.2.2.2⟩ (fun hHeld => ?_)
          clear hK K
          refine norm_ (a' := ?_) ?_ ?_; rotate_left; (· (show Act.put _ (some 24) _ = _; simp only [np]; rfl))
          refine pure_ (i := 14) (N := some 34) (v := ?_) (a' := ?_) (bl 18 24575) rfl rfl (by kernel_rfl) (fun _ _ _ h => h) (Or.inl ⟨by rfl, ?_⟩) ?_ ?_; rotate_left; (· (intro w'; go_simp; with_reducible rfl)); rotate_left; (· (simp only [np]; rfl))
          refine one_ (i := 13) (N := some 33) (bl 18 32767) rfl rfl (by kernel_rfl) (by decide) (fun K hK => ?_)
          refine Kd.N_append_rows_step k25 (w0 := _) (w.heap.size + 2) (by rfl) _ _ 23 25 (.agg #[(.int .i64 0), (.string ⟨#[]⟩), (.string ⟨#[]⟩), (.slice none 0 0), (.slice none 0 0)]) 88 rfl Tryz.underlying23 info25 rfl (by decide) (by omega) (.slice P4 K4 q4) vs [y] (some ⟨_, 0, none⟩) 1 1 (okO w PP _ _) _ (by rfl) (by rfl) (HW.out.r4 _ _ rfl) (HL4.out.reads (HND.out.bound.below HW.out.below)) (HW.out.okl HL4.out) HW.out.fresh (Below.refl _ _) HW.out.size (by have h1 := HKL.out.2.2; have h2 := H.out.2.2.1; have h3 := HKL.out.1; have h4 := HKL.out.2.1; omega) ?_
          intro v1 w1 hr1 hb1 hg1 hat1
          obtain ⟨P6, q6, rfl⟩ : ∃ A c, v1 = .slice A (K4 + 1) c := by obtain ⟨A, c, e⟩ := Kd.N_slice hr1; exact ⟨A, c, by rw [e, List.length_append, ← HKL.out.2.1]; rfl⟩
          have HW := Lib.hid (HW.out.grow4 hr1 hg1)
          clear hr1 hb1 hg1 hat1
          refine hK.out _ _ ⟨(blk_cell (HW.out.rg _ _ rfl).1 3).trans rfl, (blk_cell (HW.out.rg _ _ rfl).1 4).trans rfl, (blk_cell HW.out.boxx 4).trans rfl, (HW.out.below.cell (World.block_lt_of_cell? w _ HY.out.1)).trans HY.out.1, (HW.out.below.cell (World.block_lt_of_cell? w _ HY.out.2.1)).trans HY.out.2.1, (HW.out.below.cell (World.block_lt_of_cell? w _ HY.out.2.2.1)).trans HY.out.2.2.1, (HW.out.below.cell (World.block_lt_of_cell? w _ HY.out.2.2.2.1)).trans HY.out.2.2.2.1, (HW.out.below.cell (World.block_lt_of_cell? w _ HY.out.2.2.2.2)).trans HY.out.2.2.2.2⟩ (fun hHeld => ?_)
          clear hK K
          refine norm_ (a' := ?_) ?_ ?_; rotate_left; (· (show Act.put _ (some 33) _ = _; simp only [np]; rfl))
          refine last_ (i := 15) (N := none) (bl 18 65535) rfl rfl (by kernel_rfl) (by decide) (fun K hK => ?_)
          have hz := blk_frozen (HW.out.rg _ _ rfl).1 3
          have hq := blk_cell (HW.out.rg _ _ rfl).1 3
          refine skip_ (w1 := ?_) (by rfl) rfl ?_ ?_
          rotate_left
          · go_simp
            rfl
          have HW := Lib.hid (HW.out.put3 (.slice P5 (K3 + 1) q5))
          clear hz hq
          refine hK.out _ _ ?_
          clear hK K
          refine pure_ (i := 16) (N := some 35) (v := ?_) (a' := ?_) (bl 18 131071) rfl rfl (by kernel_rfl) (fun _ _ _ h => h) (Or.inl ⟨by rfl, ?_⟩) ?_ ?_; rotate_left; (· (intro w'; go_simp; with_reducible rfl)); rotate_left; (· (simp only [np]; rfl))
          refine last_ (i := 17) (N := none) (bl 18 262143) rfl rfl (by kernel_rfl) (by decide) (fun K hK => ?_)
          have hz := blk_frozen (HW.out.rg _ _ rfl).1 4
          have hq := blk_cell (HW.out.rg _ _ rfl).1 4
          refine skip_ (w1 := ?_) (by rfl) rfl ?_ ?_
          rotate_left
          · go_simp
            rfl
          have HW := Lib.hid (HW.out.put4 (.slice P6 (K4 + 1) q6))
          clear hz hq
          refine hK.out _ _ ?_
          clear hK K
          refine done_ (by kernel_rfl) ?_
          go_wp2_with fail
          go_roundg (gk - 1)
          case measure => omega
          case rel => exact ⟨j + 1, by omega, by go_num, Lib.hid ⟨P5, q5, P6, q6, K3 + 1, K4 + 1, ks ++ [key], vs ++ [y], by rw [HKS.out.1, cutA_snoc HK.out.1 HK.out.2 hne0], by rw [HKS.out.2, cutB_snoc HK.out.1 HK.out.2 hne0], by rw [List.length_append, ← HKL.out.1]; rfl, by rw [List.length_append, ← HKL.out.2.1]; rfl, HW.out⟩⟩
    · have hqe : ¬ ((j : Int) < (L3 : Int)) := by omega
      have hqe' : ¬ (j < L3) := by omega
      have HT := Lib.hid (show ks = cutA name f3 f4 ∧ vs = cutB name f3 f4 from by
        have h1 := H.out.2.2.2.1
        have h2 := H.out.2.2.2.2
        have h3 : f3.length = f4.length := H.out.2.1
        rw [List.take_of_length_le (by omega), List.take_of_length_le (by omega)] at hks hvs
        exact ⟨hks, hvs⟩)
      have k0 := (blk_cell (HW.out.rg _ _ rfl).1 0).trans (show _ = some (.int .i64 2) from rfl)
      have k1 := (blk_cell (HW.out.rg _ _ rfl).1 1).trans (show _ = some (.string noStr) from rfl)
      have k2 := (blk_cell (HW.out.rg _ _ rfl).1 2).trans (show _ = some (.string noStr) from rfl)
      have k3 := (blk_cell (HW.out.rg _ _ rfl).1 3).trans (show _ = some (.slice P3 K3 q3) from rfl)
      have k4 := (blk_cell (HW.out.rg _ _ rfl).1 4).trans (show _ = some (.slice P4 K4 q4) from rfl)
      have r0 := (blk_cell HW.out.boxr 0).trans (show _ = some (.int .i64 0) from rfl)
      have rz0 := blk_frozen HW.out.boxr 0
      have r1 := (blk_cell HW.out.boxr 1).trans (show _ = some (.string noStr) from rfl)
      have rz1 := blk_frozen HW.out.boxr 1
      have r2 := (blk_cell HW.out.boxr 2).trans (show _ = some (.string noStr) from rfl)
      have rz2 := blk_frozen HW.out.boxr 2
      have r3 := (blk_cell HW.out.boxr 3).trans (show _ = some (nilS) from rfl)
      have rz3 := blk_frozen HW.out.boxr 3
      have r4 := (blk_cell HW.out.boxr 4).trans (show _ = some (nilS) from rfl)
      have rz4 := blk_frozen HW.out.boxr 4
      clear hks hvs hk3 hk4 hw hI
      go_wp2_with fail
      have hfin := HW.out.fin 2 noStr noStr (.int .i64 2) (.string noStr) (.string noStr) (.slice P3 K3 q3) (.slice P4 K4 q4) rfl
      refine bodyPost_ret (results_cell_row rfl _ _ (w.heap.size + 1) 25 #[.int .i64 2, .string noStr, .string noStr, .slice P3 K3 q3, .slice P4 K4 q4] (0, 0) _ rfl hfin.1 Tryz.underlying25 rfl (by kernel_rfl)) rfl ?_
      have he : cutN name ⟨f0, f1, f2, f3, f4⟩ = ⟨2, noStr, noStr, ks, vs⟩ := by rw [HT.out.1, HT.out.2]; rfl
      refine ⟨P3, q3, P4, q4, ?_, ?_, hfin.2.2.1⟩
      · rw [he]
        simp only [ndV, ← hfin.2.2.2.1, ← hfin.2.2.2.2]
      · rw [he]
        exact hfin.2.1
end Go.Proofs.YtghmajlfmoggfaaGreat
