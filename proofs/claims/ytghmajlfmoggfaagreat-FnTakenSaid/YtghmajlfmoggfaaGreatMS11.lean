import Derived.Test.YtghmajlfmoggfaaGreatMS8
import Derived.Test.YtghmajlfmoggfaaGreatMG7
set_option linter.unusedSimpArgs false
set_option linter.unusedVariables false
namespace Go.Proofs.YtghmajlfmoggfaaGreat
open Go.RowKit Go.Proofs.YtghmajlfmoggfaaGreatW.PrintWords Go.Proofs.YtghmajlfmoggfaaGreatW.PrintLast PFnMerge
theorem zip_fs (L : List (ByteArray × S25)) : (L.map (·.1)).zip (L.map (·.2)) = L := by
  induction L with
  | nil => rfl
  | cons a r ih => simp only [List.map_cons, List.zip_cons_cons, ih]
theorem bt_ne {a b : ByteArray} : (a.toList == b.toList) = false ↔ b ≠ a := by
  constructor
  · rintro h rfl
    simp at h
  · intro h
    cases e : (a.toList == b.toList) with
    | false => rfl
    | true => exact absurd (hasKey_iff (name := a) (c := ⟨b, 0, 0, z25, fun _ => False⟩) |>.1 e) h
theorem fld_cut {nm : ByteArray} {y : S25} {key : ByteArray} {v : S25} : fld (cutN nm y) key v ↔ fld y key v ∧ key ≠ nm := by
  unfold fld cutN
  simp only
  rw [zip_fs, List.mem_filter]
  refine and_congr_right fun _ => ?_
  rw [Bool.not_eq_true', bt_ne]
theorem cutA_sub (nm : ByteArray) (l3 : List ByteArray) (l4 : List S25) : (cutA nm l3 l4).Sublist l3 := by
  unfold cutA
  induction l3 generalizing l4 with
  | nil => simp
  | cons a r ih =>
    cases l4 with
    | nil => simp
    | cons b s =>
      rw [List.zip_cons_cons, List.filter_cons]
      split
      · exact (ih s).cons_cons a
      · exact (ih s).cons a
theorem cutN_key {nm : ByteArray} {y : S25} (hl : y.f3.length = y.f4.length) {key : ByteArray} : key ∈ (cutN nm y).f3 ↔ key ∈ y.f3 ∧ key ≠ nm := by
  constructor
  · intro h
    obtain ⟨v, hv⟩ := fld_has (x := cutN nm y) (by simp [cutN]) h
    obtain ⟨h1, h2⟩ := fld_cut.1 hv
    exact ⟨fld_key h1, h2⟩
  · rintro ⟨h1, h2⟩
    obtain ⟨v, hv⟩ := fld_has hl h1
    exact fld_key (fld_cut.2 ⟨hv, h2⟩)
theorem cutN_len (nm : ByteArray) (y : S25) : (cutN nm y).f3.length = (cutN nm y).f4.length := by simp [cutN]
theorem cutN_nodup {nm : ByteArray} {y : S25} (h : y.f3.Nodup) : (cutN nm y).f3.Nodup := (cutA_sub nm y.f3 y.f4).nodup h
theorem cut_none {nm : ByteArray} : ∀ {l3 : List ByteArray} {l4 : List S25}, l3.length = l4.length → nm ∉ l3 → cutA nm l3 l4 = l3 ∧ cutB nm l3 l4 = l4 := by
  intro l3
  induction l3 with
  | nil =>
    intro l4 hl _
    cases l4 with
    | nil => exact ⟨rfl, rfl⟩
    | cons b s => simp at hl
  | cons a r ih =>
    intro l4 hl hn
    cases l4 with
    | nil => simp at hl
    | cons b s =>
      simp only [List.mem_cons, not_or] at hn
      obtain ⟨h1, h2⟩ := ih (l4 := s) (by simpa using hl) hn.2
      have e : (nm.toList == a.toList) = false := bt_ne.2 fun e => hn.1 e.symm
      unfold cutA cutB at *
      rw [List.zip_cons_cons, List.filter_cons]
      simp only [e, Bool.not_false, if_true, List.map_cons, h1, h2, and_self]
theorem cut_idx {nm : ByteArray} : ∀ {l3 : List ByteArray} {l4 : List S25} {i : Nat}, l3.length = l4.length → l3.Nodup → l3[i]? = some nm → cutA nm l3 l4 = l3.eraseIdx i ∧ cutB nm l3 l4 = l4.eraseIdx i := by
  intro l3
  induction l3 with
  | nil => intro l4 i _ _ h; simp at h
  | cons a r ih =>
    intro l4 i hl hn hi
    cases l4 with
    | nil => simp at hl
    | cons b s =>
      rw [List.nodup_cons] at hn
      have hl' : r.length = s.length := by simpa using hl
      cases i with
      | zero =>
        simp only [List.getElem?_cons_zero, Option.some.injEq] at hi
        subst hi
        obtain ⟨h1, h2⟩ := cut_none (nm := a) hl' hn.1
        unfold cutA cutB at *
        rw [List.zip_cons_cons, List.filter_cons]
        simp only [beq_self_eq_true, Bool.not_true, Bool.false_eq_true, if_false, h1, h2, List.eraseIdx_cons_zero, and_self]
      | succ i =>
        simp only [List.getElem?_cons_succ] at hi
        obtain ⟨h1, h2⟩ := ih hl' hn.2 hi
        have e : (nm.toList == a.toList) = false := bt_ne.2 fun e => hn.1 (by rw [e]; exact List.mem_of_getElem? hi)
        unfold cutA cutB at *
        rw [List.zip_cons_cons, List.filter_cons]
        simp only [e, Bool.not_false, if_true, List.map_cons, h1, h2, List.eraseIdx_cons_succ, and_self]
theorem Bnd.cut {nm : ByteArray} {y : S25} (h : Bnd y) : Bnd (cutN nm y) := by
  refine .mk _ (by show (0 : Nat) ≤ _; omega) (by show (0 : Nat) ≤ _; omega) (fun k hk => h.key k ((cutA_sub nm y.f3 y.f4).subset hk)) fun z hz => ?_
  obtain ⟨p, hp, rfl⟩ := List.mem_map.1 hz
  exact h.item _ (List.of_mem_zip (List.mem_filter.1 hp).1).2
theorem PM.cut {d : Nat} {nm : ByteArray} {y x out : S25} {j : Nat} (h : PM d y x j out) (hy : y.f3.length = y.f4.length) (hx : nm ∉ x.f3) : PM d (cutN nm y) x j (cutN nm out) := by
  have hxt : ∀ key, key ∈ x.f3.take j → key ≠ nm := fun key hk e => hx (e ▸ List.mem_of_mem_take hk)
  have hkeys : ∀ key, key ∈ (cutN nm out).f3 ↔ key ∈ (cutN nm y).f3 ∨ key ∈ x.f3.take j := fun key => by
    rw [cutN_key h.len, cutN_key hy, h.keys key]
    constructor
    · rintro ⟨h1 | h1, h2⟩
      · exact .inl ⟨h1, h2⟩
      · exact .inr h1
    · rintro (⟨h1, h2⟩ | h1)
      · exact ⟨.inl h1, h2⟩
      · exact ⟨.inr h1, hxt key h1⟩
  refine ⟨rfl, rfl, rfl, cutN_len _ _, cutN_nodup h.nd, hkeys, fun key v hf => ?_, ?_, h.bnd.cut⟩
  · obtain ⟨hf, hn⟩ := fld_cut.1 hf
    rcases h.vals key v hf with ⟨a, b, h1, h2, h3⟩ | ⟨h1, h2⟩ | ⟨h1, h2⟩
    · exact .inl ⟨a, b, fld_cut.2 ⟨h1, hn⟩, h2, h3⟩
    · exact .inr (.inl ⟨fld_cut.2 ⟨h1, hn⟩, h2⟩)
    · exact .inr (.inr ⟨h1, fun e => h2 ((cutN_key hy).1 e).1⟩)
  · have := nodup_len_le (cutN_nodup (nm := nm) h.nd) (m := (cutN nm y).f3 ++ x.f3.take j) fun k hk => List.mem_append.2 ((hkeys k).1 hk)
    rw [List.length_append, List.length_take] at this
    omega
def PX (d : Nat) (nm : ByteArray) (y x : S25) (j : Nat) (out : S25) : Prop := ∃ i0, x.f3[i0]? = some nm ∧ (j ≤ i0 ∧ PM d y (cutN nm x) j out ∨ i0 < j ∧ PM d (cutN nm y) (cutN nm x) (j - 1) out)
section
variable {d : Nat} {nm : ByteArray} {y x out out' : S25} {j : Nat}
theorem PX.start (hx : nm ∈ x.f3) (hy : y.f0 = 2 ∧ y.f1 = noStr ∧ y.f2 = noStr ∧ y.f3.length = y.f4.length ∧ y.f3.Nodup) (hb : Bnd y) : PX d nm y x 0 y := by
  obtain ⟨i, hi⟩ := List.getElem?_of_mem hx
  exact ⟨i, hi, .inl ⟨Nat.zero_le _, PM.start hy hb⟩⟩
theorem PX.len (h : PX d nm y x j out) : out.f3.length = out.f4.length := by obtain ⟨_, _, ⟨_, h⟩ | ⟨_, h⟩⟩ := h <;> exact h.len
theorem PX.bnd (h : PX d nm y x j out) : Bnd out := by obtain ⟨_, _, ⟨_, h⟩ | ⟨_, h⟩⟩ := h <;> exact h.bnd
theorem PX.size (h : PX d nm y x j out) : out.f3.length ≤ y.f3.length + j := by
  obtain ⟨_, _, ⟨_, h⟩ | ⟨_, h⟩⟩ := h
  · exact h.size
  · have := h.size
    have h2 : (cutN nm y).f3.length ≤ y.f3.length := (cutA_sub nm y.f3 y.f4).length_le
    omega
theorem cut_at {i : Nat} (hl : x.f3.length = x.f4.length) (hnd : x.f3.Nodup) (hi : x.f3[i]? = some nm) : (cutN nm x).f3 = x.f3.eraseIdx i ∧ (cutN nm x).f4 = x.f4.eraseIdx i := cut_idx hl hnd hi
theorem PX.both {key : ByteArray} {a b v : S25} (h : PX d nm y x j out) (hl : x.f3.length = x.f4.length) (hnd : x.f3.Nodup) (hk : x.f3[j]? = some key) (hb : x.f4[j]? = some b) (hne : key ≠ nm) (ha : fld y key a) (hm : MRel d a b v) (hv : Bnd v) (hw : WithP out key v out') : PX d nm y x (j + 1) out' := by
  obtain ⟨i, hi, ⟨h1, h2⟩ | ⟨h1, h2⟩⟩ := h
  · have hji : j ≠ i := by rintro rfl; rw [hk] at hi; injection hi with hi; exact hne hi
    obtain ⟨e3, e4⟩ := cut_at hl hnd hi
    exact ⟨i, hi, .inl ⟨by omega, h2.both (cutN_nodup hnd) (by rw [e3, List.getElem?_eraseIdx_of_lt (by omega)]; exact hk) (by rw [e4, List.getElem?_eraseIdx_of_lt (by omega)]; exact hb) ha hm hv hw⟩⟩
  · obtain ⟨e3, e4⟩ := cut_at hl hnd hi
    have hj : j - 1 + 1 = j := by omega
    have := h2.both (cutN_nodup hnd) (by rw [e3, List.getElem?_eraseIdx_of_ge (by omega), hj]; exact hk) (by rw [e4, List.getElem?_eraseIdx_of_ge (by omega), hj]; exact hb) (fld_cut.2 ⟨ha, hne⟩) hm hv hw
    rw [hj] at this
    exact ⟨i, hi, .inr ⟨by omega, this⟩⟩
theorem PX.new {key : ByteArray} {b : S25} (h : PX d nm y x j out) (hl : x.f3.length = x.f4.length) (hnd : x.f3.Nodup) (hk : x.f3[j]? = some key) (hb : x.f4[j]? = some b) (hne : key ≠ nm) (hy : key ∉ y.f3) (hx : Bnd x) (hw : WithP out key b out') : PX d nm y x (j + 1) out' := by
  obtain ⟨i, hi, ⟨h1, h2⟩ | ⟨h1, h2⟩⟩ := h
  · have hji : j ≠ i := by rintro rfl; rw [hk] at hi; injection hi with hi; exact hne hi
    obtain ⟨e3, e4⟩ := cut_at hl hnd hi
    exact ⟨i, hi, .inl ⟨by omega, h2.new (cutN_nodup hnd) (by rw [e3, List.getElem?_eraseIdx_of_lt (by omega)]; exact hk) (by rw [e4, List.getElem?_eraseIdx_of_lt (by omega)]; exact hb) hy hx.cut hw⟩⟩
  · obtain ⟨e3, e4⟩ := cut_at hl hnd hi
    have hj : j - 1 + 1 = j := by omega
    have := h2.new (cutN_nodup hnd) (by rw [e3, List.getElem?_eraseIdx_of_ge (by omega), hj]; exact hk) (by rw [e4, List.getElem?_eraseIdx_of_ge (by omega), hj]; exact hb) (fun e => hy ((cutA_sub nm y.f3 y.f4).subset e)) hx.cut hw
    rw [hj] at this
    exact ⟨i, hi, .inr ⟨by omega, this⟩⟩
theorem PX.cut (h : PX d nm y x j out) (hk : x.f3[j]? = some nm) (hl : x.f3.length = x.f4.length) (hnd : x.f3.Nodup) (hy : y.f3.length = y.f4.length) : PX d nm y x (j + 1) (cutN nm out) := by
  obtain ⟨i, hi, h⟩ := h
  obtain rfl : i = j := (List.getElem?_inj (idx_lt hi) hnd).1 (hi.trans hk.symm)
  rcases h with ⟨h1, h2⟩ | ⟨h1, h2⟩
  · exact ⟨i, hi, .inr ⟨by omega, h2.cut hy fun e => by
      have := (cutN_key (nm := nm) hl).1 e
      exact this.2 rfl⟩⟩
  · omega
theorem PX.done (h : PX d nm y x x.f3.length out) (hl : x.f3.length = x.f4.length) (hnd : x.f3.Nodup) : MRel (d + 1) (cutN nm y) (cutN nm x) out := by
  obtain ⟨i, hi, ⟨h1, h2⟩ | ⟨h1, h2⟩⟩ := h
  · have := idx_lt hi
    omega
  · have e : (cutN nm x).f3.length = x.f3.length - 1 := by
      rw [(cut_at hl hnd hi).1, List.length_eraseIdx_of_lt (idx_lt hi)]
    rw [← e] at h2
    exact PM.done rfl h2
end
structure MWX (P : Nat → Prop) (d : Nat) (nm : ByteArray) (y x : S25) (w : World) (bx bY : Array Value) (j : Nat) (out : S25) (P3 : Option Addr) (q3 : Nat) (P4 : Option Addr) (q4 : Nat) (wr : World) : Prop where
  below : Below w.heap.size w wr
  boxx : wr.heap[w.heap.size]? = some (.cells bx 25 (0, 0))
  boxy : wr.heap[w.heap.size + 1]? = some (.cells bY 25 (0, 0))
  boxr : wr.heap[w.heap.size + 1 + 1]? = some (.cells #[.int .i64 0, .string noStr, .string noStr, nilS, nilS] 25 (0, 0))
  boxo : wr.heap[w.heap.size + 1 + 1 + 1]? = some (.cells #[.int .i64 out.f0, .string out.f1, .string out.f2, .slice P3 out.f3.length q3, .slice P4 out.f4.length q4] 25 (0, 0))
  nd : NdG wr (fun k => k ≠ w.heap.size + 1 + 1 ∧ k ≠ w.heap.size + 1 + 1 + 1 ∧ (P k ∧ k < w.heap.size ∨ w.heap.size ≤ k)) out P3 q3 P4 q4
  pm : PX d nm y x j out
section
variable {P : Nat → Prop} {d : Nat} {nm : ByteArray} {y x : S25} {w : World} {bx bY : Array Value} {j : Nat} {out : S25} {P3 P4 : Option Addr} {q3 q4 : Nat} {wr wr' : World}
theorem MWX.under (h : MWX P d nm y x w bx bY j out P3 q3 P4 q4 wr) (hb : Below wr.heap.size wr wr') : MWX P d nm y x w bx bY j out P3 q3 P4 q4 wr' :=
  ⟨h.below.trans (hb.mono h.below.size), (hb.block _ (lt_of_block h.boxx)).trans h.boxx, (hb.block _ (lt_of_block h.boxy)).trans h.boxy, (hb.block _ (lt_of_block h.boxr)).trans h.boxr, (hb.block _ (lt_of_block h.boxo)).trans h.boxo, h.nd.below hb, h.pm⟩
theorem MWX.put (h' : MWX P d nm y x w bx bY j out P3 q3 P4 q4 wr') {out' : S25} {R3 R4 : Option Addr} {s3 s4 b : Nat} (hb : b = w.heap.size + 1 + 1 + 1) (hpm : PX d nm y x (j + 1) out') (hnd : NdG wr' (fun k => k ≠ w.heap.size + 1 + 1 ∧ k ≠ w.heap.size + 1 + 1 + 1 ∧ (P k ∧ k < w.heap.size ∨ w.heap.size ≤ k)) out' R3 s3 R4 s4) : MWX P d nm y x w bx bY (j + 1) out' R3 s3 R4 s4 (((((wr'.setCell ⟨b, 0, none⟩ (.int .i64 out'.f0)).setCell ⟨b, 1, none⟩ (.string out'.f1)).setCell ⟨b, 2, none⟩ (.string out'.f2)).setCell ⟨b, 3, none⟩ (.slice R3 out'.f3.length s3)).setCell ⟨b, 4, none⟩ (.slice R4 out'.f4.length s4)) := by
  subst hb
  have hk := keep_put5 wr' (w.heap.size + 1 + 1 + 1) (.int .i64 out'.f0) (.string out'.f1) (.string out'.f2) (.slice R3 out'.f3.length s3) (.slice R4 out'.f4.length s4)
  exact ⟨h'.below.trans (hk.below h'.below.size fun k _ e => by omega), hk.at_ h'.boxx (by omega), hk.at_ h'.boxy (by omega), hk.at_ h'.boxr (by omega), put5_blk h'.boxo _ _ _ _ _, hnd.keep hk fun k hp e => hp.2.1 e, hpm⟩
theorem MWX.fin (h : MWX P d nm y x w bx bY j out P3 q3 P4 q4 wr) {b : Nat} (hb : b = w.heap.size + 1 + 1) :
    (((((wr.setCell ⟨b, 0, none⟩ (.int .i64 out.f0)).setCell ⟨b, 1, none⟩ (.string out.f1)).setCell ⟨b, 2, none⟩ (.string out.f2)).setCell ⟨b, 3, none⟩ (.slice P3 out.f3.length q3)).setCell ⟨b, 4, none⟩ (.slice P4 out.f4.length q4)).heap[b]? = some (.cells #[.int .i64 out.f0, .string out.f1, .string out.f2, .slice P3 out.f3.length q3, .slice P4 out.f4.length q4] 25 (0, 0)) ∧ NdG (((((wr.setCell ⟨b, 0, none⟩ (.int .i64 out.f0)).setCell ⟨b, 1, none⟩ (.string out.f1)).setCell ⟨b, 2, none⟩ (.string out.f2)).setCell ⟨b, 3, none⟩ (.slice P3 out.f3.length q3)).setCell ⟨b, 4, none⟩ (.slice P4 out.f4.length q4)) (fun k => P k ∨ w.heap.size ≤ k) out P3 q3 P4 q4 ∧ Below w.heap.size w (((((wr.setCell ⟨b, 0, none⟩ (.int .i64 out.f0)).setCell ⟨b, 1, none⟩ (.string out.f1)).setCell ⟨b, 2, none⟩ (.string out.f2)).setCell ⟨b, 3, none⟩ (.slice P3 out.f3.length q3)).setCell ⟨b, 4, none⟩ (.slice P4 out.f4.length q4)) := by
  subst hb
  have hk := keep_put5 wr (w.heap.size + 1 + 1) (.int .i64 out.f0) (.string out.f1) (.string out.f2) (.slice P3 out.f3.length q3) (.slice P4 out.f4.length q4)
  exact ⟨put5_blk h.boxr _ _ _ _ _, (h.nd.keep hk fun k hp e => hp.1 e).mono fun k hp => hp.2.2.imp (fun e => e.1) id, h.below.trans (hk.below h.below.size fun k _ e => by omega)⟩
end
def MergedX (P : Nat → Prop) (d : Nat) (nm : ByteArray) (y x : S25) (w : World) (e : Ending) (w' : World) : Prop := ∃ m A3 c3 A4 c4, e = .returned (ndV m A3 c3 A4 c4) ∧ MRel (d + 1) (cutN nm y) (cutN nm x) m ∧ Bnd m ∧ NdG w' (fun k => P k ∨ w.heap.size ≤ k) m A3 c3 A4 c4 ∧ Below w.heap.size w w'
set_option maxRecDepth 20000 in
set_option maxHeartbeats 16000000 in
theorem merged12x (d : Nat) (nm : ByteArray) (P : Nat → Prop) (x y : S25) (hx : TreeX d nm x) (hy : TreeB (d + 1) y) (hy0 : y.f0 = 2) (hal : ∀ key a b, key ≠ nm → fld y key a → fld x key b → AlikeN d a b) (hbx : Bnd x) (hby : Bnd y) (w : World) (A3 A4 B3 B4 : Option Addr) (c3 c4 d3 d4 : Nat) (ha : NdG w P x A3 c3 A4 c4) (hb : NdG w P y B3 d3 B4 d4) :
    Calls Tryz.prog 12 #[ndV x A3 c3 A4 c4, ndV y B3 d3 B4 d4, .bool false] w fun e w' => MergedX P d nm y x w e w' := by
    obtain ⟨f0, f1, f2, f3, f4⟩ := x
    obtain ⟨gq, g1, g2, g3, g4⟩ := y
    obtain rfl : f0 = 2 := hx.f0
    obtain rfl : gq = 2 := hy0
    obtain ⟨L3, hL3⟩ : ∃ L3, L3 = f3.length := ⟨_, rfl⟩
    obtain ⟨L4, hL4⟩ : ∃ L4, L4 = f4.length := ⟨_, rfl⟩
    obtain ⟨M3, hM3⟩ : ∃ M3, M3 = g3.length := ⟨_, rfl⟩
    obtain ⟨M4, hM4⟩ : ∃ M4, M4 = g4.length := ⟨_, rfl⟩
    have hargs : ndV ⟨2, f1, f2, f3, f4⟩ A3 c3 A4 c4 = .agg #[.int .i64 2, .string f1, .string f2, .slice A3 L3 c3, .slice A4 L4 c4] := by rw [hL3, hL4]
    have hargs2 : ndV ⟨2, g1, g2, g3, g4⟩ B3 d3 B4 d4 = .agg #[.int .i64 2, .string g1, .string g2, .slice B3 M3 d3, .slice B4 M4 d4] := by rw [hM3, hM4]
    rw [hargs, hargs2]
    clear hargs hargs2
    have HX := Lib.hid (And.intro hx (And.intro hy (And.intro hal (And.intro hbx (And.intro hby (And.intro ha hb))))))
    have HL := Lib.hid (And.intro hL3 (And.intro hL4 (And.intro hM3 hM4)))
    have hn3 : (L3 : Int) ≤ 1000000 := by have h1 := hx.short; have h2 := hx.len; simp only at h1 h2; omega
    have hx2 : f1 = noStr ∧ f2 = noStr ∧ f3.length = f4.length ∧ f3.Nodup := ⟨hx.f1, hx.f2, hx.len, hx.nodup⟩
    have hy2 : g1 = noStr ∧ g2 = noStr ∧ g3.length = g4.length ∧ g3.Nodup := by
      rcases hy.1 with ⟨h, _⟩ | ⟨_, h1, h2, h3, h4, _⟩ | ⟨h, _⟩
      · simp at h
      · exact ⟨h1, h2, h3, h4⟩
      · simp at h
    have H2 := Lib.hid (And.intro hx2 hy2)
    have hmw : MWX P d nm ⟨2, g1, g2, g3, g4⟩ ⟨2, f1, f2, f3, f4⟩ w #[.int .i64 2, .string f1, .string f2, .slice A3 L3 c3, .slice A4 L4 c4] #[.int .i64 2, .string g1, .string g2, .slice B3 M3 d3, .slice B4 M4 d4] 0 ⟨2, g1, g2, g3, g4⟩ B3 d3 B4 d4 ((((w.alloc (.cells #[.int .i64 2, .string f1, .string f2, .slice A3 L3 c3, .slice A4 L4 c4] 25)).alloc (.cells #[.int .i64 2, .string g1, .string g2, .slice B3 M3 d3, .slice B4 M4 d4] 25)).alloc (.cells #[.int .i64 0, .string { data := #[] }, .string { data := #[] }, .slice none 0 0, .slice none 0 0] 25)).alloc (.cells #[.int .i64 2, .string g1, .string g2, .slice B3 M3 d3, .slice B4 M4 d4] 25)) :=
      ⟨below_alloc (below_alloc (below_alloc (below_alloc (Below.refl _ _) _) _) _) _, blk_old _ (blk_old _ (blk_old _ (blk_new rfl _))), blk_old _ (blk_old _ (blk_new (by simp) _)), blk_old _ (blk_new (by simp) _), (blk_new (by simp) _).trans (by rw [hM3, hM4]), (hb.bound.below (below_alloc (below_alloc (below_alloc (below_alloc (Below.refl _ _) _) _) _) _)).mono fun k hp => ⟨by have := hp.2; omega, by have := hp.2; omega, .inl hp⟩,
        PX.start hx.has ⟨rfl, hy2⟩ hby⟩
    have HMW := Lib.hid hmw
    clear hx hy hal hbx hby ha hb hL3 hL4 hM3 hM4 hx2 hy2 hmw
    go_enter Tryz.func12, Tryz.ntmps12
    go_wp2_with fail
    go_loopg [30] L3 (fun k i wr => ∃ j : Nat, j + k = L3 ∧ i = .int .i64 (j : Int) ∧ Hid (∃ out P3 q3 P4 q4, MWX P d nm ⟨2, g1, g2, g3, g4⟩ ⟨2, f1, f2, f3, f4⟩ w #[.int .i64 2, .string f1, .string f2, .slice A3 L3 c3, .slice A4 L4 c4] #[.int .i64 2, .string g1, .string g2, .slice B3 M3 d3, .slice B4 M4 d4] j out P3 q3 P4 q4 wr))
    case atStart => exact ⟨0, by omega, rfl, Lib.hid ⟨_, _, _, _, _, HMW.out⟩⟩
    case round =>
      obtain ⟨j, hj, rfl, hI⟩ := hrel
      obtain ⟨out, P3, q3, P4, q4, hmw⟩ := hI.out
      have HM := Lib.hid hmw
      by_cases hlt : 1 ≤ gk
      · have hj2 : (j : Int) < (L3 : Int) := by omega
        have hj3 : j < L3 := by omega
        have hjl : j < f3.length := by have := HL.out.1; omega
        obtain ⟨key, hkey⟩ : ∃ key, f3[j]? = some key := ⟨_, List.getElem?_eq_getElem hjl⟩
        have hl34 : f3.length = f4.length := H2.out.1.2.2.1
        obtain ⟨a, haj⟩ : ∃ a, f4[j]? = some a := ⟨_, List.getElem?_eq_getElem (by omega)⟩
        have hj4 : (j : Int) < (L4 : Int) := by have := HL.out.2.1; omega
        have hj4' : j < L4 := by omega
        obtain ⟨ad3, rfl, x3⟩ := str_at (HX.out.2.2.2.2.2.1.now.keys) j key hjl hkey
        have x3' := (hmw.below.cell (World.block_lt_of_cell? w _ x3)).trans x3
        have b0 : wr.cell? ⟨w.heap.size + 1, 0, none⟩ = some (.int .i64 2) := (blk_cell hmw.boxy 0).trans rfl
        have b1 : wr.cell? ⟨w.heap.size + 1, 1, none⟩ = some (.string g1) := (blk_cell hmw.boxy 1).trans rfl
        have b2 : wr.cell? ⟨w.heap.size + 1, 2, none⟩ = some (.string g2) := (blk_cell hmw.boxy 2).trans rfl
        have b3 : wr.cell? ⟨w.heap.size + 1, 3, none⟩ = some (.slice B3 M3 d3) := (blk_cell hmw.boxy 3).trans rfl
        have b4 : wr.cell? ⟨w.heap.size + 1, 4, none⟩ = some (.slice B4 M4 d4) := (blk_cell hmw.boxy 4).trans rfl
        have HK := Lib.hid (And.intro hkey (And.intro haj (List.mem_of_getElem? haj)))
        clear hjl hkey hl34 haj x3 hmw hI
        have hpm := HM.out.pm
        have hbd : out.f4.length ≤ 1000000 := by have h1 := hpm.len; have h2 := hpm.size; have h3 := HX.out.2.1.len; have h4 := H2.out.2.2.2.1; have h5 : f4.length ≤ 61 := HX.out.1.short; have h6 := H2.out.1.2.2.1; have h7 := HL.out.1; simp only at h2 h3; omega
        have HBD := Lib.hid (And.intro hpm.len hbd)
        clear hpm hbd
        go_wp2_with fail
        have hcall := fieldG20 wr (fun k => k ≠ w.heap.size + 1 + 1 ∧ k ≠ w.heap.size + 1 + 1 + 1 ∧ (P k ∧ k < w.heap.size ∨ w.heap.size ≤ k)) ⟨2, g1, g2, g3, g4⟩ key B3 B4 d3 d4 ((HX.out.2.2.2.2.2.2.bound.below HM.out.below).mono fun k hp => ⟨by have := hp.2; omega, by have := hp.2; omega, .inl hp⟩) (fun _ => Nat.le_of_eq H2.out.2.2.2.1)
        simp only [ndV, ← HL.out.2.2.1, ← HL.out.2.2.2] at hcall
        refine hcall.mono ?_
        clear hcall
        rintro e w' ⟨hb, ⟨v, E3, e3, E4, e4, rfl, h0, h1⟩ | ⟨rfl, h0⟩⟩
        · have HA1 := Lib.hid (HM.out.under hb)
          have HV := Lib.hid (And.intro h0 h1)
          clear h0 h1 hb b0 b1 b2 b3 b4
          obtain ⟨W, hW⟩ : ∃ W, W = w'.alloc (.cells #[.int .i64 v.f0, .string v.f1, .string v.f2, .slice E3 v.f3.length e3, .slice E4 v.f4.length e4] 25) := ⟨_, rfl⟩
          have HA2 := Lib.hid (show MWX P d nm ⟨2, g1, g2, g3, g4⟩ ⟨2, f1, f2, f3, f4⟩ w #[.int .i64 2, .string f1, .string f2, .slice (some ad3) L3 c3, .slice A4 L4 c4] #[.int .i64 2, .string g1, .string g2, .slice B3 M3 d3, .slice B4 M4 d4] j out P3 q3 P4 q4 W from hW ▸ HA1.out.under (below_alloc (Below.refl _ _) _))
          have HVW := Lib.hid (show NdG W (fun k => k ≠ w.heap.size + 1 + 1 ∧ k ≠ w.heap.size + 1 + 1 + 1 ∧ (P k ∧ k < w.heap.size ∨ w.heap.size ≤ k)) v E3 e3 E4 e4 from hW ▸ HV.out.2.below (below_alloc (Below.refl _ _) _))
          have HBX := Lib.hid (show W.heap[w'.heap.size]? = some (.cells #[.int .i64 v.f0, .string v.f1, .string v.f2, .slice E3 v.f3.length e3, .slice E4 v.f4.length e4] 25 (0, 0)) from hW ▸ blk_new rfl _)
          obtain ⟨ad4, C3, cc3, C4, cc4, e4_, y0, y1, y2, y3, y4, hnd⟩ := ((HX.out.2.2.2.2.2.1.bound.below HA2.out.below).mono (Q := (fun k => k ≠ w.heap.size + 1 + 1 ∧ k ≠ w.heap.size + 1 + 1 + 1 ∧ (P k ∧ k < w.heap.size ∨ w.heap.size ≤ k))) fun k hp => ⟨by have := hp.2; omega, by have := hp.2; omega, .inl hp⟩).item j a HK.out.2.1
          subst e4_
          have HND := Lib.hid hnd
          by_cases hkn : key = nm
          · have HKN := Lib.hid hkn
            have htag : (a.f2.toList == [33, 33, 110, 117, 108, 108]) = true := by
              have := HX.out.1.null a (hkn ▸ fld_mk HK.out.1 HK.out.2.1)
              rw [this]
              decide +kernel
            have x4w : W.cell? ⟨w.heap.size, 4, none⟩ = some (.slice (some ad4) L4 c4) := (blk_cell HA2.out.boxx 4).trans rfl
            have y2w := y2
            have o0 : W.cell? ⟨w.heap.size + 1 + 1 + 1, 0, none⟩ = some (.int .i64 out.f0) := (blk_cell HA2.out.boxo 0).trans rfl
            have o1 : W.cell? ⟨w.heap.size + 1 + 1 + 1, 1, none⟩ = some (.string out.f1) := (blk_cell HA2.out.boxo 1).trans rfl
            have o2 : W.cell? ⟨w.heap.size + 1 + 1 + 1, 2, none⟩ = some (.string out.f2) := (blk_cell HA2.out.boxo 2).trans rfl
            have o3 : W.cell? ⟨w.heap.size + 1 + 1 + 1, 3, none⟩ = some (.slice P3 out.f3.length q3) := (blk_cell HA2.out.boxo 3).trans rfl
            have o4 : W.cell? ⟨w.heap.size + 1 + 1 + 1, 4, none⟩ = some (.slice P4 out.f4.length q4) := (blk_cell HA2.out.boxo 4).trans rfl
            rw [hW] at x4w y2w o0 o1 o2 o3 o4
            have HWS := Lib.hid hW
            clear hnd hW y0 y1 y2 y3 y4 hkn
            go_wp2_with fail
            rw [← HWS.out]
            clear x4w y2w htag x3' o0 o1 o2 o3 o4
            refine (without24 W (fun k => k ≠ w.heap.size + 1 + 1 ∧ k ≠ w.heap.size + 1 + 1 + 1 ∧ (P k ∧ k < w.heap.size ∨ w.heap.size ≤ k)) out key P3 P4 q3 q4 HA2.out.nd HBD.out.1 HBD.out.2).mono ?_
            rintro e wf ⟨U3, u3, U4, u4, rfl, hng, hbc⟩
            have HAF := Lib.hid (HA2.out.under hbc)
            have HNG := Lib.hid (hng.mono (Q := (fun k => k ≠ w.heap.size + 1 + 1 ∧ k ≠ w.heap.size + 1 + 1 + 1 ∧ (P k ∧ k < w.heap.size ∨ w.heap.size ≤ k))) (fun k hp => hp.elim id fun e => ⟨by have := lt_of_block HA2.out.boxo; omega, by have := lt_of_block HA2.out.boxo; omega, .inr (by have := lt_of_block HA2.out.boxo; omega)⟩))
            have hpx := HAF.out.pm.cut (hk := HKN.out ▸ HK.out.1) H2.out.1.2.2.1 H2.out.1.2.2.2 H2.out.2.2.2.1
            rw [← HKN.out] at hpx
            have HPX := Lib.hid hpx
            have hbo := HAF.out.boxo
            have z0 := blk_frozen hbo 0
            have z1 := blk_frozen hbo 1
            have z2 := blk_frozen hbo 2
            have z3 := blk_frozen hbo 3
            have z4 := blk_frozen hbo 4
            have k0 := (blk_cell hbo 0).trans (show _ = some (.int .i64 out.f0) from rfl)
            have k1 := (blk_cell hbo 1).trans (show _ = some (.string out.f1) from rfl)
            have k2 := (blk_cell hbo 2).trans (show _ = some (.string out.f2) from rfl)
            have k3 := (blk_cell hbo 3).trans (show _ = some (.slice P3 out.f3.length q3) from rfl)
            have k4 := (blk_cell hbo 4).trans (show _ = some (.slice P4 out.f4.length q4) from rfl)
            clear hng hbc hpx hbo
            go_wp2_with fail
            have HMN := Lib.hid (HAF.out.put rfl (by rw [← HKN.out]; exact HPX.out) HNG.out)
            go_roundg (gk - 1)
            case measure => omega
            case rel => exact ⟨j + 1, by omega, by go_num, Lib.hid ⟨_, _, _, _, _, HMN.out⟩⟩
          have HTA := Lib.hid (And.intro (HX.out.1.items key a (fld_mk HK.out.1 HK.out.2.1) hkn) hkn)
          clear hkn
          have htag := HTA.out.1.1.not_null
          have x4 : W.cell? ⟨w.heap.size, 4, none⟩ = some (.slice (some ad4) L4 c4) := (blk_cell HA2.out.boxx 4).trans rfl
          have HY5 := Lib.hid (And.intro x4 (And.intro y0 (And.intro y1 (And.intro y2 (And.intro y3 y4)))))
          have x4w := x4
          have y2w := y2
          rw [hW] at x4w y2w
          have HWS := Lib.hid hW
          clear hnd hW x4 y0 y1 y2 y3 y4
          go_wp2_with fail
          rw [← HWS.out]
          clear x4w y2w htag x3'
          have x4 := HY5.out.1
          have y0 := HY5.out.2.1
          have y1 := HY5.out.2.2.1
          have y2 := HY5.out.2.2.2.1
          have y3 := HY5.out.2.2.2.2.1
          have y4 := HY5.out.2.2.2.2.2
          obtain ⟨vb, hvb⟩ : ∃ vb, vb = w'.heap.size := ⟨_, rfl⟩
          rw [← hvb] at HBX
          rw [← hvb]
          clear hvb
          have v0 : W.cell? ⟨vb, 0, none⟩ = some (.int .i64 v.f0) := (blk_cell HBX.out 0).trans rfl
          have v1 : W.cell? ⟨vb, 1, none⟩ = some (.string v.f1) := (blk_cell HBX.out 1).trans rfl
          have v2 : W.cell? ⟨vb, 2, none⟩ = some (.string v.f2) := (blk_cell HBX.out 2).trans rfl
          have v3 : W.cell? ⟨vb, 3, none⟩ = some (.slice E3 v.f3.length e3) := (blk_cell HBX.out 3).trans rfl
          have v4 : W.cell? ⟨vb, 4, none⟩ = some (.slice E4 v.f4.length e4) := (blk_cell HBX.out 4).trans rfl
          have o0 : W.cell? ⟨w.heap.size + 1 + 1 + 1, 0, none⟩ = some (.int .i64 out.f0) := (blk_cell HA2.out.boxo 0).trans rfl
          have o1 : W.cell? ⟨w.heap.size + 1 + 1 + 1, 1, none⟩ = some (.string out.f1) := (blk_cell HA2.out.boxo 1).trans rfl
          have o2 : W.cell? ⟨w.heap.size + 1 + 1 + 1, 2, none⟩ = some (.string out.f2) := (blk_cell HA2.out.boxo 2).trans rfl
          have o3 : W.cell? ⟨w.heap.size + 1 + 1 + 1, 3, none⟩ = some (.slice P3 out.f3.length q3) := (blk_cell HA2.out.boxo 3).trans rfl
          have o4 : W.cell? ⟨w.heap.size + 1 + 1 + 1, 4, none⟩ = some (.slice P4 out.f4.length q4) := (blk_cell HA2.out.boxo 4).trans rfl
          refine start_ (n := 12) (S := fun w' => w'.cell? ⟨w.heap.size + 1 + 1 + 1, 0, none⟩ = some (.int .i64 out.f0) ∧ w'.cell? ⟨w.heap.size + 1 + 1 + 1, 1, none⟩ = some (.string out.f1) ∧ w'.cell? ⟨w.heap.size + 1 + 1 + 1, 2, none⟩ = some (.string out.f2) ∧ w'.cell? ⟨w.heap.size + 1 + 1 + 1, 3, none⟩ = some (.slice P3 out.f3.length q3) ∧ w'.cell? ⟨w.heap.size + 1 + 1 + 1, 4, none⟩ = some (.slice P4 out.f4.length q4) ∧ w'.cell? ⟨w.heap.size, 4, none⟩ = some (.slice (some ad4) L4 c4) ∧ w'.cell? (ad4.add (j * 5)) = some (.int .i64 a.f0) ∧ w'.cell? ⟨(ad4.add (j * 5)).block, (ad4.add (j * 5)).off + 1, none⟩ = some (.string a.f1) ∧ w'.cell? ⟨(ad4.add (j * 5)).block, (ad4.add (j * 5)).off + 2, none⟩ = some (.string a.f2) ∧ w'.cell? ⟨(ad4.add (j * 5)).block, (ad4.add (j * 5)).off + 3, none⟩ = some (.slice C3 a.f3.length cc3) ∧ w'.cell? ⟨(ad4.add (j * 5)).block, (ad4.add (j * 5)).off + 4, none⟩ = some (.slice C4 a.f4.length cc4) ∧ w'.cell? ⟨vb, 0, none⟩ = some (.int .i64 v.f0) ∧ w'.cell? ⟨vb, 1, none⟩ = some (.string v.f1) ∧ w'.cell? ⟨vb, 2, none⟩ = some (.string v.f2) ∧ w'.cell? ⟨vb, 3, none⟩ = some (.slice E3 v.f3.length e3) ∧ w'.cell? ⟨vb, 4, none⟩ = some (.slice E4 v.f4.length e4)) (ds := [11]) #[false, false, false, false, false, false, false, false, false, false, false, false] (by kernel_rfl) rfl rfl ⟨o0, o1, o2, o3, o4, x4, y0, y1, y2, y3, y4, v0, v1, v2, v3, v4⟩ (fun hHeld => ?_)
          refine pure_ (i := 1) (N := some 63) (v := ?_) (a' := ?_) (bl 12 2) rfl rfl (by kernel_rfl) (fun _ _ _ h => h) (Or.inl ⟨by rfl, ?_⟩) ?_ ?_; rotate_left; (· (intro w'; go_simp; with_reducible rfl)); rotate_left; (· (simp only [np]; rfl))
          refine pure_ (i := 2) (N := some 64) (v := ?_) (a' := ?_) (bl 12 6) rfl rfl (by kernel_rfl) (fun _ _ _ h => h) (Or.inl ⟨by rfl, ?_⟩) ?_ ?_; rotate_left; (· (intro w'; go_simp; with_reducible rfl)); rotate_left; (· (simp only [np]; rfl))
          refine pure_ (i := 4) (N := some 66) (v := ?_) (a' := ?_) (bl 12 22) rfl rfl (by kernel_rfl) (fun _ _ _ h => h) (Or.inl ⟨by rfl, ?_⟩) ?_ ?_; rotate_left; (· (intro w'; go_simp; with_reducible rfl)); rotate_left; (· (simp only [np]; rfl))
          refine pure_ (i := 8) (N := some 70) (v := ?_) (a' := ?_) (bl 12 278) rfl rfl (by kernel_rfl) (fun _ _ _ h => h) (Or.inl ⟨by rfl, ?_⟩) ?_ ?_; rotate_left; (· (intro w'; go_simp; with_reducible rfl)); rotate_left; (· (simp only [np]; rfl))
          refine take_ (i := 0) (N := some 62) (v := ?_) (a' := ?_) (bl 12 279) rfl rfl (by kernel_rfl) (fun _ _ _ h => h) (Or.inl ⟨by rfl, ?_⟩) hHeld ?_ ?_; rotate_left; (· (rintro w' ⟨s0, s1, s2, s3, s4, s5, s6, s7, s8, s9, s10, s11, s12, s13, s14, s15⟩; go_simp; with_reducible rfl)); rotate_left; (· (simp only [np]; rfl))
          refine take_ (i := 3) (N := some 65) (v := ?_) (a' := ?_) (bl 12 287) rfl rfl (by kernel_rfl) (fun _ _ _ h => h) (Or.inl ⟨by rfl, ?_⟩) hHeld ?_ ?_; rotate_left; (· (rintro w' ⟨s0, s1, s2, s3, s4, s5, s6, s7, s8, s9, s10, s11, s12, s13, s14, s15⟩; go_simp; with_reducible rfl)); rotate_left; (· (simp only [np]; rfl))
          refine pure_ (i := 5) (N := some 67) (v := ?_) (a' := ?_) (bl 12 319) rfl rfl (by kernel_rfl) (fun _ _ _ h => h) (Or.inl ⟨by rfl, ?_⟩) ?_ ?_; rotate_left; (· (intro w'; go_simp; with_reducible rfl)); rotate_left; (· (simp only [np]; rfl))
          refine take_ (i := 6) (N := some 68) (v := ?_) (a' := ?_) (bl 12 383) rfl rfl (by kernel_rfl) (fun _ _ _ h => h) (Or.inl ⟨by rfl, ?_⟩) hHeld ?_ ?_; rotate_left; (· (rintro w' ⟨s0, s1, s2, s3, s4, s5, s6, s7, s8, s9, s10, s11, s12, s13, s14, s15⟩; go_simp; with_reducible rfl)); rotate_left; (· (simp only [np]; rfl))
          refine take_ (i := 7) (N := some 69) (v := ?_) (a' := ?_) (bl 12 511) rfl rfl (by kernel_rfl) (fun _ _ _ h => h) (Or.inl ⟨by rfl, ?_⟩) hHeld ?_ ?_; rotate_left; (· (rintro w' ⟨s0, s1, s2, s3, s4, s5, s6, s7, s8, s9, s10, s11, s12, s13, s14, s15⟩; go_simp; with_reducible rfl)); rotate_left; (· (simp only [np]; rfl))
          refine one_ (i := 9) (N := some 71) (bl 12 1023) rfl rfl (by kernel_rfl) (by decide) (fun K hK => ?_)
          refine goes_ Tryz.func12 (by kernel_rfl) rfl #[ndV a C3 cc3 C4 cc4, ndV v E3 e3 E4 e4, .bool false] (by rfl) rfl rfl (by simp only [List.map_toArray, List.map_cons, List.map_nil]; rfl) ?_
          refine (merged12 d (fun k => k ≠ w.heap.size + 1 + 1 ∧ k ≠ w.heap.size + 1 + 1 + 1 ∧ (P k ∧ k < w.heap.size ∨ w.heap.size ≤ k)) a v HTA.out.1 (HX.out.2.1.item v (by obtain ⟨_, i, _, h⟩ := HV.out.1; exact List.mem_of_getElem? h)) (HX.out.2.2.1 key v a HTA.out.2 (by obtain ⟨_, i, h1, h2⟩ := HV.out.1; exact fld_mk h1 h2) (fld_mk HK.out.1 HK.out.2.1)) (HX.out.2.2.2.1.item a HK.out.2.2) (HX.out.2.2.2.2.1.item v (by obtain ⟨_, i, _, h⟩ := HV.out.1; exact List.mem_of_getElem? h)) W.drew C3 C4 E3 E4 cc3 cc4 e3 e4 (HND.out.below (below_drew (Below.refl _ _))) (HVW.out.below (below_drew (Below.refl _ _)))).mono ?_
          rintro e w9 ⟨m, R3, s3, R4, s4, rfl, hmr, hbm, hng, hbc⟩
          have HB9 := Lib.hid hbc
          have HMR := Lib.hid (And.intro hmr (And.intro hbm (hng.mono (Q := (fun k => k ≠ w.heap.size + 1 + 1 ∧ k ≠ w.heap.size + 1 + 1 + 1 ∧ (P k ∧ k < w.heap.size ∨ w.heap.size ≤ k))) (fun k hp => hp.elim id fun e => ⟨by have := lt_of_block HA2.out.boxo; have := (show W.heap.size ≤ W.drew.heap.size by simp); omega, by have := lt_of_block HA2.out.boxo; have := (show W.heap.size ≤ W.drew.heap.size by simp); omega, .inr (by have := lt_of_block HA2.out.boxo; have := (show W.heap.size ≤ W.drew.heap.size by simp); omega)⟩))))
          have HA9 := Lib.hid ((HA2.out.under (below_drew (Below.refl _ _))).under hbc)
          clear hmr hbm hng hbc
          refine ⟨_, rfl, ?_⟩
          refine hK.out _ _ ⟨(HB9.out.cell (World.block_lt_of_cell? _ _ hHeld.1)).trans hHeld.1, (HB9.out.cell (World.block_lt_of_cell? _ _ hHeld.2.1)).trans hHeld.2.1, (HB9.out.cell (World.block_lt_of_cell? _ _ hHeld.2.2.1)).trans hHeld.2.2.1, (HB9.out.cell (World.block_lt_of_cell? _ _ hHeld.2.2.2.1)).trans hHeld.2.2.2.1, (HB9.out.cell (World.block_lt_of_cell? _ _ hHeld.2.2.2.2.1)).trans hHeld.2.2.2.2.1, (HB9.out.cell (World.block_lt_of_cell? _ _ hHeld.2.2.2.2.2.1)).trans hHeld.2.2.2.2.2.1, (HB9.out.cell (World.block_lt_of_cell? _ _ hHeld.2.2.2.2.2.2.1)).trans hHeld.2.2.2.2.2.2.1, (HB9.out.cell (World.block_lt_of_cell? _ _ hHeld.2.2.2.2.2.2.2.1)).trans hHeld.2.2.2.2.2.2.2.1, (HB9.out.cell (World.block_lt_of_cell? _ _ hHeld.2.2.2.2.2.2.2.2.1)).trans hHeld.2.2.2.2.2.2.2.2.1, (HB9.out.cell (World.block_lt_of_cell? _ _ hHeld.2.2.2.2.2.2.2.2.2.1)).trans hHeld.2.2.2.2.2.2.2.2.2.1, (HB9.out.cell (World.block_lt_of_cell? _ _ hHeld.2.2.2.2.2.2.2.2.2.2.1)).trans hHeld.2.2.2.2.2.2.2.2.2.2.1, (HB9.out.cell (World.block_lt_of_cell? _ _ hHeld.2.2.2.2.2.2.2.2.2.2.2.1)).trans hHeld.2.2.2.2.2.2.2.2.2.2.2.1, (HB9.out.cell (World.block_lt_of_cell? _ _ hHeld.2.2.2.2.2.2.2.2.2.2.2.2.1)).trans hHeld.2.2.2.2.2.2.2.2.2.2.2.2.1, (HB9.out.cell (World.block_lt_of_cell? _ _ hHeld.2.2.2.2.2.2.2.2.2.2.2.2.2.1)).trans hHeld.2.2.2.2.2.2.2.2.2.2.2.2.2.1, (HB9.out.cell (World.block_lt_of_cell? _ _ hHeld.2.2.2.2.2.2.2.2.2.2.2.2.2.2.1)).trans hHeld.2.2.2.2.2.2.2.2.2.2.2.2.2.2.1, (HB9.out.cell (World.block_lt_of_cell? _ _ hHeld.2.2.2.2.2.2.2.2.2.2.2.2.2.2.2)).trans hHeld.2.2.2.2.2.2.2.2.2.2.2.2.2.2.2⟩ (fun hHeld => ?_)
          clear hK K
          refine norm_ (a' := ?_) ?_ ?_; rotate_left; (· (show Act.put _ (some 71) _ = _; simp only [np]; rfl))
          refine one_ (i := 10) (N := some 72) (bl 12 2047) rfl rfl (by kernel_rfl) (by decide) (fun K hK => ?_)
          refine goes_ Tryz.func17 (by kernel_rfl) rfl #[ndV out P3 q3 P4 q4, .string key, ndV m R3 s3 R4 s4] (by rfl) rfl rfl (by simp only [List.map_toArray, List.map_cons, List.map_nil]; rfl) ?_
          refine (with17 w9 (fun k => k ≠ w.heap.size + 1 + 1 ∧ k ≠ w.heap.size + 1 + 1 + 1 ∧ (P k ∧ k < w.heap.size ∨ w.heap.size ≤ k)) out m key P3 P4 R3 R4 q3 q4 s3 s4 HA9.out.nd HMR.out.2.2 HA9.out.pm.len (by have h1 := HA9.out.pm.len; have h2 := HA9.out.pm.size; have h3 := HX.out.2.1.len; have h4 := H2.out.2.2.2.1; have h5 : f4.length ≤ 61 := HX.out.1.short; have h6 := H2.out.1.2.2.1; have h7 := HL.out.1; simp only at h2 h3; omega)).mono ?_
          rintro e wf ⟨out', U3, u3, U4, u4, rfl, hwp, hng, hbc⟩
          have HBF := Lib.hid hbc
          have HAF := Lib.hid (HA9.out.under hbc)
          have HNG := Lib.hid (hng.mono (Q := (fun k => k ≠ w.heap.size + 1 + 1 ∧ k ≠ w.heap.size + 1 + 1 + 1 ∧ (P k ∧ k < w.heap.size ∨ w.heap.size ≤ k))) (fun k hp => hp.elim id fun e => ⟨by have := lt_of_block HA9.out.boxo; have := HA9.out.below.size; omega, by have := lt_of_block HA9.out.boxo; have := HA9.out.below.size; omega, .inr (by have := lt_of_block HA9.out.boxo; have := HA9.out.below.size; omega)⟩))
          have HPM := Lib.hid (HA9.out.pm.both H2.out.1.2.2.1 H2.out.1.2.2.2 HK.out.1 HK.out.2.1 HTA.out.2 (by obtain ⟨_, i, h1, h2⟩ := HV.out.1; exact fld_mk h1 h2) HMR.out.1 HMR.out.2.1 hwp)
          clear hwp hng hbc
          refine ⟨_, rfl, ?_⟩
          refine hK.out _ _ ⟨(HBF.out.cell (World.block_lt_of_cell? _ _ hHeld.1)).trans hHeld.1, (HBF.out.cell (World.block_lt_of_cell? _ _ hHeld.2.1)).trans hHeld.2.1, (HBF.out.cell (World.block_lt_of_cell? _ _ hHeld.2.2.1)).trans hHeld.2.2.1, (HBF.out.cell (World.block_lt_of_cell? _ _ hHeld.2.2.2.1)).trans hHeld.2.2.2.1, (HBF.out.cell (World.block_lt_of_cell? _ _ hHeld.2.2.2.2.1)).trans hHeld.2.2.2.2.1, (HBF.out.cell (World.block_lt_of_cell? _ _ hHeld.2.2.2.2.2.1)).trans hHeld.2.2.2.2.2.1, (HBF.out.cell (World.block_lt_of_cell? _ _ hHeld.2.2.2.2.2.2.1)).trans hHeld.2.2.2.2.2.2.1, (HBF.out.cell (World.block_lt_of_cell? _ _ hHeld.2.2.2.2.2.2.2.1)).trans hHeld.2.2.2.2.2.2.2.1, (HBF.out.cell (World.block_lt_of_cell? _ _ hHeld.2.2.2.2.2.2.2.2.1)).trans hHeld.2.2.2.2.2.2.2.2.1, (HBF.out.cell (World.block_lt_of_cell? _ _ hHeld.2.2.2.2.2.2.2.2.2.1)).trans hHeld.2.2.2.2.2.2.2.2.2.1, (HBF.out.cell (World.block_lt_of_cell? _ _ hHeld.2.2.2.2.2.2.2.2.2.2.1)).trans hHeld.2.2.2.2.2.2.2.2.2.2.1, (HBF.out.cell (World.block_lt_of_cell? _ _ hHeld.2.2.2.2.2.2.2.2.2.2.2.1)).trans hHeld.2.2.2.2.2.2.2.2.2.2.2.1, (HBF.out.cell (World.block_lt_of_cell? _ _ hHeld.2.2.2.2.2.2.2.2.2.2.2.2.1)).trans hHeld.2.2.2.2.2.2.2.2.2.2.2.2.1, (HBF.out.cell (World.block_lt_of_cell? _ _ hHeld.2.2.2.2.2.2.2.2.2.2.2.2.2.1)).trans hHeld.2.2.2.2.2.2.2.2.2.2.2.2.2.1, (HBF.out.cell (World.block_lt_of_cell? _ _ hHeld.2.2.2.2.2.2.2.2.2.2.2.2.2.2.1)).trans hHeld.2.2.2.2.2.2.2.2.2.2.2.2.2.2.1, (HBF.out.cell (World.block_lt_of_cell? _ _ hHeld.2.2.2.2.2.2.2.2.2.2.2.2.2.2.2)).trans hHeld.2.2.2.2.2.2.2.2.2.2.2.2.2.2.2⟩ (fun hHeld => ?_)
          clear hK K
          refine norm_ (a' := ?_) ?_ ?_; rotate_left; (· (show Act.put _ (some 72) _ = _; simp only [np]; rfl))
          refine last_ (i := 11) (N := none) (bl 12 4095) rfl rfl (by kernel_rfl) (by decide) (fun K hK => ?_)
          have z0 := blk_frozen HAF.out.boxo 0
          have z1 := blk_frozen HAF.out.boxo 1
          have z2 := blk_frozen HAF.out.boxo 2
          have z3 := blk_frozen HAF.out.boxo 3
          have z4 := blk_frozen HAF.out.boxo 4
          have k0 := blk_cell HAF.out.boxo 0
          have k1 := blk_cell HAF.out.boxo 1
          have k2 := blk_cell HAF.out.boxo 2
          have k3 := blk_cell HAF.out.boxo 3
          have k4 := blk_cell HAF.out.boxo 4
          refine skip_ (w1 := ?_) (by rfl) rfl ?_ ?_
          rotate_left
          · go_simp
            rfl
          have HMN := Lib.hid (HAF.out.put rfl HPM.out HNG.out)
          clear z0 z1 z2 z3 z4 k0 k1 k2 k3 k4
          refine hK.out _ _ ?_
          clear hK K
          refine done_ (by kernel_rfl) ?_
          go_wp2_with fail
          go_roundg (gk - 1)
          case measure => omega
          case rel => exact ⟨j + 1, by omega, by go_num, Lib.hid ⟨_, _, _, _, _, HMN.out⟩⟩
        · have HA1 := Lib.hid (HM.out.under hb)
          have HV := Lib.hid h0
          clear h0 hb b0 b1 b2 b3 b4
          obtain ⟨W, hW⟩ : ∃ W, W = w'.alloc (.cells #[.int .i64 0, .string noStr, .string noStr, nilS, nilS] 25) := ⟨_, rfl⟩
          have HA2 := Lib.hid (show MWX P d nm ⟨2, g1, g2, g3, g4⟩ ⟨2, f1, f2, f3, f4⟩ w #[.int .i64 2, .string f1, .string f2, .slice (some ad3) L3 c3, .slice A4 L4 c4] #[.int .i64 2, .string g1, .string g2, .slice B3 M3 d3, .slice B4 M4 d4] j out P3 q3 P4 q4 W from hW ▸ HA1.out.under (below_alloc (Below.refl _ _) _))
          obtain ⟨ad4, C3, cc3, C4, cc4, e4_, y0, y1, y2, y3, y4, hnd⟩ := ((HX.out.2.2.2.2.2.1.bound.below HA2.out.below).mono (Q := (fun k => k ≠ w.heap.size + 1 + 1 ∧ k ≠ w.heap.size + 1 + 1 + 1 ∧ (P k ∧ k < w.heap.size ∨ w.heap.size ≤ k))) fun k hp => ⟨by have := hp.2; omega, by have := hp.2; omega, .inl hp⟩).item j a HK.out.2.1
          subst e4_
          have HND := Lib.hid hnd
          by_cases hkn : key = nm
          · have HKN := Lib.hid hkn
            have htag : (a.f2.toList == [33, 33, 110, 117, 108, 108]) = true := by
              have := HX.out.1.null a (hkn ▸ fld_mk HK.out.1 HK.out.2.1)
              rw [this]
              decide +kernel
            have x4w : W.cell? ⟨w.heap.size, 4, none⟩ = some (.slice (some ad4) L4 c4) := (blk_cell HA2.out.boxx 4).trans rfl
            have y2w := y2
            have o0 : W.cell? ⟨w.heap.size + 1 + 1 + 1, 0, none⟩ = some (.int .i64 out.f0) := (blk_cell HA2.out.boxo 0).trans rfl
            have o1 : W.cell? ⟨w.heap.size + 1 + 1 + 1, 1, none⟩ = some (.string out.f1) := (blk_cell HA2.out.boxo 1).trans rfl
            have o2 : W.cell? ⟨w.heap.size + 1 + 1 + 1, 2, none⟩ = some (.string out.f2) := (blk_cell HA2.out.boxo 2).trans rfl
            have o3 : W.cell? ⟨w.heap.size + 1 + 1 + 1, 3, none⟩ = some (.slice P3 out.f3.length q3) := (blk_cell HA2.out.boxo 3).trans rfl
            have o4 : W.cell? ⟨w.heap.size + 1 + 1 + 1, 4, none⟩ = some (.slice P4 out.f4.length q4) := (blk_cell HA2.out.boxo 4).trans rfl
            rw [hW] at x4w y2w o0 o1 o2 o3 o4
            have HWS := Lib.hid hW
            clear hnd hW y0 y1 y2 y3 y4 hkn
            go_wp2_with fail
            rw [← HWS.out]
            clear x4w y2w htag x3' o0 o1 o2 o3 o4
            refine (without24 W (fun k => k ≠ w.heap.size + 1 + 1 ∧ k ≠ w.heap.size + 1 + 1 + 1 ∧ (P k ∧ k < w.heap.size ∨ w.heap.size ≤ k)) out key P3 P4 q3 q4 HA2.out.nd HBD.out.1 HBD.out.2).mono ?_
            rintro e wf ⟨U3, u3, U4, u4, rfl, hng, hbc⟩
            have HAF := Lib.hid (HA2.out.under hbc)
            have HNG := Lib.hid (hng.mono (Q := (fun k => k ≠ w.heap.size + 1 + 1 ∧ k ≠ w.heap.size + 1 + 1 + 1 ∧ (P k ∧ k < w.heap.size ∨ w.heap.size ≤ k))) (fun k hp => hp.elim id fun e => ⟨by have := lt_of_block HA2.out.boxo; omega, by have := lt_of_block HA2.out.boxo; omega, .inr (by have := lt_of_block HA2.out.boxo; omega)⟩))
            have hpx := HAF.out.pm.cut (hk := HKN.out ▸ HK.out.1) H2.out.1.2.2.1 H2.out.1.2.2.2 H2.out.2.2.2.1
            rw [← HKN.out] at hpx
            have HPX := Lib.hid hpx
            have hbo := HAF.out.boxo
            have z0 := blk_frozen hbo 0
            have z1 := blk_frozen hbo 1
            have z2 := blk_frozen hbo 2
            have z3 := blk_frozen hbo 3
            have z4 := blk_frozen hbo 4
            have k0 := (blk_cell hbo 0).trans (show _ = some (.int .i64 out.f0) from rfl)
            have k1 := (blk_cell hbo 1).trans (show _ = some (.string out.f1) from rfl)
            have k2 := (blk_cell hbo 2).trans (show _ = some (.string out.f2) from rfl)
            have k3 := (blk_cell hbo 3).trans (show _ = some (.slice P3 out.f3.length q3) from rfl)
            have k4 := (blk_cell hbo 4).trans (show _ = some (.slice P4 out.f4.length q4) from rfl)
            clear hng hbc hpx hbo
            go_wp2_with fail
            have HMN := Lib.hid (HAF.out.put rfl (by rw [← HKN.out]; exact HPX.out) HNG.out)
            go_roundg (gk - 1)
            case measure => omega
            case rel => exact ⟨j + 1, by omega, by go_num, Lib.hid ⟨_, _, _, _, _, HMN.out⟩⟩
          have HTA := Lib.hid (And.intro (HX.out.1.items key a (fld_mk HK.out.1 HK.out.2.1) hkn) hkn)
          clear hkn
          have htag := HTA.out.1.1.not_null
          have x4 : W.cell? ⟨w.heap.size, 4, none⟩ = some (.slice (some ad4) L4 c4) := (blk_cell HA2.out.boxx 4).trans rfl
          have HY5 := Lib.hid (And.intro x4 (And.intro y0 (And.intro y1 (And.intro y2 (And.intro y3 y4)))))
          have x4w := x4
          have y2w := y2
          rw [hW] at x4w y2w
          have HWS := Lib.hid hW
          clear hnd hW x4 y0 y1 y2 y3 y4
          go_wp2_with fail
          rw [← HWS.out]
          clear x4w y2w htag x3'
          have x4 := HY5.out.1
          have y0 := HY5.out.2.1
          have y1 := HY5.out.2.2.1
          have y2 := HY5.out.2.2.2.1
          have y3 := HY5.out.2.2.2.2.1
          have y4 := HY5.out.2.2.2.2.2
          have o0 : W.cell? ⟨w.heap.size + 1 + 1 + 1, 0, none⟩ = some (.int .i64 out.f0) := (blk_cell HA2.out.boxo 0).trans rfl
          have o1 : W.cell? ⟨w.heap.size + 1 + 1 + 1, 1, none⟩ = some (.string out.f1) := (blk_cell HA2.out.boxo 1).trans rfl
          have o2 : W.cell? ⟨w.heap.size + 1 + 1 + 1, 2, none⟩ = some (.string out.f2) := (blk_cell HA2.out.boxo 2).trans rfl
          have o3 : W.cell? ⟨w.heap.size + 1 + 1 + 1, 3, none⟩ = some (.slice P3 out.f3.length q3) := (blk_cell HA2.out.boxo 3).trans rfl
          have o4 : W.cell? ⟨w.heap.size + 1 + 1 + 1, 4, none⟩ = some (.slice P4 out.f4.length q4) := (blk_cell HA2.out.boxo 4).trans rfl
          refine start_ (n := 9) (S := fun w' => w'.cell? ⟨w.heap.size + 1 + 1 + 1, 0, none⟩ = some (.int .i64 out.f0) ∧ w'.cell? ⟨w.heap.size + 1 + 1 + 1, 1, none⟩ = some (.string out.f1) ∧ w'.cell? ⟨w.heap.size + 1 + 1 + 1, 2, none⟩ = some (.string out.f2) ∧ w'.cell? ⟨w.heap.size + 1 + 1 + 1, 3, none⟩ = some (.slice P3 out.f3.length q3) ∧ w'.cell? ⟨w.heap.size + 1 + 1 + 1, 4, none⟩ = some (.slice P4 out.f4.length q4) ∧ w'.cell? ⟨w.heap.size, 4, none⟩ = some (.slice (some ad4) L4 c4) ∧ w'.cell? (ad4.add (j * 5)) = some (.int .i64 a.f0) ∧ w'.cell? ⟨(ad4.add (j * 5)).block, (ad4.add (j * 5)).off + 1, none⟩ = some (.string a.f1) ∧ w'.cell? ⟨(ad4.add (j * 5)).block, (ad4.add (j * 5)).off + 2, none⟩ = some (.string a.f2) ∧ w'.cell? ⟨(ad4.add (j * 5)).block, (ad4.add (j * 5)).off + 3, none⟩ = some (.slice C3 a.f3.length cc3) ∧ w'.cell? ⟨(ad4.add (j * 5)).block, (ad4.add (j * 5)).off + 4, none⟩ = some (.slice C4 a.f4.length cc4)) (ds := [8]) #[false, false, false, false, false, false, false, false, false] (by kernel_rfl) rfl rfl ⟨o0, o1, o2, o3, o4, x4, y0, y1, y2, y3, y4⟩ (fun hHeld => ?_)
          refine pure_ (i := 1) (N := some 42) (v := ?_) (a' := ?_) (bl 9 2) rfl rfl (by kernel_rfl) (fun _ _ _ h => h) (Or.inl ⟨by rfl, ?_⟩) ?_ ?_; rotate_left; (· (intro w'; go_simp; with_reducible rfl)); rotate_left; (· (simp only [np]; rfl))
          refine pure_ (i := 2) (N := some 43) (v := ?_) (a' := ?_) (bl 9 6) rfl rfl (by kernel_rfl) (fun _ _ _ h => h) (Or.inl ⟨by rfl, ?_⟩) ?_ ?_; rotate_left; (· (intro w'; go_simp; with_reducible rfl)); rotate_left; (· (simp only [np]; rfl))
          refine pure_ (i := 4) (N := some 45) (v := ?_) (a' := ?_) (bl 9 22) rfl rfl (by kernel_rfl) (fun _ _ _ h => h) (Or.inl ⟨by rfl, ?_⟩) ?_ ?_; rotate_left; (· (intro w'; go_simp; with_reducible rfl)); rotate_left; (· (simp only [np]; rfl))
          refine take_ (i := 0) (N := some 41) (v := ?_) (a' := ?_) (bl 9 23) rfl rfl (by kernel_rfl) (fun _ _ _ h => h) (Or.inl ⟨by rfl, ?_⟩) hHeld ?_ ?_; rotate_left; (· (rintro w' ⟨s0, s1, s2, s3, s4, s5, s6, s7, s8, s9, s10⟩; go_simp; with_reducible rfl)); rotate_left; (· (simp only [np]; rfl))
          refine take_ (i := 3) (N := some 44) (v := ?_) (a' := ?_) (bl 9 31) rfl rfl (by kernel_rfl) (fun _ _ _ h => h) (Or.inl ⟨by rfl, ?_⟩) hHeld ?_ ?_; rotate_left; (· (rintro w' ⟨s0, s1, s2, s3, s4, s5, s6, s7, s8, s9, s10⟩; go_simp; with_reducible rfl)); rotate_left; (· (simp only [np]; rfl))
          refine pure_ (i := 5) (N := some 46) (v := ?_) (a' := ?_) (bl 9 63) rfl rfl (by kernel_rfl) (fun _ _ _ h => h) (Or.inl ⟨by rfl, ?_⟩) ?_ ?_; rotate_left; (· (intro w'; go_simp; with_reducible rfl)); rotate_left; (· (simp only [np]; rfl))
          refine take_ (i := 6) (N := some 47) (v := ?_) (a' := ?_) (bl 9 127) rfl rfl (by kernel_rfl) (fun _ _ _ h => h) (Or.inl ⟨by rfl, ?_⟩) hHeld ?_ ?_; rotate_left; (· (rintro w' ⟨s0, s1, s2, s3, s4, s5, s6, s7, s8, s9, s10⟩; go_simp; with_reducible rfl)); rotate_left; (· (simp only [np]; rfl))
          refine one_ (i := 7) (N := some 48) (bl 9 255) rfl rfl (by kernel_rfl) (by decide) (fun K hK => ?_)
          have HA9 := Lib.hid (HA2.out.under (below_drew (Below.refl _ _)))
          refine goes_ Tryz.func17 (by kernel_rfl) rfl #[ndV out P3 q3 P4 q4, .string key, ndV a C3 cc3 C4 cc4] (by rfl) rfl rfl (by simp only [List.map_toArray, List.map_cons, List.map_nil]; rfl) ?_
          refine (with17 W.drew (fun k => k ≠ w.heap.size + 1 + 1 ∧ k ≠ w.heap.size + 1 + 1 + 1 ∧ (P k ∧ k < w.heap.size ∨ w.heap.size ≤ k)) out a key P3 P4 C3 C4 q3 q4 cc3 cc4 HA9.out.nd (HND.out.below (below_drew (Below.refl _ _))) HA9.out.pm.len (by have h1 := HA9.out.pm.len; have h2 := HA9.out.pm.size; have h3 := HX.out.2.1.len; have h4 := H2.out.2.2.2.1; have h5 : f4.length ≤ 61 := HX.out.1.short; have h6 := H2.out.1.2.2.1; have h7 := HL.out.1; simp only at h2 h3; omega)).mono ?_
          rintro e wf ⟨out', U3, u3, U4, u4, rfl, hwp, hng, hbc⟩
          have HBF := Lib.hid hbc
          have HAF := Lib.hid (HA9.out.under hbc)
          have HNG := Lib.hid (hng.mono (Q := (fun k => k ≠ w.heap.size + 1 + 1 ∧ k ≠ w.heap.size + 1 + 1 + 1 ∧ (P k ∧ k < w.heap.size ∨ w.heap.size ≤ k))) (fun k hp => hp.elim id fun e => ⟨by have := lt_of_block HA9.out.boxo; have := HA9.out.below.size; omega, by have := lt_of_block HA9.out.boxo; have := HA9.out.below.size; omega, .inr (by have := lt_of_block HA9.out.boxo; have := HA9.out.below.size; omega)⟩))
          have HPM := Lib.hid (HA9.out.pm.new H2.out.1.2.2.1 H2.out.1.2.2.2 HK.out.1 HK.out.2.1 HTA.out.2 (fun e => HV.out (by first | exact ⟨rfl, e⟩ | exact ⟨trivial, e⟩ | exact e)) HX.out.2.2.2.1 hwp)
          clear hwp hng hbc
          refine ⟨_, rfl, ?_⟩
          refine hK.out _ _ ⟨(HBF.out.cell (World.block_lt_of_cell? _ _ hHeld.1)).trans hHeld.1, (HBF.out.cell (World.block_lt_of_cell? _ _ hHeld.2.1)).trans hHeld.2.1, (HBF.out.cell (World.block_lt_of_cell? _ _ hHeld.2.2.1)).trans hHeld.2.2.1, (HBF.out.cell (World.block_lt_of_cell? _ _ hHeld.2.2.2.1)).trans hHeld.2.2.2.1, (HBF.out.cell (World.block_lt_of_cell? _ _ hHeld.2.2.2.2.1)).trans hHeld.2.2.2.2.1, (HBF.out.cell (World.block_lt_of_cell? _ _ hHeld.2.2.2.2.2.1)).trans hHeld.2.2.2.2.2.1, (HBF.out.cell (World.block_lt_of_cell? _ _ hHeld.2.2.2.2.2.2.1)).trans hHeld.2.2.2.2.2.2.1, (HBF.out.cell (World.block_lt_of_cell? _ _ hHeld.2.2.2.2.2.2.2.1)).trans hHeld.2.2.2.2.2.2.2.1, (HBF.out.cell (World.block_lt_of_cell? _ _ hHeld.2.2.2.2.2.2.2.2.1)).trans hHeld.2.2.2.2.2.2.2.2.1, (HBF.out.cell (World.block_lt_of_cell? _ _ hHeld.2.2.2.2.2.2.2.2.2.1)).trans hHeld.2.2.2.2.2.2.2.2.2.1, (HBF.out.cell (World.block_lt_of_cell? _ _ hHeld.2.2.2.2.2.2.2.2.2.2)).trans hHeld.2.2.2.2.2.2.2.2.2.2⟩ (fun hHeld => ?_)
          clear hK K
          refine norm_ (a' := ?_) ?_ ?_; rotate_left; (· (show Act.put _ (some 48) _ = _; simp only [np]; rfl))
          refine last_ (i := 8) (N := none) (bl 9 511) rfl rfl (by kernel_rfl) (by decide) (fun K hK => ?_)
          have z0 := blk_frozen HAF.out.boxo 0
          have z1 := blk_frozen HAF.out.boxo 1
          have z2 := blk_frozen HAF.out.boxo 2
          have z3 := blk_frozen HAF.out.boxo 3
          have z4 := blk_frozen HAF.out.boxo 4
          have k0 := blk_cell HAF.out.boxo 0
          have k1 := blk_cell HAF.out.boxo 1
          have k2 := blk_cell HAF.out.boxo 2
          have k3 := blk_cell HAF.out.boxo 3
          have k4 := blk_cell HAF.out.boxo 4
          refine skip_ (w1 := ?_) (by rfl) rfl ?_ ?_
          rotate_left
          · go_simp
            rfl
          have HMN := Lib.hid (HAF.out.put rfl HPM.out HNG.out)
          clear z0 z1 z2 z3 z4 k0 k1 k2 k3 k4
          refine hK.out _ _ ?_
          clear hK K
          refine done_ (by kernel_rfl) ?_
          go_wp2_with fail
          go_roundg (gk - 1)
          case measure => omega
          case rel => exact ⟨j + 1, by omega, by go_num, Lib.hid ⟨_, _, _, _, _, HMN.out⟩⟩
      · have hqe : ¬ ((j : Int) < (L3 : Int)) := by omega
        have hqe' : ¬ (j < L3) := by omega
        have hjl : j = f3.length := by have := HL.out.1; omega
        have HPM := Lib.hid (show PX d nm ⟨2, g1, g2, g3, g4⟩ ⟨2, f1, f2, f3, f4⟩ f3.length out from hjl ▸ hmw.pm)
        have o0 : wr.cell? ⟨w.heap.size + 1 + 1 + 1, 0, none⟩ = some (.int .i64 out.f0) := (blk_cell hmw.boxo 0).trans rfl
        have o1 : wr.cell? ⟨w.heap.size + 1 + 1 + 1, 1, none⟩ = some (.string out.f1) := (blk_cell hmw.boxo 1).trans rfl
        have o2 : wr.cell? ⟨w.heap.size + 1 + 1 + 1, 2, none⟩ = some (.string out.f2) := (blk_cell hmw.boxo 2).trans rfl
        have o3 : wr.cell? ⟨w.heap.size + 1 + 1 + 1, 3, none⟩ = some (.slice P3 out.f3.length q3) := (blk_cell hmw.boxo 3).trans rfl
        have o4 : wr.cell? ⟨w.heap.size + 1 + 1 + 1, 4, none⟩ = some (.slice P4 out.f4.length q4) := (blk_cell hmw.boxo 4).trans rfl
        have r0 : wr.cell? ⟨w.heap.size + 1 + 1, 0, none⟩ = some (.int .i64 0) := (blk_cell hmw.boxr 0).trans rfl
        have rz0 : wr.frozen? ⟨w.heap.size + 1 + 1, 0, none⟩ = false := blk_frozen hmw.boxr 0
        have r1 : wr.cell? ⟨w.heap.size + 1 + 1, 1, none⟩ = some (.string noStr) := (blk_cell hmw.boxr 1).trans rfl
        have rz1 : wr.frozen? ⟨w.heap.size + 1 + 1, 1, none⟩ = false := blk_frozen hmw.boxr 1
        have r2 : wr.cell? ⟨w.heap.size + 1 + 1, 2, none⟩ = some (.string noStr) := (blk_cell hmw.boxr 2).trans rfl
        have rz2 : wr.frozen? ⟨w.heap.size + 1 + 1, 2, none⟩ = false := blk_frozen hmw.boxr 2
        have r3 : wr.cell? ⟨w.heap.size + 1 + 1, 3, none⟩ = some (nilS) := (blk_cell hmw.boxr 3).trans rfl
        have rz3 : wr.frozen? ⟨w.heap.size + 1 + 1, 3, none⟩ = false := blk_frozen hmw.boxr 3
        have r4 : wr.cell? ⟨w.heap.size + 1 + 1, 4, none⟩ = some (nilS) := (blk_cell hmw.boxr 4).trans rfl
        have rz4 : wr.frozen? ⟨w.heap.size + 1 + 1, 4, none⟩ = false := blk_frozen hmw.boxr 4
        clear hmw hI hjl hj
        go_wp2_with fail
        have hfin := HM.out.fin rfl
        exact bodyPost_ret (results_cell_row rfl _ _ (w.heap.size + 1 + 1) 25 #[.int .i64 out.f0, .string out.f1, .string out.f2, .slice P3 out.f3.length q3, .slice P4 out.f4.length q4] (0, 0) _ rfl hfin.1 Tryz.underlying25 rfl (by kernel_rfl)) rfl ⟨out, P3, q3, P4, q4, rfl, HPM.out.done H2.out.1.2.2.1 H2.out.1.2.2.2, HPM.out.bnd, hfin.2.1, hfin.2.2⟩
end Go.Proofs.YtghmajlfmoggfaaGreat
