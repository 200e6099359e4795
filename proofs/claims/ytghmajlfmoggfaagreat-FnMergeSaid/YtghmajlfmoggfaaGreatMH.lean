import Derived.Test.YtghmajlfmoggfaaGreatMG2
import Derived.Test.YtghmajlfmoggfaaGreatMS8
import Derived.Test.YtghmajlfmoggfaaGreatMX5
set_option linter.unusedSimpArgs false
set_option linter.unusedVariables false
namespace Go.Proofs.YtghmajlfmoggfaaGreat
open Go.RowKit Go.Proofs.YtghmajlfmoggfaaGreatW.PrintWords Go.Proofs.YtghmajlfmoggfaaGreatW.PrintLast PFnMerge
theorem nodup_len_le {l m : List ByteArray} (hl : l.Nodup) (h : ∀ k ∈ l, k ∈ m) : l.length ≤ m.length := by
  haveI : LawfulBEq ByteArray := { eq_of_beq := fun h => (MapKept.bytes_beq _ _).1 h, rfl := (MapKept.bytes_beq _ _).2 rfl }
  induction l generalizing m with
  | nil => simp
  | cons a l ih =>
    have ha : a ∈ m := h a (by simp)
    have hn := List.nodup_cons.1 hl
    have := ih (m := m.erase a) hn.2 fun k hk => (List.mem_erase_of_ne (by rintro rfl; exact hn.1 hk)).2 (h k (by simp [hk]))
    rw [List.length_erase_of_mem ha] at this
    have : 0 < m.length := List.length_pos_of_mem ha
    simp only [List.length_cons]; omega
theorem fld_key {x : S25} {key : ByteArray} {v : S25} (h : fld x key v) : key ∈ x.f3 := by
  obtain ⟨i, h1, _⟩ := fld_at' h
  exact List.mem_of_getElem? h1
theorem fld_mem {x : S25} {key : ByteArray} {v : S25} (h : fld x key v) : v ∈ x.f4 := by
  obtain ⟨i, _, h1⟩ := fld_at' h
  exact List.mem_of_getElem? h1
theorem fld_has {x : S25} (hl : x.f3.length = x.f4.length) {key : ByteArray} (h : key ∈ x.f3) : ∃ v, fld x key v := by
  obtain ⟨i, hi⟩ := List.getElem?_of_mem h
  have hlt : i < x.f3.length := by
    rcases Nat.lt_or_ge i x.f3.length with h | h
    · exact h
    · rw [List.getElem?_eq_none h] at hi; cases hi
  exact ⟨_, fld_mk hi (List.getElem?_eq_getElem (hl ▸ hlt))⟩
theorem fld_one {x : S25} (hn : x.f3.Nodup) {key : ByteArray} {v v' : S25} (h : fld x key v) (h' : fld x key v') : v = v' := by
  obtain ⟨i, h1, h2⟩ := fld_at' h
  obtain ⟨j, h3, h4⟩ := fld_at' h'
  have hi : i < x.f3.length := by
    rcases Nat.lt_or_ge i x.f3.length with h | h
    · exact h
    · rw [List.getElem?_eq_none h] at h1; cases h1
  have : i = j := (List.getElem?_inj hi hn).1 (h1.trans h3.symm)
  subst this
  rw [h2] at h4
  injection h4
def SameR : Nat → S25 → S25 → Prop
  | 0, _, _ => False
  | n + 1, a, b => a.f0 = b.f0 ∧ a.f1 = b.f1 ∧ (a.f0 = 1 → a.f2 = b.f2) ∧ a.f3.length = b.f3.length ∧ a.f4.length = b.f4.length ∧
    (a.f0 = 2 → b.f3.Nodup ∧ a.f3.length = a.f4.length ∧ ∀ key v, fld a key v → ∃ v', fld b key v' ∧ SameR n v v') ∧ (a.f0 ≠ 2 → ∀ (i : Nat) x y, a.f4[i]? = some x → b.f4[i]? = some y → SameR n x y)
def TreeN : Nat → S25 → Prop
  | 0, _ => False
  | n + 1, x => (x.f0 = 1 ∧ x.f3 = [] ∧ x.f4 = []) ∨ (x.f0 = 2 ∧ x.f1 = noStr ∧ x.f2 = noStr ∧ x.f3.length = x.f4.length ∧ x.f4.length ≤ 100 ∧ x.f3.Nodup ∧ ∀ z ∈ x.f4, TreeN n z) ∨ (x.f0 = 3 ∧ x.f1 = noStr ∧ x.f2 = noStr ∧ x.f3 = [] ∧ x.f4.length ≤ 100 ∧ ∀ z ∈ x.f4, TreeN n z)
theorem TreeN.same : ∀ {n : Nat} {x : S25}, TreeN n x → SameR n x x := by
  intro n
  induction n with
  | zero => intro x h; exact h.elim
  | succ n ih =>
    intro x h
    refine ⟨rfl, rfl, fun _ => rfl, rfl, rfl, fun h2 => ?_, fun h2 i a b ha hb => ?_⟩
    · rcases h with ⟨h1, _⟩ | ⟨_, _, _, h3, _, h5, h6⟩ | ⟨h1, _⟩
      · omega
      · exact ⟨h5, h3, fun key v hv => ⟨v, hv, ih (h6 v (fld_mem hv))⟩⟩
      · omega
    · rw [ha] at hb
      injection hb with hb
      subst hb
      have hm := List.mem_of_getElem? ha
      rcases h with ⟨_, _, h1⟩ | ⟨h1, _⟩ | ⟨_, _, _, _, _, h6⟩
      · rw [h1] at hm; cases hm
      · exact absurd h1 h2
      · exact ih (h6 a hm)
theorem TreeN.size : ∀ {n : Nat} {x : S25}, TreeN n x → SzN n x := by
  intro n
  induction n with
  | zero => intro x h; exact h.elim
  | succ n ih =>
    intro x h
    rcases h with ⟨_, _, h1⟩ | ⟨_, _, _, _, h4, _, h6⟩ | ⟨_, _, _, _, h4, h6⟩
    · rw [SzN, h1]; exact ⟨by simp, by simp⟩
    · exact ⟨by omega, fun z hz => ih (h6 z hz)⟩
    · exact ⟨by omega, fun z hz => ih (h6 z hz)⟩
theorem TreeN.wf : ∀ {n : Nat} {x : S25}, TreeN n x → WfN n x := by
  intro n
  induction n with
  | zero => intro x h; exact h.elim
  | succ n ih =>
    intro x h
    rcases h with h | ⟨h1, h2, h3, h4, h5, _, h6⟩ | ⟨h1, h2, h3, h4, h5, h6⟩
    · exact .inl h
    · exact .inr (.inl ⟨h1, h2, h3, h4, by omega, fun z hz => ih (h6 z hz)⟩)
    · exact .inr (.inr ⟨h1, h2, h3, h4, by omega, fun z hz => ih (h6 z hz)⟩)
theorem mrel_same : ∀ {n : Nat} {d s m m' : S25}, TreeN n d → TreeN n s → AlikeN n d s → MRel n d s m → MRel n d s m' → SameR n m m' := by
  intro n
  induction n with
  | zero => intro d s m m' h; exact h.elim
  | succ n ih =>
    intro d s m m' hd hs hal h h'
    by_cases h2 : d.f0 = 2
    · rcases h with ⟨h0, _⟩ | ⟨_, m0, m1, m2, ml, mn, mk, mv⟩
      · exact absurd h2 h0
      rcases h' with ⟨h0, _⟩ | ⟨_, p0, p1, p2, pl, pn, pk, pv⟩
      · exact absurd h2 h0
      have hd' : d.f3.Nodup ∧ ∀ z ∈ d.f4, TreeN n z := by
        rcases hd with ⟨h1, _⟩ | ⟨_, _, _, _, _, h5, h6⟩ | ⟨h1, _⟩
        · omega
        · exact ⟨h5, h6⟩
        · omega
      have hs' : s.f3.Nodup ∧ ∀ z ∈ s.f4, TreeN n z := by
        have := hal.1
        rcases hs with ⟨h1, _⟩ | ⟨_, _, _, _, _, h5, h6⟩ | ⟨h1, _⟩
        · omega
        · exact ⟨h5, h6⟩
        · omega
      have hle : m.f3.length = m'.f3.length := Nat.le_antisymm (nodup_len_le mn fun k hk => (pk k).2 ((mk k).1 hk)) (nodup_len_le pn fun k hk => (mk k).2 ((pk k).1 hk))
      refine ⟨m0.trans p0.symm, m1.trans p1.symm, fun h1 => by omega, hle, by omega, fun _ => ⟨pn, ml, fun key v hv => ?_⟩, fun h1 => absurd m0 h1⟩
      obtain ⟨v', hv'⟩ := fld_has pl ((pk key).2 ((mk key).1 (fld_key hv)))
      refine ⟨v', hv', ?_⟩
      rcases mv key v hv with ⟨a, b, ha, hb, hr⟩ | ⟨ha, hn⟩ | ⟨ha, hn⟩
      · rcases pv key v' hv' with ⟨a', b', ha', hb', hr'⟩ | ⟨_, hn'⟩ | ⟨_, hn'⟩
        · obtain rfl := fld_one hd'.1 ha ha'
          obtain rfl := fld_one hs'.1 hb hb'
          exact ih (hd'.2 a (fld_mem ha)) (hs'.2 b (fld_mem hb)) (hal.2 h2 key a b ha hb) hr hr'
        · exact absurd (fld_key hb) hn'
        · exact absurd (fld_key ha) hn'
      · rcases pv key v' hv' with ⟨a', b', ha', hb', hr'⟩ | ⟨ha', _⟩ | ⟨hb', hn'⟩
        · exact absurd (fld_key hb') hn
        · obtain rfl := fld_one hd'.1 ha ha'
          exact (hd'.2 v (fld_mem ha)).same
        · exact absurd (fld_key hb') hn
      · rcases pv key v' hv' with ⟨a', b', ha', hb', hr'⟩ | ⟨ha', _⟩ | ⟨hb', hn'⟩
        · exact absurd (fld_key ha') hn
        · exact absurd (fld_key ha') hn
        · obtain rfl := fld_one hs'.1 ha hb'
          exact (hs'.2 v (fld_mem ha)).same
    · rcases h with ⟨_, rfl⟩ | ⟨h0, _⟩
      · rcases h' with ⟨_, rfl⟩ | ⟨h0, _⟩
        · exact hs.same
        · exact absurd h0 h2
      · exact absurd h0 h2
theorem mrel_size : ∀ {n : Nat} {d s m : S25}, TreeN n d → TreeN n s → AlikeN n d s → MRel n d s m → SzN n m := by
  intro n
  induction n with
  | zero => intro d s m h; exact h.elim
  | succ n ih =>
    intro d s m hd hs hal h
    rcases h with ⟨_, rfl⟩ | ⟨h2, m0, m1, m2, ml, mn, mk, mv⟩
    · exact hs.size
    have hd' : d.f3.length ≤ 100 ∧ ∀ z ∈ d.f4, TreeN n z := by
      rcases hd with ⟨h1, _⟩ | ⟨_, _, _, h3, h4, h5, h6⟩ | ⟨h1, _⟩
      · omega
      · exact ⟨by omega, h6⟩
      · omega
    have hs' : s.f3.length ≤ 100 ∧ ∀ z ∈ s.f4, TreeN n z := by
      have := hal.1
      rcases hs with ⟨h1, _⟩ | ⟨_, _, _, h3, h4, h5, h6⟩ | ⟨h1, _⟩
      · omega
      · exact ⟨by omega, h6⟩
      · omega
    have hle : m.f3.length ≤ (d.f3 ++ s.f3).length := nodup_len_le mn fun k hk => List.mem_append.2 ((mk k).1 hk)
    rw [List.length_append] at hle
    refine ⟨by omega, fun z hz => ?_⟩
    obtain ⟨i, hi⟩ := List.getElem?_of_mem hz
    have hlt : i < m.f4.length := by
      rcases Nat.lt_or_ge i m.f4.length with h | h
      · exact h
      · rw [List.getElem?_eq_none h] at hi; cases hi
    rcases mv _ z (fld_mk (List.getElem?_eq_getElem (ml ▸ hlt)) hi) with ⟨a, b, ha, hb, hr⟩ | ⟨ha, hn⟩ | ⟨ha, hn⟩
    · exact ih (hd'.2 a (fld_mem ha)) (hs'.2 b (fld_mem hb)) (hal.2 h2 _ a b ha hb) hr
    · exact (hd'.2 z (fld_mem ha)).size
    · exact (hs'.2 z (fld_mem ha)).size
end Go.Proofs.YtghmajlfmoggfaaGreat
namespace Go.Proofs.YtghmajlfmoggfaaGreat
open Go.RowKit Go.Proofs.YtghmajlfmoggfaaGreatW.PrintWords Go.Proofs.YtghmajlfmoggfaaGreatW.PrintLast PFnMerge
abbrev sameF (k : Nat) (a b : S25) : Option Bool := spec_Same.f k a.f0 a.f1 a.f2 a.f3 a.f4 b.f0 b.f1 b.f2 b.f3 b.f4 true
abbrev sameL (k : Nat) (a b : S25) (j : Int) : Option Bool := spec_Same.l0 k true (a.f4.length : Int) j a.f0 a.f1 a.f2 a.f3 a.f4 b.f0 b.f1 b.f2 b.f3 b.f4
theorem sameF_le {a b : S25} {r : Bool} {k k' : Nat} (h : k ≤ k') (hk : sameF k a b = some r) : sameF k' a b = some r := by
  induction h with
  | refl => exact hk
  | step _ ih => exact spec_Same.mono _ _ _ _ _ _ _ _ _ _ _ _ _ ih
theorem sameL_le {a b : S25} {r : Bool} {j : Int} {k k' : Nat} (h : k ≤ k') (hk : sameL k a b j = some r) : sameL k' a b j = some r := by
  induction h with
  | refl => exact hk
  | step _ ih => exact (spec_Same.mono_l _).2.2.1 _ _ _ _ _ _ _ _ _ _ _ _ _ _ ih
theorem place_le {l : List ByteArray} {s : ByteArray} {r : Int} {k k' : Nat} (h : k ≤ k') (hk : spec_Place.f k l s = some r) : spec_Place.f k' l s = some r := by
  induction h with
  | refl => exact hk
  | step _ ih => exact spec_Place.mono _ _ _ _ ih
theorem rd_at {l : List S25} {j : Nat} {y : S25} (h : l[j]? = some y) : rd_T25 l (j : Int) = y := by simp [rd_T25, List.getD, h]
theorem rk_at {l : List ByteArray} {j : Nat} {y : ByteArray} (h : l[j]? = some y) : rdOf ByteArray.empty l (j : Int) = y := by simp [rdOf, List.getD, h]
theorem same_loop {n : Nat} {a b : S25} (ih : ∀ x y : S25, SameR n x y → SzN n x → ∃ k, sameF k x y = some true) (h : SameR (n + 1) a b) (hz : SzN (n + 1) a) : ∀ m j : Nat, j + m = a.f4.length → ∃ k, sameL k a b (j : Int) = some true := by
  intro m
  induction m with
  | zero =>
    intro j hj
    exact ⟨1, by rw [sameL, spec_Same.l0, if_neg (by omega)]⟩
  | succ m ihm =>
    intro j hj
    obtain ⟨h0, h1, h2, h3, h4, h5, h6⟩ := h
    obtain ⟨k2, hk2⟩ := ihm (j + 1) (by omega)
    have hlt : j < a.f4.length := by omega
    obtain ⟨x, hx⟩ : ∃ x, a.f4[j]? = some x := ⟨_, List.getElem?_eq_getElem hlt⟩
    have hsz := hz.1
    have hzx := hz.2 x (List.mem_of_getElem? hx)
    have hw : wrap64 ((j : Int) + 1) = ((j + 1 : Nat) : Int) := by unfold wrap64; omega
    by_cases hf : a.f0 = 2
    · obtain ⟨hnd, hl, hv⟩ := h5 hf
      obtain ⟨key, hkey⟩ : ∃ key, a.f3[j]? = some key := ⟨_, List.getElem?_eq_getElem (by omega)⟩
      obtain ⟨v', hv', hs⟩ := hv key x (fld_mk hkey hx)
      obtain ⟨i', hi1, hi2⟩ := fld_at' hv'
      obtain ⟨k1, hk1⟩ := ih x v' hs hzx
      obtain ⟨k3, r, hk3, hr⟩ := place_some b.f3 key (by omega)
      rcases hr with ⟨_, hn⟩ | ⟨i, rfl, hil, hi⟩
      · exact absurd (List.mem_of_getElem? hi1) hn
      · have : i' = i := (List.getElem?_inj (idx_lt hi1) hnd).1 (hi1.trans hi.symm)
        subst this
        have hi4 := idx_lt hi2
        obtain ⟨K, hK⟩ : ∃ K, K = k1 + k2 + k3 := ⟨_, rfl⟩
        have hj2 : spec_Same.j2 (K + 1) true (j : Int) (i' : Int) (a.f4.length : Int) (j : Int) false a.f0 a.f1 a.f2 a.f3 a.f4 b.f0 b.f1 b.f2 b.f3 b.f4 = some true := by
          rw [spec_Same.j2, if_neg (by simp), if_pos (by omega), if_pos (by omega), if_pos (by omega), if_pos (by omega), rd_at hx, rd_at hi2, show spec_Same.f K x.f0 x.f1 x.f2 x.f3 x.f4 v'.f0 v'.f1 v'.f2 v'.f3 v'.f4 true = some true from sameF_le (by omega) hk1]
          simp only [Option.bind_some, if_true]
          rw [hw]
          exact sameL_le (by omega) hk2
        refine ⟨K + 2, ?_⟩
        rw [sameL, spec_Same.l0, if_pos (by omega), if_pos hf, if_pos (by omega), if_pos (by omega), rk_at hkey, place_le (show k3 ≤ K + 1 by omega) hk3]
        simp only [Option.bind_some, Bool.not_true]
        rw [if_neg (by omega)]
        split
        · exact hj2
        · exact hj2
    · obtain ⟨y, hy⟩ : ∃ y, b.f4[j]? = some y := ⟨_, List.getElem?_eq_getElem (by omega)⟩
      obtain ⟨k1, hk1⟩ := ih x y (h6 hf j x y hx hy) hzx
      refine ⟨k1 + k2 + 1, ?_⟩
      rw [sameL, spec_Same.l0, if_pos (by omega), if_neg hf, if_pos (by omega), if_pos (by omega), if_pos (by omega), rd_at hx, rd_at hy, show spec_Same.f (k1 + k2) x.f0 x.f1 x.f2 x.f3 x.f4 y.f0 y.f1 y.f2 y.f3 y.f4 true = some true from sameF_le (by omega) hk1]
      simp only [Option.bind_some, if_true]
      rw [hw]
      exact sameL_le (by omega) hk2
theorem same_true : ∀ (n : Nat) (a b : S25), SameR n a b → SzN n a → ∃ k, sameF k a b = some true := by
  intro n
  induction n with
  | zero => intro a b h; exact h.elim
  | succ n ih =>
    intro a b h hz
    obtain ⟨K, hK⟩ := same_loop ih h hz a.f4.length 0 (by omega)
    obtain ⟨h0, h1, h2, h3, h4, _, _⟩ := h
    refine ⟨K + 2, ?_⟩
    have hj0 : spec_Same.j0 (K + 1) true ((a.f4.length : Int) != (b.f4.length : Int)) a.f0 a.f1 a.f2 a.f3 a.f4 b.f0 b.f1 b.f2 b.f3 b.f4 = some true := by
      rw [h4, bne_self_eq_false, spec_Same.j0, if_neg (by simp)]
      exact hK
    rw [sameF, spec_Same.f, if_pos h0, if_pos (by rw [h1])]
    by_cases hf : a.f0 = 1
    · rw [if_pos hf, if_pos (by rw [h2 hf]), if_pos (by omega)]
      exact hj0
    · rw [if_neg hf, if_pos (by omega)]
      exact hj0
end Go.Proofs.YtghmajlfmoggfaaGreat
