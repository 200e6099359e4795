import Derived.Laws.Strings
import Derived.Lib.Hide
import Derived.Test.YtghmajlfmoggfaaGreatMX1
import Derived.Test.YtghmajlfmoggfaaGreatMX0
import Derived.Test.YtghmajlfmoggfaaGreatMA
set_option linter.unusedSimpArgs false
set_option linter.unusedVariables false
namespace Go.Proofs.YtghmajlfmoggfaaGreat
open Go.RowKit Go.Proofs.YtghmajlfmoggfaaGreatW.PrintWords Go.Proofs.YtghmajlfmoggfaaGreatW.PrintLast PFnMerge
theorem wr (n : Int) (h1 : -9223372036854775808 ≤ n) (h2 : n ≤ 9223372036854775807) : wrap64 n = n := by unfold wrap64; omega
theorem toList_inj {a b : ByteArray} (h : a.toList = b.toList) : a = b := by
 rw [ByteArray.toList_eq, ByteArray.toList_eq] at h
 cases a; cases b
 simp only at h
 congr 1
 exact Array.ext' h
theorem place_at (l : List ByteArray) (a : ByteArray) (hl : l.length ≤ 9223372036854775807) : ∀ (m j : Nat), j + m = l.length →
  ∃ k r, spec_Place.l0 k l a (l.length : Int) (j : Int) = some r ∧ (r = -1 ∧ (∀ i : Nat, j ≤ i → l[i]? ≠ some a) ∨ ∃ i : Nat, r = (i : Int) ∧ j ≤ i ∧ l[i]? = some a ∧ ∀ i' : Nat, j ≤ i' → i' < i → l[i']? ≠ some a) := by
 intro m
 induction m with
 | zero =>
  intro j hj
  refine ⟨1, -1, ?_, .inl ⟨rfl, fun i hi => ?_⟩⟩
  ·rw [spec_Place.l0, if_neg (by omega)]
  ·rw [List.getElem?_eq_none (by omega)]; simp
 | succ m ih =>
  intro j hj
  have hlt : j < l.length := by omega
  have hg : rdOf ByteArray.empty l (j : Int) = l[j] := by simp [rdOf, List.getD, hlt]
  by_cases h : l[j] = a
  ·refine ⟨1, (j : Int), ?_, .inr ⟨j, rfl, Nat.le_refl _, by rw [List.getElem?_eq_getElem hlt, h], fun i' h1 h2 => by omega⟩⟩
   rw [spec_Place.l0, if_pos (by omega), if_pos (by omega), if_pos (by omega), hg, h, if_pos rfl]
  ·obtain ⟨k, r, hk, hr⟩ := ih (j + 1) (by omega)
   refine ⟨k + 1, r, ?_, ?_⟩
   ·rw [spec_Place.l0, if_pos (by omega), if_pos (by omega), if_pos (by omega), hg, if_neg (fun e => h (toList_inj e)), wr _ (by omega) (by omega)]
    exact hk
   ·have hne : l[j]? ≠ some a := by rw [List.getElem?_eq_getElem hlt]; intro e; injection e with e; exact h e
    rcases hr with ⟨h1, h2⟩ | ⟨i, h1, h2, h3, h4⟩
    ·refine .inl ⟨h1, fun i hi => ?_⟩
     rcases Nat.lt_or_ge j i with h5 | h5
     ·exact h2 i h5
     ·obtain rfl : i = j := by omega
      exact hne
    ·refine .inr ⟨i, h1, by omega, h3, fun i' h5 h6 => ?_⟩
     rcases Nat.lt_or_ge j i' with h7 | h7
     ·exact h4 i' h7 h6
     ·obtain rfl : i' = j := by omega
      exact hne
theorem place_some (l : List ByteArray) (a : ByteArray) (hl : l.length ≤ 9223372036854775807) : ∃ k r, spec_Place.f k l a = some r ∧ (r = -1 ∧ a ∉ l ∨ ∃ i : Nat, r = (i : Int) ∧ i < l.length ∧ l[i]? = some a) := by
 obtain ⟨k, r, h1, h2⟩ := place_at l a hl l.length 0 (by omega)
 refine ⟨k, r, h1, ?_⟩
 rcases h2 with ⟨h2, h3⟩ | ⟨i, h2, _, h3, _⟩
 ·refine .inl ⟨h2, fun hm => ?_⟩
  obtain ⟨i, hi⟩ := List.getElem?_of_mem hm
  exact h3 i (by omega) hi
 ·exact .inr ⟨i, h2, (List.getElem?_eq_some_iff.1 h3).1, h3⟩
def okB (b : Int) : Prop := (97 ≤ b ∧ b ≤ 122) ∨ (48 ≤ b ∧ b ≤ 57) ∨ b = 45
structure WordP (s : ByteArray) : Prop where
 pos : 1 ≤ s.size
 le : s.size ≤ 20
 first : 97 ≤ bt s 0 ∧ bt s 0 ≤ 122
 all : ∀ i : Nat, i < s.size → okB (bt s (i : Int))
 t : s.toList ≠ [116, 114, 117, 101]
 f : s.toList ≠ [102, 97, 108, 115, 101]
 n : s.toList ≠ [110, 117, 108, 108]
structure DigP (s : ByteArray) : Prop where
 pos : 1 ≤ s.size
 le : s.size ≤ 9
 all : ∀ i : Nat, i < s.size → 48 ≤ bt s (i : Int) ∧ bt s (i : Int) ≤ 57
theorem word_at (s : ByteArray) (hs : s.size ≤ 9223372036854775807) : ∀ (m j : Nat), j + m = s.size →
  ∃ k r, spec_IsWord.l0 k s (j : Int) = some r ∧ (r = true → (1 ≤ s.size ∧ s.size ≤ 20 ∧ s.toList ≠ [116, 114, 117, 101] ∧ s.toList ≠ [102, 97, 108, 115, 101] ∧ s.toList ≠ [110, 117, 108, 108]) ∧ ∀ i : Nat, j ≤ i → i < s.size → (97 ≤ bt s (i : Int) ∧ bt s (i : Int) ≤ 122) ∨ i ≠ 0 ∧ okB (bt s (i : Int))) := by
 intro m
 induction m with
 | zero =>
  intro j hj
  by_cases h1 : s.toList = [116, 114, 117, 101]
  ·exact ⟨1, false, by rw [spec_IsWord.l0, if_neg (by omega), if_pos h1], by simp⟩
  by_cases h2 : s.toList = [102, 97, 108, 115, 101]
  ·exact ⟨1, false, by rw [spec_IsWord.l0, if_neg (by omega), if_neg h1, if_pos h2], by simp⟩
  by_cases h3 : s.toList = [110, 117, 108, 108]
  ·exact ⟨1, false, by rw [spec_IsWord.l0, if_neg (by omega), if_neg h1, if_neg h2, if_pos h3], by simp⟩
  by_cases h4 : 1 ≤ s.size ∧ s.size ≤ 20
  ·refine ⟨1, ?_⟩
   rw [spec_IsWord.l0, if_neg (by omega), if_neg h1, if_neg h2, if_neg h3, if_pos (show (s.size : Int) ≥ 1 by omega), if_pos (show (s.size : Int) ≤ 20 by omega), wr _ (by omega) (by omega), if_pos (show 0 ≤ (s.size : Int) - 1 by omega), if_pos (show (s.size : Int) - 1 < (s.size : Int) by omega)]
   have key : ∀ o : Option Bool, (∃ r, o = some r) → ∃ r, o = some r ∧ (r = true → (1 ≤ s.size ∧ s.size ≤ 20 ∧ s.toList ≠ [116, 114, 117, 101] ∧ s.toList ≠ [102, 97, 108, 115, 101] ∧ s.toList ≠ [110, 117, 108, 108]) ∧ ∀ i : Nat, j ≤ i → i < s.size → (97 ≤ bt s (i : Int) ∧ bt s (i : Int) ≤ 122) ∨ i ≠ 0 ∧ okB (bt s (i : Int))) := by
    rintro o ⟨r, hr⟩
    exact ⟨r, hr, fun _ => ⟨⟨h4.1, h4.2, h1, h2, h3⟩, fun i h5 h6 => by omega⟩⟩
   refine key _ ?_
   repeat' split
   all_goals exact ⟨_, rfl⟩
  ·refine ⟨1, false, ?_, by simp⟩
   rw [spec_IsWord.l0, if_neg (by omega), if_neg h1, if_neg h2, if_neg h3]
   repeat' split
   all_goals first | rfl | (exfalso; omega)
 | succ m ih =>
  intro j hj
  obtain ⟨k, r, hk, hr⟩ := ih (j + 1) (by omega)
  have hw : wrap64 ((j : Int) + 1) = ((j + 1 : Nat) : Int) := by rw [wr _ (by omega) (by omega)]; omega
  by_cases hb : (97 ≤ bt s (j : Int) ∧ bt s (j : Int) ≤ 122) ∨ j ≠ 0 ∧ okB (bt s (j : Int))
  ·refine ⟨k + 1, r, ?_, fun h => ⟨(hr h).1, fun i h1 h2 => ?_⟩⟩
   ·rw [spec_IsWord.l0, if_pos (by omega), if_pos (by omega), hw]
    unfold okB at hb
    repeat' split
    all_goals first | exact hk | (exfalso; omega)
   ·rcases Nat.lt_or_ge j i with h5 | h5
    ·exact (hr h).2 i h5 h2
    ·obtain rfl : i = j := by omega
     exact hb
  ·refine ⟨k + 1, false, ?_, by simp⟩
   rw [spec_IsWord.l0, if_pos (by omega), if_pos (by omega), hw]
   unfold okB at hb
   repeat' split
   all_goals first | rfl | (exfalso; omega)
theorem word_some (s : ByteArray) (hs : s.size ≤ 9223372036854775807) : ∃ k r, spec_IsWord.f k s = some r ∧ (r = true → WordP s) := by
 obtain ⟨k, r, h1, h2⟩ := word_at s hs s.size 0 (by omega)
 refine ⟨k, r, h1, fun h => ?_⟩
 obtain ⟨⟨h3, h4, h5, h6, h7⟩, h8⟩ := h2 h
 refine ⟨h3, h4, ?_, fun i hi => ?_, h5, h6, h7⟩
 ·rcases h8 0 (by omega) (by omega) with h9 | ⟨h9, _⟩
  ·exact h9
  ·exact absurd rfl h9
 ·rcases h8 i (by omega) hi with h9 | ⟨_, h9⟩
  ·exact .inl h9
  ·exact h9
theorem scal_at (f0 : Int) (s tag : ByteArray) (f3 : List ByteArray) (f4 : List S25) (hs : s.size ≤ 9223372036854775807) : ∀ (m j : Nat), j + m = s.size →
  ∃ k r, spec_isScalar.l0 k (j : Int) f0 s tag f3 f4 = some r ∧ (r = true → tag.toList = [33, 33, 105, 110, 116] ∧ 1 ≤ s.size ∧ s.size ≤ 9 ∧ ∀ i : Nat, j ≤ i → i < s.size → 48 ≤ bt s (i : Int) ∧ bt s (i : Int) ≤ 57) := by
 intro m
 induction m with
 | zero =>
  intro j hj
  by_cases h1 : tag.toList = [33, 33, 105, 110, 116]
  ·by_cases h2 : (s.size : Int) ≥ 1
   ·refine ⟨1, decide ((s.size : Int) ≤ 9), by rw [spec_isScalar.l0, if_neg (by omega), if_pos h1, if_pos h2], fun h => ?_⟩
    have := of_decide_eq_true h
    exact ⟨h1, by omega, by omega, fun i h5 h6 => by omega⟩
   ·exact ⟨1, false, by rw [spec_isScalar.l0, if_neg (by omega), if_pos h1, if_neg h2], by simp⟩
  ·exact ⟨1, false, by rw [spec_isScalar.l0, if_neg (by omega), if_neg h1], by simp⟩
 | succ m ih =>
  intro j hj
  obtain ⟨k, r, hk, hr⟩ := ih (j + 1) (by omega)
  have hw : wrap64 ((j : Int) + 1) = ((j + 1 : Nat) : Int) := by rw [wr _ (by omega) (by omega)]; omega
  by_cases h1 : bt s (j : Int) < 48
  ·exact ⟨1, false, by rw [spec_isScalar.l0, if_pos (by omega), if_pos (by omega), if_pos h1], by simp⟩
  by_cases h2 : bt s (j : Int) > 57
  ·exact ⟨1, false, by rw [spec_isScalar.l0, if_pos (by omega), if_pos (by omega), if_neg h1, if_pos h2], by simp⟩
  by_cases h3 : bt s 0 = 48
  ·exact ⟨1, false, by rw [spec_isScalar.l0, if_pos (by omega), if_pos (by omega), if_neg h1, if_neg h2, if_pos (by omega), if_pos h3], by simp⟩
  refine ⟨k + 1, r, by rw [spec_isScalar.l0, if_pos (by omega), if_pos (by omega), if_neg h1, if_neg h2, if_pos (by omega), if_neg h3, hw]; exact hk, fun h => ?_⟩
  obtain ⟨h5, h6, h7, h8⟩ := hr h
  refine ⟨h5, h6, h7, fun i h9 h10 => ?_⟩
  rcases Nat.lt_or_ge j i with h11 | h11
  ·exact h8 i h11 h10
  ·obtain rfl : i = j := by omega
   omega
def ScalP (s tag : ByteArray) : Prop := (tag.toList = [33, 33, 115, 116, 114] ∧ WordP s) ∨ (tag.toList = [33, 33, 105, 110, 116] ∧ DigP s)
theorem scalar_some (f0 : Int) (s tag : ByteArray) (f3 : List ByteArray) (f4 : List S25) (hs : s.size ≤ 9223372036854775807) : ∃ k r, spec_isScalar.f k f0 s tag f3 f4 = some r ∧ (r = true → f3 = [] ∧ f4 = [] ∧ ScalP s tag) := by
 by_cases h3 : (f3.length : Int) > 0
 ·exact ⟨1, false, by rw [spec_isScalar.f, if_pos h3, spec_isScalar.j0, if_pos rfl], by simp⟩
 by_cases h4 : (f4.length : Int) > 0
 ·exact ⟨1, false, by rw [spec_isScalar.f, if_neg h3, decide_eq_true h4, spec_isScalar.j0, if_pos rfl], by simp⟩
 have e3 : f3 = [] := List.eq_nil_of_length_eq_zero (by omega)
 have e4 : f4 = [] := List.eq_nil_of_length_eq_zero (by omega)
 by_cases ht : tag.toList = [33, 33, 115, 116, 114]
 ·obtain ⟨k, r, hk, hr⟩ := word_some s hs
  exact ⟨k + 1, r, by rw [spec_isScalar.f, if_neg h3, decide_eq_false h4, spec_isScalar.j0, if_neg (by simp), if_pos ht, hk]; rfl, fun h => ⟨e3, e4, .inl ⟨ht, hr h⟩⟩⟩
 ·obtain ⟨k, r, hk, hr⟩ := scal_at f0 s tag f3 f4 hs s.size 0 (by omega)
  refine ⟨k + 1, r, by rw [spec_isScalar.f, if_neg h3, decide_eq_false h4, spec_isScalar.j0, if_neg (by simp), if_neg ht]; exact hk, fun h => ⟨e3, e4, ?_⟩⟩
  obtain ⟨h5, h6, h7, h8⟩ := hr h
  exact .inr ⟨h5, h6, h7, fun i hi => h8 i (by omega) hi⟩
theorem tag_ne {tag : ByteArray} (h : tag.toList = [33, 33, 115, 116, 114] ∨ tag.toList = [33, 33, 105, 110, 116]) : (tag.toList == [33, 33, 110, 117, 108, 108]) = false ∧ tag.toList ≠ [] := by
 rcases h with h | h <;> rw [h] <;> exact ⟨by decide, by decide⟩
theorem ScalP.tag_ne {s tag : ByteArray} (h : ScalP s tag) : (tag.toList == [33, 33, 110, 117, 108, 108]) = false ∧ tag.toList ≠ [] := by
 rcases h with ⟨h, _⟩ | ⟨h, _⟩
 ·exact Go.Proofs.YtghmajlfmoggfaaGreat.tag_ne (.inl h)
 ·exact Go.Proofs.YtghmajlfmoggfaaGreat.tag_ne (.inr h)
theorem bt_head {s : ByteArray} {a : UInt8} {l : List UInt8} (h : s.toList = a :: l) : bt s 0 = (a.toNat : Int) := by
 rw [ByteArray.toList_eq] at h
 obtain ⟨⟨d⟩⟩ := s
 simp only at h
 subst h
 rfl
def SaysQ (r : Bool) (w : World) (e : Ending) (w' : World) : Prop := e = .returned (.bool r) ∧ ∃ nd, w' = w.drewN nd
set_option maxRecDepth 20000 in
set_option maxHeartbeats 4000000 in
theorem plain52 (s : ByteArray) (h1 : 1 ≤ s.size) (h2 : s.size ≤ 40) (h0 : bt s 0 ≠ 45) (hall : ∀ i : Nat, i < s.size → okB (bt s (i : Int))) (w : World) :
  Calls Tryz.prog 52 #[.string s] w fun e w' => SaysQ true w e w' := by
 obtain ⟨L, hL⟩ : ∃ L, L = s.size := ⟨_, rfl⟩
 have HA := Lib.hid (And.intro h0 hall)
 have p1 : (1 : Int) ≤ (s.size : Int) := by omega
 have p2 : (s.size : Int) ≤ 40 := by omega
 clear h0 hall h1 h2
 go_enter Tryz.func52, Tryz.ntmps52
 go_wp2_with fail
 go_loopg [8] L (fun k i wr => ∃ j : Nat, j + k = L ∧ i = .int .i64 (j : Int) ∧ ∃ nd, wr = w.drewN nd)
 case atStart => exact ⟨0, by omega, rfl, by first | exact ⟨0, rfl⟩ | exact ⟨1, rfl⟩ | exact ⟨2, rfl⟩ | exact ⟨3, rfl⟩⟩
 case round =>
  obtain ⟨j, hj, rfl, nd, rfl⟩ := hrel
  by_cases hlt : 1 ≤ gk
  ·have q1 : (j : Int) < (s.size : Int) := by omega
   have q2 : j < s.size := by omega
   obtain ⟨b, hb⟩ : ∃ b, b = bt s (j : Int) := ⟨_, rfl⟩
   have hx : ∀ h : j < s.size, ((s[j]'h).toNat : Int) = b := fun h => (bt_at s (j : Int) h).trans hb.symm
   have ho := HA.out.2 j q2
   have hn : b = 45 → j ≠ 0 := by
    rintro h rfl
    exact HA.out.1 (hb.symm.trans h)
   rw [← hb] at ho
   clear hb
   by_cases a1 : 97 ≤ b
   ·have a2 : b ≤ 122 := by unfold okB at ho; omega
    clear ho hn
    go_wp2_with fail
    go_roundg (gk - 1)
    case measure => omega
    case rel => exact ⟨j + 1, by omega, by go_num, _, rfl⟩
   ·have a2 : ¬ 65 ≤ b := by unfold okB at ho; omega
    by_cases a3 : 48 ≤ b
    ·have a4 : b ≤ 57 := by unfold okB at ho; omega
     clear ho hn
     go_wp2_with fail
     go_roundg (gk - 1)
     case measure => omega
     case rel => exact ⟨j + 1, by omega, by go_num, _, rfl⟩
    ·have a4 : b = 45 := by unfold okB at ho; omega
     have a5 : ((j : Int) == 0) = false := beq_false_of_ne fun e => hn a4 (by omega)
     subst a4
     clear ho hn
     go_wp2_with fail
     go_roundg (gk - 1)
     case measure => omega
     case rel => exact ⟨j + 1, by omega, by go_num, _, rfl⟩
  ·have q1 : ¬ ((j : Int) < (s.size : Int)) := by omega
   go_wp2_with fail
   exact bodyPost_ret (v := .bool true) (by simp [results, Tryz.results52, go_sem]) rfl ⟨rfl, _, rfl⟩
theorem ScalP.plainC {s tag : ByteArray} (h : ScalP s tag) (w : World) : Calls Tryz.prog 52 #[.string s] w fun e w' => SaysQ true w e w' := by
 rcases h with ⟨_, h⟩ | ⟨_, h⟩
 ·exact plain52 s h.pos (by have := h.le; omega) (by have := h.first; omega) h.all w
 ·exact plain52 s h.pos (by have := h.le; omega) (by have := h.all 0 h.pos; simp only [Int.natCast_zero] at this; omega) (fun i hi => .inr (.inl (h.all i hi))) w
theorem WordP.plainC {s : ByteArray} (h : WordP s) (w : World) : Calls Tryz.prog 52 #[.string s] w fun e w' => SaysQ true w e w' :=
 plain52 s h.pos (by have := h.le; omega) (by have := h.first; omega) h.all w
set_option maxRecDepth 20000 in
set_option maxHeartbeats 4000000 in
theorem digits70 (s : ByteArray) (h : DigP s) (w : World) : Calls Tryz.prog 70 #[.string s] w fun e w' => SaysQ true w e w' := by
 obtain ⟨L, hL⟩ : ∃ L, L = s.size := ⟨_, rfl⟩
 have HA := Lib.hid h.all
 have p1 : (0 : Int) < (s.size : Int) := by have := h.pos; omega
 have p2 : (s.size : Int) ≤ 40 := by have := h.le; omega
 clear h
 go_enter Tryz.func70, Tryz.ntmps70
 go_wp2_with fail
 go_loopg [6] L (fun k i wr => ∃ j : Nat, j + k = L ∧ i = .int .i64 (j : Int) ∧ ∃ nd, wr = w.drewN nd)
 case atStart => exact ⟨0, by omega, rfl, by first | exact ⟨0, rfl⟩ | exact ⟨1, rfl⟩ | exact ⟨2, rfl⟩ | exact ⟨3, rfl⟩⟩
 case round =>
  obtain ⟨j, hj, rfl, nd, rfl⟩ := hrel
  by_cases hlt : 1 ≤ gk
  ·have q1 : (j : Int) < (s.size : Int) := by omega
   have q2 : j < s.size := by omega
   obtain ⟨b, hb⟩ : ∃ b, b = bt s (j : Int) := ⟨_, rfl⟩
   have hx : ∀ h : j < s.size, ((s[j]'h).toNat : Int) = b := fun h => (bt_at s (j : Int) h).trans hb.symm
   have ho := HA.out j q2
   have a1 : ¬ b < 48 := by omega
   have a2 : ¬ 57 < b := by omega
   clear ho hb
   go_wp2_with fail
   go_roundg (gk - 1)
   case measure => omega
   case rel => exact ⟨j + 1, by omega, by go_num, _, rfl⟩
  ·have q1 : ¬ ((j : Int) < (s.size : Int)) := by omega
   go_wp2_with fail
   have p0 : 0 < s.size := by omega
   exact bodyPost_ret (v := .bool true) (by simp [results, Tryz.results70, go_sem, p0]) rfl ⟨rfl, _, rfl⟩
set_option maxRecDepth 20000 in
set_option maxHeartbeats 4000000 in
theorem digits70_no (s : ByteArray) (h1 : 1 ≤ s.size) (h : 57 < bt s 0) (hs : s.size ≤ 40) (w : World) : Calls Tryz.prog 70 #[.string s] w fun e w' => SaysQ false w e w' := by
 have p1 : (0 : Int) < (s.size : Int) := by omega
 have p2 : (s.size : Int) ≤ 40 := by omega
 go_enter Tryz.func70, Tryz.ntmps70
 go_wp2_with fail
 go_loopg [6] s.size (fun k i wr => i = .int .i64 0 ∧ ∃ nd, wr = w.drewN nd)
 case atStart => exact ⟨rfl, by first | exact ⟨0, rfl⟩ | exact ⟨1, rfl⟩ | exact ⟨2, rfl⟩ | exact ⟨3, rfl⟩⟩
 case round =>
  obtain ⟨rfl, nd, rfl⟩ := hrel
  have q2 : 0 < s.size := by omega
  obtain ⟨b, hb⟩ : ∃ b, b = bt s 0 := ⟨_, rfl⟩
  have hx : ∀ h : 0 < s.size, ((s[0]'h).toNat : Int) = b := fun h => (bt_at s 0 h).trans hb.symm
  rw [← hb] at h
  have a1 : ¬ b < 48 := by omega
  clear hb
  go_wp2_with fail
  exact bodyPost_ret (v := .bool false) (by simp [results, Tryz.results70, go_sem]) rfl ⟨rfl, _, rfl⟩
set_option maxRecDepth 20000 in
set_option maxHeartbeats 4000000 in
theorem ScalP.typedC {s tag : ByteArray} (h : ScalP s tag) (w : World) : Calls Tryz.prog 53 #[.string s, .string tag] w fun e w' => SaysQ true w e w' := by
 have htn := h.tag_ne.2
 have t0 : (tag.toList == ([] : List UInt8)) = false := beq_false_of_ne htn
 have te : tag.toList.isEmpty = false := by cases e : tag.toList with | nil => exact absurd e htn | cons a l => rfl
 rcases h with ⟨ht, hw⟩ | ⟨ht, hd⟩
 ·have s1 : (s.toList == [110, 117, 108, 108]) = false := beq_false_of_ne hw.n
  have s2 : (s.toList == [116, 114, 117, 101]) = false := beq_false_of_ne hw.t
  have s3 : (s.toList == [102, 97, 108, 115, 101]) = false := beq_false_of_ne hw.f
  have s4 : (tag.toList == [33, 33, 115, 116, 114]) = true := beq_iff_eq.2 ht
  have hf : 57 < bt s 0 := by have := hw.first; omega
  have h0 : 0 < s.size := by have := hw.pos; omega
  have h0' : (0 : Int) < (s.size : Int) := by omega
  have HD := Lib.hid (digits70_no s hw.pos hf (by have := hw.le; omega))
  obtain ⟨b, hb⟩ : ∃ b, b = bt s 0 := ⟨_, rfl⟩
  have hx : ∀ h : 0 < s.size, ((s[0]'h).toNat : Int) = b := fun h => (bt_at s 0 h).trans hb.symm
  rw [← hb] at hf
  clear hb hw ht htn
  go_enter Tryz.func53, Tryz.ntmps53
  go_wp2_with fail
  refine (HD.out _).mono ?_
  rintro e w' ⟨rfl, nd, rfl⟩
  go_wp2_with fail
  exact bodyPost_ret (v := .bool true) (by simp [results, Tryz.results53, go_sem]) rfl ⟨rfl, by first | exact ⟨_, rfl⟩ | exact ⟨nd + 1, rfl⟩⟩
 ·have hno : ∀ (a : UInt8) (l : List UInt8), 57 < (a.toNat : Int) → (s.toList == a :: l) = false := fun a l ha => beq_false_of_ne fun e => by
   have := hd.all 0 hd.pos
   simp only [Int.natCast_zero] at this
   rw [bt_head e] at this
   omega
  have s1 : (s.toList == [110, 117, 108, 108]) = false := hno _ _ (by decide)
  have s2 : (s.toList == [116, 114, 117, 101]) = false := hno _ _ (by decide)
  have s3 : (s.toList == [102, 97, 108, 115, 101]) = false := hno _ _ (by decide)
  have s4 : (tag.toList == [33, 33, 105, 110, 116]) = true := beq_iff_eq.2 ht
  have HD := Lib.hid (digits70 s hd)
  clear hno hd ht htn
  go_enter Tryz.func53, Tryz.ntmps53
  go_wp2_with fail
  refine (HD.out _).mono ?_
  rintro e w' ⟨rfl, nd, rfl⟩
  go_wp2_with fail
  exact bodyPost_ret (v := .bool true) (by simp [results, Tryz.results53, go_sem]) rfl ⟨rfl, by first | exact ⟨_, rfl⟩ | exact ⟨nd + 1, rfl⟩⟩
set_option maxRecDepth 20000 in
set_option maxHeartbeats 4000000 in
theorem index71_no (A : Option Addr) (c : Nat) (l : List ByteArray) (a : ByteArray) (w : World) (hr : Kd.C Kd.string w A l.length l) (hl : l.length ≤ 1000000) (hc : l.length ≤ c) (hn : a ∉ l) : Calls Tryz.prog 71 #[.slice A l.length c, .string a] w fun e w' => e = .returned (.int .i64 (-1)) ∧ ∃ nd, w' = w.drewN nd := by
 obtain ⟨L, hL⟩ : ∃ L, L = l.length := ⟨_, rfl⟩
 have p2 : (L : Int) ≤ 1000000 := by omega
 have H := Lib.hid (And.intro hr hn)
 have HL := Lib.hid hL
 rw [← hL] at hc ⊢
 clear hr hn hl hL
 go_enter Tryz.func71, Tryz.ntmps71
 go_wp2_with fail
 go_loopg [8] L (fun k i wr => ∃ j : Nat, j + k = L ∧ i = .int .i64 (j : Int) ∧ ∃ nd, wr = w.drewN nd)
 case atStart => exact ⟨0, by omega, rfl, by first | exact ⟨0, rfl⟩ | exact ⟨1, rfl⟩ | exact ⟨2, rfl⟩ | exact ⟨3, rfl⟩⟩
 case round =>
  obtain ⟨j, hj, rfl, nd, rfl⟩ := hrel
  by_cases hlt : 1 ≤ gk
  ·have q1 : (j : Int) < (L : Int) := by omega
   have q2 : j < L := by omega
   obtain ⟨key, hkey⟩ : ∃ key, l[j]? = some key := ⟨_, List.getElem?_eq_getElem (by have := HL.out; omega)⟩
   obtain ⟨ad, rfl, x⟩ := str_at H.out.1 j key (by have := HL.out; omega) hkey
   have x' : (w.drewN nd).cell? (ad.add j) = some (.string key) := x
   have hne : (a.toList == key.toList) = false := beq_false_of_ne fun e => H.out.2 (by rw [toList_inj e]; exact List.mem_of_getElem? hkey)
   clear hkey x
   go_wp2_with fail
   go_roundg (gk - 1)
   case measure => omega
   case rel => exact ⟨j + 1, by omega, by go_num, _, rfl⟩
  ·have q1 : ¬ ((j : Int) < (L : Int)) := by omega
   have q2 : ¬ (j < L) := by omega
   go_wp2_with fail
   exact bodyPost_ret (v := .int .i64 (-1)) (by simp [results, Tryz.results71, go_sem]) rfl ⟨rfl, _, rfl⟩
set_option maxRecDepth 20000 in
set_option maxHeartbeats 4000000 in
theorem contains54_no (A : Option Addr) (c : Nat) (l : List ByteArray) (a : ByteArray) (w : World) (hr : Kd.C Kd.string w A l.length l) (hl : l.length ≤ 1000000) (hc : l.length ≤ c) (hn : a ∉ l) : Calls Tryz.prog 54 #[.slice A l.length c, .string a] w fun e w' => SaysQ false w e w' := by
 have H := Lib.hid (And.intro hr (And.intro hl (And.intro hc hn)))
 clear hr hl hc hn
 go_enter Tryz.func54, Tryz.ntmps54
 go_wp2_with fail
 refine (index71_no A c l a _ H.out.1 H.out.2.1 H.out.2.2.1 H.out.2.2.2).mono ?_
 rintro e w' ⟨rfl, nd, rfl⟩
 go_wp2_with fail
 exact bodyPost_ret (v := .bool false) (by simp [results, Tryz.results54, go_sem]) rfl ⟨rfl, by first | exact ⟨_, rfl⟩ | exact ⟨nd + 1, rfl⟩⟩
end Go.Proofs.YtghmajlfmoggfaaGreat
