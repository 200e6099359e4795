import Derived.Maps.OwnSet
import Derived.Maps.RangeWalk
import Derived.Sort.KeysCollected
import Derived.Sort.OwnSorted
import Derived.OwnWalk
import Derived.LoopN
import Derived.Shelf.Sort.Plain
import Derived.Test.YtghmajlfmoggfaaGreatProg
import Derived.Test.YtghmajlfmoggfaaGreatMB1
import Derived.Test.YtghmajlfmoggfaaGreatMB2
set_option linter.unusedSimpArgs false
set_option linter.unusedVariables false
namespace Go.Proofs.YtghmajlfmoggfaaGreat
open Go.RowKit Go.Proofs.YtghmajlfmoggfaaGreatW.PrintWords Go.Proofs.YtghmajlfmoggfaaGreatW.PrintLast PFnMerge Go.Maps
def nilElem : Value → Option (DataW Unit × List MemPlace)
 | .nilIface => some (.nil, [])
 | _ => none
theorem nilElem_inv {v : Value} {z : DataW Unit × List MemPlace} (h : nilElem v = some z) : v = .nilIface := by
 cases v <;> simp [nilElem] at h
 rfl
theorem keyLaw : Keyed Tryz.prog 9 := string_keyed Tryz.underlying9
abbrev SetAt (w : World) (mb n : Nat) (D : DataW Unit) : Prop := w.ownsMap Tryz.prog 9 nilElem mb n D
def putAllKeys (D : DataW Unit) : List ByteArray → DataW Unit
 | [] => D
 | s :: r => putAllKeys (D.put (.string s.data.toList) .nil) r
theorem putAllKeys_snoc (D : DataW Unit) (l : List ByteArray) (s : ByteArray) : putAllKeys D (l ++ [s]) = (putAllKeys D l).put (.string s.data.toList) .nil := by
 induction l generalizing D with
 | nil => rfl
 | cons a r ih => exact ih _
theorem own_ne_map {w : World} {mb n base m c : Nat} {A : Option Addr} {D : DataW Unit} {xs : List Value} (hs : SetAt w mb n D) (hr : w.ownsRow base 9 1 (.slice A m c) m xs) : (some mb : Option Nat) ≠ (Value.slice A m c).ownBlock := by
 intro e
 obtain ⟨cells, hc⟩ := own_typed hr mb e.symm
 obtain ⟨es, clock, hb, _⟩ := hs
 rw [hc] at hb
 cases hb
theorem row_cell {w : World} {base m c e : Nat} {A : Option Addr} {xs : List Value} (hr : w.ownsRow base e 1 (.slice A m c) m xs) (j : Nat) (v : Value) (hj : xs[j]? = some v) : ∃ g, A = some ⟨g, 0, none⟩ ∧ w.cell? ⟨g, j, none⟩ = some v := by
 obtain ⟨hl, h | ⟨g, cap, cur, he, _, hg, h1, h2, hs, ht⟩⟩ := hr
 ·obtain ⟨_, h0⟩ := h
  have : j < xs.length := (List.getElem?_eq_some_iff.1 hj).1
  omega
 ·injection he with hA hn hc
  subst hA
  refine ⟨g, rfl, ?_⟩
  have hlt : j < xs.length := (List.getElem?_eq_some_iff.1 hj).1
  rw [blk_cell hg j]
  rw [← ht, List.getElem?_take_of_lt (by omega)] at hj
  rw [← Array.getElem?_toList]
  exact hj
set_option maxRecDepth 20000 in
set_option maxHeartbeats 2000000 in
theorem insert75 {mb n c : Nat} {A : Option Addr} {keys : List ByteArray} {D : DataW Unit} {base : Nat} (w : World) (hs : SetAt w mb n D) (hrow : w.ownsRow base 9 1 (.slice A keys.length c) keys.length (strs keys)) (hsz : ∀ s ∈ keys, s.size ≤ maxLen) (hn : n + keys.length < maxLen) :
  Calls Tryz.prog 75 #[.map (some mb), .slice A keys.length c] w fun e w' => e = .returned (.tuple #[]) ∧ SetAt w' mb (n + keys.length) (putAllKeys D keys) ∧ w.grownBy w' (some mb) := by
 have HS := Lib.hid hs
 have HR := Lib.hid hrow
 have HZ := Lib.hid hsz
 have HN := Lib.hid hn
 obtain ⟨m, hm⟩ : ∃ m, m = keys.length := ⟨_, rfl⟩
 rw [← hm] at HR
 have hml : m ≤ 9223372036854775807 := by unfold maxLen at hn; omega
 rw [← hm]
 have HM := Lib.hid hm
 clear hs hrow hsz hn hm
 go_enter Tryz.func75, Tryz.ntmps75
 go_wp2_with fail
 go_loopg [8] m (fun k i wr => ∃ j : Nat, j + k = m ∧ i = .int .i64 (j : Int) ∧ Hid (SetAt wr mb (n + j) (putAllKeys D (keys.take j)) ∧ w.grownBy wr (some mb)))
 case atStart => exact ⟨0, by omega, rfl, Lib.hid ⟨by simpa [putAllKeys] using HS.out, World.grownBy.refl _ _⟩⟩
 case round =>
  obtain ⟨j, hj, rfl, hI⟩ := hrel
  by_cases hlt : 1 ≤ gk
  ·have hjm : j < m := by omega
   obtain ⟨s, hks⟩ : ∃ s, keys[j]? = some s := ⟨_, List.getElem?_eq_getElem (by have := HM.out; omega)⟩
   have hcell : ∃ g, A = some ⟨g, 0, none⟩ ∧ wr.cell? ⟨g, j, none⟩ = some (.string s) := by
    have hne : (some mb : Option Nat) ≠ (Value.slice A m c).ownBlock := own_ne_map HS.out HR.out
    exact row_cell (own_other HR.out hI.out.2 (.inr (Ne.symm hne))) j (.string s) (by rw [List.getElem?_map, hks]; rfl)
   obtain ⟨g, rfl, hcell⟩ := hcell
   have hkey := Go.WideMaps.keyOf_string_mk (P := Tryz.prog) Tryz.underlying9 (HZ.out s (List.mem_of_getElem? hks))
   have HK := Lib.hid hks
   clear hks
   go_wp2_with (at_mapUpdate; refine wpList_mapUpdate_own _ rfl _ _ _ 123 rfl 9 20 keyLaw Tryz.underlying123 nilElem mb (n + j) _ rfl hI.out.1 (by have := HN.out; have := HM.out; omega) _ _ _ rfl rfl hkey _ [] rfl ?_; intro w1 hown1 hgrow1; have HO := Lib.hid hown1; have HG := Lib.hid hgrow1; clear hown1 hgrow1)
   go_roundg (gk - 1)
   case measure => omega
   case rel =>
    refine ⟨j + 1, by omega, by go_num, Lib.hid ⟨?_, World.grownBy.trans hI.out.2 HG.out⟩⟩
    rw [List.take_add_one, HK.out]
    show SetAt w1 mb (n + (j + 1)) (putAllKeys D (keys.take j ++ [s]))
    rw [putAllKeys_snoc]
    exact HO.out
  ·have hx : ¬ (j : Int) < (m : Int) := by omega
   have hjm := Lib.hid (show j = m by omega)
   go_wp2
   go_end0
   refine ⟨rfl, ?_, hI.out.2⟩
   have := hI.out.1
   rw [hjm.out] at this
   rw [show keys.take m = keys from by rw [HM.out, List.take_length]] at this
   exact this
end Go.Proofs.YtghmajlfmoggfaaGreat
namespace Go.Proofs.YtghmajlfmoggfaaGreat
open Go.RowKit Go.Proofs.YtghmajlfmoggfaaGreatW.PrintWords Go.Proofs.YtghmajlfmoggfaaGreatW.PrintLast PFnMerge Go.Maps Go.Sort
set_option maxRecDepth 100000 in
set_option maxHeartbeats 1000000 in
theorem list76 {mb n : Nat} {D0 : DataW Unit} (w : World) (hown : SetAt w mb n D0) (hn : n ≤ 4000000) :
  Calls Tryz.prog 76 #[.map (some mb)] w fun e w' => ∃ (g cap : Nat) (ss : List (List UInt8)), e = .returned (.slice (some ⟨g, 0, none⟩) ss.length cap) ∧ ss.Nodup ∧ (∀ x, x ∈ ss ↔ Maps.has D0 (.string x) = true) ∧ ss.length ≤ n ∧
   w'.ownsRow w.heap.size 9 1 (.slice (some ⟨g, 0, none⟩) ss.length cap) ss.length (ss.map encStr) ∧ Below w.heap.size w w' := by
 obtain ⟨i0, hi, hz0, hz1, hz2⟩ := info_parts info9
 have hbl := hown.lt
 have hmax := hown.size_le
 go_enter Tryz.func76, Tryz.ntmps76
 go_wp2_with (first
  | (at_len; refine wpList_len_own _ rfl _ 123 rfl 9 20 Tryz.underlying123 _ mb n _ rfl hown ?_)
  | (at_make; refine wpList_make_own _ rfl _ _ 22 rfl w.heap.size 9 i0 (.string ⟨#[]⟩) 1 Tryz.underlying22 hi hz0 hz1 _ _ _ (Maps.size D0) rfl rfl rfl (by rw [hz2]; omega) (by unfold maxLen; omega) (Nat.le_refl _) ?_; intro w1 hrow1 hg1)
  | (at_range; refine wpList_range_own _ rfl _ 123 rfl 9 20 keyLaw Tryz.underlying123 _ mb n _ rfl (hown.kept hg1 (by simp)) ?_; intro w0 hrg0 hg0 hs0))
 go_frame
 go_loopw [3] (fun v wr => ∃ (left : Lit → Bool) (cnt : Nat) (ss : List (List UInt8)), wr.ranges Tryz.prog 9 nilElem mb w1.heap.size n D0 left cnt ∧ ss.length + cnt ≤ Maps.size D0 ∧
   wr.ownsRow w.heap.size 9 1 v ss.length (ss.map encStr) ∧ v ≠ .slice none 0 0 ∧ Collected D0 left ss ∧ Below w.heap.size w wr)
  (fun _ wr => wr.rangeLeft mb w1.heap.size)
 case atStart =>
  exact ⟨_, _, [], hrg0, by simp, hrow1.kept hg0 (Or.inr (by simp [Value.ownBlock])), by simp, Collected.start D0,
   ((Below.refl _ _).grown hg1 (Nat.le_refl _) (fun j hj => by cases hj)).grown hg0 hg1.size (fun j hj => by cases hj)⟩
 case round =>
  obtain ⟨left, cnt, ss, hrg, hcs, hrow, hnn, hC, hnx⟩ := hrel
  go_wp2_with (at_next; refine wpList_next_ranges _ rfl _ rfl 9 keyLaw nilElem encStr (fun _ : Unit => Value.nilIface) (fun key kl hk => by obtain ⟨x, hx, _⟩ := Maps.keyOf_str Tryz.underlying9 hk; exact ⟨x, hx⟩) (fun v y hv => ⟨(), nilElem_inv hv⟩) mb w1.heap.size n _ _ _ rfl hrg ?_ ?_)
  ·intro hc0 hl0
   rcases hrow.2 with ⟨hnil, _⟩ | ⟨g, cap, cur, rfl, hbase, hb, h1, h2, h3, h4⟩
   ·exact absurd hnil hnn
   have HR := Lib.hid hrow
   have HC := Lib.hid hC
   have HX := Lib.hid hnx
   have HL := Lib.hid hl0
   have HO := Lib.hid hown
   clear hrow hC hnx hl0 hown h1 h2 h3 h4 hb hnn hrg hbase hbl
   go_wp2_with fail
   go_ret
   exact ⟨g, cap, ss, rfl, HC.out.1, fun x => by rw [HC.out.2 x, HL.out]; simp, by omega, HR.out, HX.out⟩
  ·intro x kl yd yp w2 cnt2 hkey hlk hv hat hrg2 hlt hg2 hs2 hen
   obtain ⟨x', ex, rfl, _⟩ := Maps.keyOf_str Tryz.underlying9 hkey
   obtain rfl : x = x' := encStr_inj ex
   have hrow2 := hrow.kept hg2 (Or.inr (row_ne_iter hrow hrg).symm)
   clear hs2
   go_wp2_with (at_builtin; refine wpList_append_own _ rfl _ _ 22 rfl w.heap.size 9 i0 (.string ⟨#[]⟩) 1 16 Tryz.underlying22 hi hz0 hz1 hz2 rfl (by decide) _ _ _ rfl (hrow2.alloc _) ⟨w2.heap.size, 0, none⟩ 1 1 [encStr x] rfl rfl (cell_one_new _ _ _) (by simp [Value.oneCell', encStr]) (by unfold maxLen at *; omega) (by omega) (by have := hnx.size; have := hg2.size; simp; omega) ?_; intro v' w3 hown' hg3 hnil3; go_frame)
   have hrg3 := (hrg2.alloc _).kept hg3 (row_ne_low hrow2 hbl) (row_ne_iter hrow2 hrg2)
   go_roundw
   case rel =>
    refine ⟨_, cnt2, ss ++ [x], hrg3, by simp; omega, by simpa using hown', fun hv' => by have := (hnil3.1 hv').2; omega, hC.step hlk hat, ?_⟩
    exact ((hnx.grown hg2 hnx.size (fun j hj => by cases hj; exact hg1.size)).alloc (by have := hnx.size; have := hg2.size; omega) _).grown hg3 (by have := hnx.size; have := hg2.size; simp; omega) (fun j hj => (hrow2.lt j hj).1)
   case measure => rw [hrg3.left_eq, hrg.left_eq]; exact hlt
theorem isMap_putAll (D : DataW Unit) (l : List ByteArray) (h : IsMap D) : IsMap (putAllKeys D l) := by
 induction l generalizing D with
 | nil => exact h
 | cons a r ih => exact ih _ (by obtain ⟨es, rfl⟩ := h; exact ⟨_, rfl⟩)
theorem isKey (a : ByteArray) : WideAt.IsKeyLit (.string a.data.toList) := by simp [WideAt.IsKeyLit]
theorem has_putAll (D : DataW Unit) (l : List ByteArray) (hD : IsMap D) (x : List UInt8) : Maps.has (putAllKeys D l) (.string x) = true ↔ Maps.has D (.string x) = true ∨ ∃ s ∈ l, s.data.toList = x := by
 induction l generalizing D with
 | nil => simp [putAllKeys]
 | cons a r ih =>
  show Maps.has (putAllKeys (D.put (.string a.data.toList) .nil) r) (.string x) = true ↔ _
  rw [ih _ (by obtain ⟨es, rfl⟩ := hD; exact ⟨_, rfl⟩)]
  by_cases hx : a.data.toList = x
  ·subst hx
   rw [has_put_same hD (isKey a)]
   simp
  ·rw [has_put_other (fun e => hx (by injection e with e; exact e.symm))]
   simp [hx]
def SrcKeys (w : World) (q : Option Addr) (ks : List ByteArray) : Prop := (q = none ∧ ks = []) ∨
 ∃ a, q = some a ∧ ∀ w', Below w.heap.size w w' → Calls Tryz.prog 74 #[.pointer (some a)] w' fun e w'' => ∃ v, e = .returned (.tuple #[v, .nilIface]) ∧ Below w'.heap.size w' w'' ∧ w''.ownsRow w'.heap.size 9 1 v ks.length (strs ks)
theorem SrcKeys.of_map {w : World} {r b : Nat} {C : Value} {kids : List Kid} (hr : RNB w r b) (hm : MapAt w b C kids) (hl : kids.length ≤ 1000000) : SrcKeys w (some ⟨r, 0, none⟩) (kids.map (·.key)) :=
 .inr ⟨_, rfl, fun w' hb => (fields_some w' (hr.under hb) (hm.under hb) hl).mono fun e w'' ⟨v, h1, h2, h3⟩ => ⟨v, h1, h2, by rw [List.length_map]; exact h3⟩⟩
def SortC : Prop := ∀ (g cap base : Nat) (ss : List (List UInt8)) (w : World), ss.length ≤ 4000000 → w.ownsRow base 9 1 (.slice (some ⟨g, 0, none⟩) ss.length cap) ss.length (ss.map encStr) →
 Calls Tryz.prog 77 #[.slice (some ⟨g, 0, none⟩) ss.length cap] w fun e w' => e = .returned (.tuple #[]) ∧ ∃ ts : List (List UInt8), ts.Perm ss ∧ w'.ownsRow base 9 1 (.slice (some ⟨g, 0, none⟩) ss.length cap) ss.length (ts.map encStr) ∧ w.grownBy w' (some g)
set_option maxRecDepth 20000 in
set_option maxHeartbeats 4000000 in
theorem fieldNames58 (hsort : SortC) {sb c : Nat} {dp sp : Option Addr} {kd ks : List ByteArray} {V path mo : Value} {infer : Bool} (w : World) (hs : SrcAt w sb dp sp) (hd : SrcKeys w dp kd) (ho : SrcKeys w sp ks)
  (hzd : ∀ s ∈ kd, s.size ≤ maxLen) (hzs : ∀ s ∈ ks, s.size ≤ maxLen) (hld : kd.length ≤ 1000000) (hls : ks.length ≤ 1000000) :
  Calls Tryz.prog 58 #[.agg #[V, .pointer none, .slice (some ⟨sb, 0, none⟩) 2 c, path, .bool infer, .bool false, mo]] w fun e w' => ∃ (g cap : Nat) (ns : List (List UInt8)), e = .returned (.slice (some ⟨g, 0, none⟩) ns.length cap) ∧
   ns.Nodup ∧ (∀ x, x ∈ ns ↔ (∃ s ∈ kd, s.data.toList = x) ∨ ∃ s ∈ ks, s.data.toList = x) ∧ ns.length ≤ kd.length + ks.length ∧ w'.ownsRow w.heap.size 9 1 (.slice (some ⟨g, 0, none⟩) ns.length cap) ns.length (ns.map encStr) ∧ Below w.heap.size w w' := by
 have HS := Lib.hid hs
 have HD := Lib.hid hd
 have HO := Lib.hid ho
 clear hs hd ho
 have hs0 := (HS.out.under (below_alloc (Below.refl _ _) (.cells #[V, .pointer none, .slice (some ⟨sb, 0, none⟩) 2 c, path, .bool infer, .bool false, mo] 66)))
 go_enter Tryz.func58, Tryz.ntmps58
 have hmm := @run_makeMap Tryz.prog
 go_wp2_with fail
 obtain ⟨mb, hmb⟩ : ∃ mb, mb = w.heap.size + 1 := ⟨_, rfl⟩
 have hset0 : SetAt ((w.alloc (.cells #[V, .pointer none, .slice (some ⟨sb, 0, none⟩) 2 c, path, .bool infer, .bool false, mo] 66)).alloc (.map #[] 0)) mb 0 (.map []) := by
  rw [hmb]
  have h := World.ownsMap_made (w.alloc (.cells #[V, .pointer none, .slice (some ⟨sb, 0, none⟩) 2 c, path, .bool infer, .bool false, mo] 66)) Tryz.prog 9 nilElem
  have hz : (w.alloc (.cells #[V, .pointer none, .slice (some ⟨sb, 0, none⟩) 2 c, path, .bool infer, .bool false, mo] 66)).heap.size = w.heap.size + 1 := World.size_alloc _ _
  rw [hz] at h
  exact h
 rw [← hmb]
 have HM := Lib.hid hmb
 have H0 := Lib.hid hset0
 clear hset0 hmb hs0 hmm
 go_loopg [13] 2 (fun k i wr => ∃ j : Nat, j + k = 2 ∧ i = .int .i64 (j : Int) ∧ Hid (Below w.heap.size w wr ∧ ∃ n D, SetAt wr mb n D ∧ n ≤ (if 1 ≤ j then kd.length else 0) + (if 2 ≤ j then ks.length else 0) ∧ IsMap D ∧ ∀ x, Maps.has D (.string x) = true ↔ (1 ≤ j ∧ ∃ s ∈ kd, s.data.toList = x) ∨ (2 ≤ j ∧ ∃ s ∈ ks, s.data.toList = x)))
 case atStart =>
  exact ⟨0, by omega, rfl, Lib.hid ⟨below_alloc (below_alloc (Below.refl _ _) _) _, 0, .map [], H0.out, by simp, ⟨_, rfl⟩, fun x => by simp [Maps.has]⟩⟩
 case round =>
  obtain ⟨j, hj, rfl, hI⟩ := hrel
  by_cases hlt : 1 ≤ gk
  ·obtain ⟨hb, n, D, hS, hnn, hIM, hmem⟩ := hI.out
   obtain ⟨q, kq, hcell, hq, hkq⟩ : ∃ q kq, wr.cell? ⟨sb, j, none⟩ = some (.pointer q) ∧ SrcKeys w q kq ∧ (j = 0 ∧ kq = kd ∨ j = 1 ∧ kq = ks) := by
    have hj2 : j = 0 ∨ j = 1 := by omega
    rcases hj2 with rfl | rfl
    ·exact ⟨dp, kd, (HS.out.under hb).c0, HD.out, .inl ⟨rfl, rfl⟩⟩
    ·exact ⟨sp, ks, (HS.out.under hb).c1, HO.out, .inr ⟨rfl, rfl⟩⟩
   have hzq : ∀ s ∈ kq, s.size ≤ maxLen := by rcases hkq with ⟨_, rfl⟩ | ⟨_, rfl⟩ <;> assumption
   have hmem' : ∀ x, (Maps.has D (.string x) = true ∨ ∃ s ∈ kq, s.data.toList = x) ↔ (1 ≤ j + 1 ∧ ∃ s ∈ kd, s.data.toList = x) ∨ (2 ≤ j + 1 ∧ ∃ s ∈ ks, s.data.toList = x) := by
    intro x
    rw [hmem x]
    rcases hkq with ⟨rfl, rfl⟩ | ⟨rfl, rfl⟩ <;> simp
   have hnn' : n + kq.length ≤ (if 1 ≤ j + 1 then kd.length else 0) + (if 2 ≤ j + 1 then ks.length else 0) := by
    rcases hkq with ⟨rfl, rfl⟩ | ⟨rfl, rfl⟩ <;> simp at hnn ⊢ <;> omega
   have hln : n + kq.length ≤ 2000000 := by
    refine Nat.le_trans hnn' ?_
    split <;> split <;> omega
   have HC := Lib.hid (And.intro hb (And.intro hS (And.intro hIM (And.intro hmem' (And.intro hnn' (And.intro hzq hln))))))
   clear hb hS hnn hIM hmem hkq hzq hmem' hnn' hln hI
   have hj1 : (j : Int) < 2 := by omega
   rcases hq with ⟨rfl, rfl⟩ | ⟨a, rfl, hcall⟩
   ·go_wp2_with fail
    go_roundg (gk - 1)
    case measure => omega
    case rel =>
     refine ⟨j + 1, by omega, by go_num, Lib.hid ⟨HC.out.1, n, D, HC.out.2.1, ?_, HC.out.2.2.1, ?_⟩⟩
     ·exact HC.out.2.2.2.2.1
     ·intro x; rw [← HC.out.2.2.2.1 x]; simp
   ·have HF := Lib.hid (hcall wr HC.out.1)
    clear hcall
    go_wp2_with fail
    refine Calls.mono HF.out ?_
    rintro e w2 ⟨v, rfl, hb2, hrow2⟩
    obtain ⟨A2, c2, rfl⟩ := own_slice hrow2
    have hS2 : SetAt w2 mb n D := HC.out.2.1.kept (grown_of_below hb2 none) (by simp)
    have hI75 := insert75 w2 hS2 hrow2 HC.out.2.2.2.2.2.1 (by have := HC.out.2.2.2.2.2.2; unfold maxLen; omega)
    have HI := Lib.hid hI75
    have HB2 := Lib.hid (HC.out.1.trans (hb2.mono HC.out.1.size))
    clear hI75 hS2 hrow2 hb2 HF
    go_wp2_with fail
    refine Calls.mono HI.out ?_
    rintro e w3 ⟨rfl, hS3, hg3⟩
    have HE := Lib.hid (And.intro hS3 hg3)
    clear hS3 hg3 HI
    go_wp2_with fail
    go_roundg (gk - 1)
    case measure => omega
    case rel =>
     refine ⟨j + 1, by omega, by go_num, Lib.hid ⟨HB2.out.grown HE.out.2 HB2.out.size (fun k hk => by injection hk with hk; have := HM.out; omega), n + kq.length, _, HE.out.1, HC.out.2.2.2.2.1, isMap_putAll _ _ HC.out.2.2.1, ?_⟩⟩
     intro x
     rw [has_putAll _ _ HC.out.2.2.1 x]
     exact HC.out.2.2.2.1 x
  ·have hj2 := Lib.hid (show j = 2 by omega)
   have hx : ¬ (j : Int) < 2 := by omega
   have HI := hI
   clear hI
   go_wp2_with fail
   obtain ⟨hb, n, D, hS, hnn, hIM, hmem⟩ := HI.out
   rw [hj2.out] at hnn hmem
   have hl76 := list76 wr hS (by simp at hnn; omega)
   refine Calls.mono hl76 ?_
   rintro e w2 ⟨g, cap, ss, rfl, hnd, hms, hlen, hrow, hb2⟩
   have hB2 : Below w.heap.size w w2 := hb.trans (hb2.mono hb.size)
   have hsz2 : ss.length ≤ 4000000 := by simp at hnn; omega
   have h77 := hsort g cap w.heap.size ss w2 hsz2 (own_weaken hrow hb.size)
   have H77 := Lib.hid h77
   have HF := Lib.hid (And.intro hnd (And.intro hms (And.intro hmem (And.intro hB2 (And.intro (show ss.length ≤ kd.length + ks.length by simp at hnn; omega) (show w.heap.size ≤ g from Nat.le_trans hb.size (own_base hrow g rfl)))))))
   clear hnd hms hlen hrow hb2 hB2 h77 hsz2 hnn hmem hS hb hIM hl76
   go_wp2_with fail
   refine Calls.mono H77.out ?_
   rintro e w3 ⟨rfl, ts, hperm, hrow3, hg3⟩
   have HG := Lib.hid (And.intro hperm (And.intro hrow3 hg3))
   clear hperm hrow3 hg3 H77
   go_wp2_with fail
   go_ret
   obtain ⟨hnd, hms, hmem, hB2, hl, hbg⟩ := HF.out
   obtain ⟨hperm, hrow3, hg3⟩ := HG.out
   refine ⟨g, cap, ts, by rw [hperm.length_eq]; rfl, hperm.nodup_iff.2 hnd, ?_, by rw [hperm.length_eq]; exact hl, by rw [hperm.length_eq]; exact hrow3, hB2.grown hg3 hB2.size (fun k hk => by injection hk with hk; omega)⟩
   intro x
   rw [hperm.mem_iff, hms x, hmem x]
   simp
end Go.Proofs.YtghmajlfmoggfaaGreat
namespace Go.Proofs
open Go.Shelf
def Tryz.lays192_ren : Go.Shelf.Ren := ⟨fun | 192 => 77 | 190 => 99 | 125 => 116 | 258 => 115 | 128 => 128 | 129 => 129 | 302 => 119 | 303 => 120 | 304 => 121 | 305 => 122 | 306 => 123 | 307 => 124 | 308 => 125 | 309 => 126 | 310 => 127 | 333 => 131 | 329 => 132 | 330 => 133 | 334 => 134 | 335 => 135 | 336 => 136 | 344 => 140 | n => n, fun | 31 => 22 | 0 => 0 | 9 => 9 | 3 => 3 | 46 => 177 | 51 => 75 | 53 => 191 | 4 => 4 | 183 => 183 | 182 => 182 | 131 => 187 | 5 => 5 | 218 => 192 | 222 => 42 | 228 => 197 | 229 => 198 | n => n, fun | n => n⟩
theorem Tryz.lays192 : Go.Proofs.Lays.n192 Tryz.prog Tryz.lays192_ren := {
 mixed := by kernel_rfl
 f125 := Tryz.func116.trans (congrArg some (by kernel_rfl))
 f128 := Tryz.func128.trans (congrArg some (by kernel_rfl))
 f129 := Tryz.func129.trans (congrArg some (by kernel_rfl))
 f190 := Tryz.func99.trans (congrArg some (by kernel_rfl))
 f192 := Tryz.func77.trans (congrArg some (by kernel_rfl))
 f258 := Tryz.func115.trans (congrArg some (by kernel_rfl))
 f302 := Tryz.func119.trans (congrArg some (by kernel_rfl))
 f303 := Tryz.func120.trans (congrArg some (by kernel_rfl))
 f304 := Tryz.func121.trans (congrArg some (by kernel_rfl))
 f305 := Tryz.func122.trans (congrArg some (by kernel_rfl))
 f306 := Tryz.func123.trans (congrArg some (by kernel_rfl))
 f307 := Tryz.func124.trans (congrArg some (by kernel_rfl))
 f308 := Tryz.func125.trans (congrArg some (by kernel_rfl))
 f309 := Tryz.func126.trans (congrArg some (by kernel_rfl))
 f310 := Tryz.func127.trans (congrArg some (by kernel_rfl))
 f329 := Tryz.func132.trans (congrArg some (by kernel_rfl))
 f330 := Tryz.func133.trans (congrArg some (by kernel_rfl))
 f333 := Tryz.func131.trans (congrArg some (by kernel_rfl))
 f334 := Tryz.func134.trans (congrArg some (by kernel_rfl))
 f335 := Tryz.func135.trans (congrArg some (by kernel_rfl))
 f336 := Tryz.func136.trans (congrArg some (by kernel_rfl))
 f344 := Tryz.func140.trans (congrArg some (by kernel_rfl))
 t0 := Tryz.underlying0
 a0 := Tryz.isAgg0
 z0 := Tryz.sizeOf0
 v0 := Tryz.zeroValue0
 t3 := Tryz.underlying3
 a3 := Tryz.isAgg3
 z3 := Tryz.sizeOf3
 v3 := Tryz.zeroValue3
 t4 := Tryz.underlying4
 a4 := Tryz.isAgg4
 z4 := Tryz.sizeOf4
 v4 := Tryz.zeroValue4
 t5 := Tryz.underlying5
 a5 := Tryz.isAgg5
 z5 := Tryz.sizeOf5
 v5 := Tryz.zeroValue5
 t9 := Tryz.underlying9
 a9 := Tryz.isAgg9
 z9 := Tryz.sizeOf9
 v9 := Tryz.zeroValue9
 t31 := Tryz.underlying22
 a31 := Tryz.isAgg22
 z31 := Tryz.sizeOf22
 v31 := Tryz.zeroValue22
 t46 := Tryz.underlying177
 a46 := Tryz.isAgg177
 z46 := Tryz.sizeOf177
 v46 := Tryz.zeroValue177
 t51 := Tryz.underlying75
 a51 := Tryz.isAgg75
 z51 := Tryz.sizeOf75
 v51 := Tryz.zeroValue75
 t53 := Tryz.underlying191
 a53 := Tryz.isAgg191
 z53 := Tryz.sizeOf191
 v53 := Tryz.zeroValue191
 t131 := Tryz.underlying187
 a131 := Tryz.isAgg187
 z131 := Tryz.sizeOf187
 v131 := Tryz.zeroValue187
 t182 := Tryz.underlying182
 a182 := Tryz.isAgg182
 z182 := Tryz.sizeOf182
 v182 := Tryz.zeroValue182
 t183 := Tryz.underlying183
 a183 := Tryz.isAgg183
 z183 := Tryz.sizeOf183
 v183 := Tryz.zeroValue183
 t218 := Tryz.underlying192
 a218 := Tryz.isAgg192
 z218 := Tryz.sizeOf192
 v218 := Tryz.zeroValue192
 t222 := Tryz.underlying42
 a222 := Tryz.isAgg42
 z222 := Tryz.sizeOf42
 v222 := Tryz.zeroValue42
 t228 := Tryz.underlying197
 a228 := Tryz.isAgg197
 z228 := Tryz.sizeOf197
 v228 := Tryz.zeroValue197
 t229 := Tryz.underlying198
 a229 := Tryz.isAgg198
 z229 := Tryz.sizeOf198
 v229 := Tryz.zeroValue198 }
open Go.Sort Go.RowKit in
theorem Tryz.sort_Strings (blk off cap : Nat) (ss : List (List UInt8)) (w : World) (hH : Holds encStr w blk off ss.toArray) (hblk : blk < w.heap.size) (hsz : ss.length < 4611686018427387904) :
  Calls Tryz.prog 77 #[.slice (some ⟨blk, off, none⟩) ss.length cap] w fun e w' =>
   e = .returned (.tuple #[]) ∧ ∃ n os, w' = grow (putRow encStr (Sort.ahead w n) blk off (ss.mergeSort fun x y => decide (x ≤ y)).toArray) os := Any.sort_Strings Tryz.lays192 blk off cap ss w hH hblk hsz
end Go.Proofs
namespace Go.Proofs.YtghmajlfmoggfaaGreat
open Go.RowKit Go.Proofs.YtghmajlfmoggfaaGreatW.PrintWords Go.Proofs.YtghmajlfmoggfaaGreatW.PrintLast PFnMerge Go.Maps Go.Sort
theorem sortC : SortC := by
 intro g cap base ss w hl hrow
 rcases hrow.2 with ⟨hnil, _⟩ | ⟨g', cap', cur, he, hbase, hb, h1, h2, h3, h4⟩
 ·exact absurd hnil (by intro e; cases e)
 ·injection he with e1 e2 e3
  injection e1 with e1
  injection e1 with e1
  subst e1
  subst e3
  have hH := holds_of_block hb (by simpa using h4)
  have hc := Tryz.sort_Strings g 0 cap ss w hH (Array.getElem?_eq_some_iff.1 hb).1 (by omega)
  with_reducible refine Calls.mono hc ?_
  rintro e w' ⟨rfl, n, os, rfl⟩
  refine ⟨rfl, ss.mergeSort (fun x y => decide (x ≤ y)), List.mergeSort_perm _ _, ?_, grownBy_sorted _⟩
  exact ownsRow_sorted (by simp) hbase hb h1 h2 h3
end Go.Proofs.YtghmajlfmoggfaaGreat
