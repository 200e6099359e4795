import Derived.Test.YtghmajlfmoggfaaGreatMI16
import Derived.Test.YtghmajlfmoggfaaGreatMJ1
import Derived.Test.YtghmajlfmoggfaaGreatME4
import Derived.Test.YtghmajlfmoggfaaGreatME2
set_option linter.unusedSimpArgs false
set_option linter.unusedVariables false
namespace Go.Proofs.YtghmajlfmoggfaaGreat
open Go.RowKit Go.Proofs.YtghmajlfmoggfaaGreatW.PrintWords Go.Proofs.YtghmajlfmoggfaaGreatW.PrintLast PFnMerge
set_option maxRecDepth 20000 in
theorem newList88 (w : World) : Calls Tryz.prog 88 #[.slice none 0 0] w fun e w' => ∃ ri bi, e = .returned (.pointer (some ⟨ri, 0, none⟩)) ∧ RNB w' ri bi ∧ NodeB w' bi 2 noStr noStr nilS ∧ w.heap.size ≤ bi ∧ Below w.heap.size w w' := by
 have H := Lib.hid (show RNB ((w.alloc (.cells (nd 2 noStr noStr nilS) 85)).alloc (.cells #[nilS, .pointer (some ⟨w.heap.size, 0, none⟩), .bool false, nilS] 81)) (w.heap.size + 1) w.heap.size ∧ NodeB ((w.alloc (.cells (nd 2 noStr noStr nilS) 85)).alloc (.cells #[nilS, .pointer (some ⟨w.heap.size, 0, none⟩), .bool false, nilS] 81)) w.heap.size 2 noStr noStr nilS ∧ Below w.heap.size w ((w.alloc (.cells (nd 2 noStr noStr nilS) 85)).alloc (.cells #[nilS, .pointer (some ⟨w.heap.size, 0, none⟩), .bool false, nilS] 81)) from
  ⟨blk_new (by simp) _, blk_old _ (blk_new rfl _), below_alloc (below_alloc (Below.refl _ _) _) _⟩)
 go_enter Tryz.func88, Tryz.ntmps88
 go_wp2_with fail
 refine wp_loop_rounds 1 ?_
 rw [rounds_succ]
 go_wp2_with fail
 go_ret
 exact ⟨_, _, rfl, H.out.1, H.out.2.1, Nat.le_refl _, H.out.2.2⟩
theorem S1.keepx {w w' : World} {T : Nat → Prop} {v : Value} {s : ByteArray} (h : S1 w v s) (hk : Keep T w w') (ht : ∀ k, T k → ∀ cs, w.heap[k]? ≠ some (.cells cs 9 (0, 0))) : S1 w' v s := by
 obtain ⟨g, c, cs, h1, h2, h3, h4⟩ := h
 exact ⟨g, c, cs, h1, h2, hk.at_ h3 fun hT => ht g hT cs h3, h4⟩
theorem tb_ne {w : World} {k : Nat} {cs : Array Value} {t : Nat} (h : TB w k) (ht : t ≠ 85 ∧ t ≠ 69) : w.heap[k]? ≠ some (.cells cs t (0, 0)) := by
 obtain ⟨cells, t', h1, h2⟩ := h
 intro e
 rw [h1] at e
 injection e with e
 injection e with _ e
 subst e
 rcases h2 with h | h
 ·exact ht.1 h
 ·exact ht.2 h
theorem SL.keepx {w w' : World} {T : Nat → Prop} {v : Value} {ss : List ByteArray} (h : SL w v ss) (hk : Keep T w w') (ht : ∀ k, T k → TB w k) : SL w' v ss := by
 obtain ⟨eb, c, cs, h1, h2, h3, h4⟩ := h
 refine ⟨eb, c, cs, h1, h2, hk.at_ h3 fun hT => tb_ne (ht _ hT) (by decide) h3, fun i s hs => ?_⟩
 obtain ⟨u, h5, h6⟩ := h4 i s hs
 exact ⟨u, h5, h6.keepx hk fun k hT cs => tb_ne (ht _ hT) (by decide)⟩
structure IL (lim ri bi : Nat) (E : List Nat) (w : World) : Prop where
 rn : RNB w ri bi
 list : ∃ C, ListAt w bi C E ∧ ∀ k, C.ownBlock = some k → lim ≤ k
 lo : lim ≤ bi
theorem IL.under {lim ri bi : Nat} {E : List Nat} {w w' : World} (h : IL lim ri bi E w) (hb : Below w.heap.size w w') : IL lim ri bi E w' := by
 obtain ⟨C, h1, h2⟩ := h.list
 exact ⟨h.rn.under hb, ⟨C, h1.under hb, h2⟩, h.lo⟩
theorem IL.keep {lim ri bi g : Nat} {E : List Nat} {w w' : World} (h : IL lim ri bi E w) (hk : Keep (fun k => (k < lim ∧ TB w k) ∨ k = g) w w') (hg : ∃ cs, w.heap[g]? = some (.cells cs 47 (0, 0))) : IL lim ri bi E w' := by
 obtain ⟨C, h1, h2⟩ := h.list
 obtain ⟨cg, hg⟩ := hg
 have ne : ∀ {k cs t}, w.heap[k]? = some (.cells cs t (0, 0)) → t ≠ 47 → k ≠ g := by
  rintro k cs t hk' hne rfl
  rw [hg] at hk'
  injection hk' with hk'
  injection hk' with _ hk'
  exact hne hk'.symm
 obtain ⟨F, h3⟩ := h1.row
 refine ⟨hk.at_ h.rn ?_, ⟨C, ⟨h1.node.move (hk.block _ h1.node.lt ?_), F, h3.1, own_move h3.2 fun k e => hk.block k (own_lt h3.2 k e) ?_⟩, h2⟩, h.lo⟩
 ·rintro (⟨_, h4⟩ | h4)
  ·exact tb_ne h4 (by decide) h.rn
  ·exact ne h.rn (by decide) h4
 ·rintro (⟨h4, _⟩ | h4)
  ·have := h.lo; omega
  ·exact ne h1.node (by decide) h4
 ·rintro (⟨h4, _⟩ | h4)
  ·have := h2 k e; omega
  ·obtain ⟨cs, hc⟩ := own_typed h3.2 k e
   exact ne hc (by decide) h4
theorem IL.push {lim ri bi el : Nat} {E : List Nat} {P : List ByteArray} {s : ByteArray} {w w' : World} {e : Ending} (h : IL lim ri bi E w) (hq : SetQ w bi E P s el e w') (hs : s ∉ P) (hlim : lim ≤ w.heap.size) : IL lim ri bi (E ++ [el]) w' := by
 obtain ⟨q, C', L, _, hL, hn, hown, hk⟩ := hq
 rw [hasB_no hs, if_neg (by decide)] at hL
 subst hL
 refine ⟨hk.at_ h.rn ?_, ⟨C', ⟨hn, fun _ => True, fun _ _ => trivial, own_zero hown⟩, fun k e => Nat.le_trans hlim (own_base hown k e)⟩, h.lo⟩
 rintro rfl
 obtain ⟨C, h1, _⟩ := h.list
 have h2 := h1.node
 have h3 := h.rn
 unfold NodeB at h2
 unfold RNB at h3
 rw [h2] at h3
 injection h3 with h3
 injection h3 with _ h3
 cases h3
def Set68 (Inv : Nat → List ByteArray → List Nat → World → Prop) (rd b : Nat) (C0 : Value) (bd : List Nat) (nd ss : List ByteArray) (e : Ending) (w' : World) : Prop :=
 e = .returned (.tuple #[.pointer (some ⟨rd, 0, none⟩), .nilIface]) ∧ ∃ bi E w1, Inv bi ss E w1 ∧ PL w1 b C0 ((E.zip ss).foldl putL (bd, nd)) w'
def Step68 (w : World) (lb : Nat) (infer : Bool) (bd bs : List Nat) (nd ns : List ByteArray) (Inv : Nat → List ByteArray → List Nat → World → Prop) (bi : Nat) (P : List ByteArray) (E : List Nat) (s : ByteArray) (wr : World) : Prop :=
 ∀ w3 g cap q1 q2, Below wr.heap.size wr w3 → SrcAt w3 g q1 q2 → 2 ≤ cap → wr.heap.size ≤ g → EQ bd nd s q1 w3 → EQ bs ns s q2 w3 → Calls Tryz.prog 38 #[wkV (.iface 107 (.pointer (some ⟨lb, 0, none⟩))) (.slice none 0 0) (.int .i64 0) g cap infer] w3 fun e w4 => ∃ r4 el, e = .returned (.tuple #[.pointer (some ⟨r4, 0, none⟩), .nilIface]) ∧ RNB w4 r4 el ∧ (∃ Cel, NodeB w4 el 4 noStr noStr Cel) ∧ Inv bi (P ++ [s]) (E ++ [el]) w4 ∧ Keep (fun k => (k < w.heap.size ∧ TB w3 k) ∨ k = g) w3 w4
structure H68 (w : World) (T : Nat → Prop) (lb sb c rd b : Nat) (V path C0 : Value) (infer : Bool) (sp : Option Addr) (bd bs : List Nat) (nd ns ss : List ByteArray) (Inv : Nat → List ByteArray → List Nat → World → Prop) : Prop where
 box : w.heap[lb]? = some (.cells #[V, .pointer none, .slice (some ⟨sb, 0, none⟩) 2 c, path, .bool infer, .bool false, .int .i64 0] 66 (0, 0))
 tb : ∀ k, T k → TB w k
 lt : b < w.heap.size
 se : ∀ s ∈ ss, s.toList.isEmpty = false
 sn : ss.Nodup
 len : bd.length + ss.length ≤ 1000
 bdl : bd.length = nd.length
 und : ∀ bi P E w' w'', Inv bi P E w' → Below w'.heap.size w' w'' → Inv bi P E w''
 keep : ∀ bi P E w', Inv bi P E w' → Keep T w w' ∧ E.length = P.length ∧ Nms w' E P
 fr : ∀ bi P E w' w'', Inv bi P E w' → w.heap.size ≤ bi → Keep (fun k => k = bi) w' w'' → Nms w'' E P → Inv bi P E w''
 h0 : ∀ bi w1, Below w.heap.size w w1 → w.heap.size ≤ bi → bi < w1.heap.size → Inv bi [] [] w1
 vals : ∀ bi P E w', Inv bi P E w' → SrcAt w' sb (some ⟨rd, 0, none⟩) sp ∧ NLb w' (some ⟨rd, 0, none⟩) bd nd ∧ NLb w' sp bs ns ∧ RNB w' rd b ∧ ListAt w' b C0 bd ∧ Nms w' bd nd
 step : ∀ bi P s rest E w', P ++ s :: rest = ss → Inv bi P E w' → w.heap.size ≤ bi → bi < w'.heap.size → Step68 w lb infer bd bs nd ns Inv bi P E s w'
set_option maxRecDepth 20000 in
set_option maxHeartbeats 16000000 in
theorem set68 {lb sb c rd b : Nat} {V path kv vl C0 : Value} {infer : Bool} {sp : Option Addr} {bd bs : List Nat} {nd ns ss : List ByteArray} {T : Nat → Prop} (w : World) (hc : 2 ≤ c) (Inv : Nat → List ByteArray → List Nat → World → Prop) (h : H68 w T lb sb c rd b V path C0 infer sp bd bs nd ns ss Inv) (hkv : S1 w kv nmKey) (hvl : SL w vl ss) (hss : 0 < ss.length) :
  Calls Tryz.prog 68 #[.pointer (some ⟨lb, 0, none⟩), vl, kv, .pointer (some ⟨rd, 0, none⟩)] w fun e w' => Set68 Inv rd b C0 bd nd ss e w' := by
 obtain ⟨n, hn⟩ : ∃ n, n = ss.length := ⟨_, rfl⟩
 have H := Lib.hid h
 have HA := Lib.hid (And.intro hkv (And.intro hvl (And.intro hss (And.intro hc hn))))
 have q1 : w.cell? ⟨lb, 1, none⟩ = some (.pointer none) := (blk_cell h.box 1).trans rfl
 obtain ⟨kb, kc, _, rfl, hkc, _, _⟩ := hkv
 obtain ⟨eb, ec, _, rfl, hec, _, _⟩ := hvl
 rw [← hn] at hss hec ⊢
 have hn2 : (n : Int) ≤ 1000 := by have := h.len; omega
 have hn0 : ¬ ((n : Int) = 0) := by omega
 have hn1 : (0 : Int) < (n : Int) := by omega
 clear h hn hc
 go_enter Tryz.func68, Tryz.ntmps68
 go_wp2_with fail
 refine (newList88 _).mono ?_
 rintro e w0 ⟨ri, bi, rfl, hri, hbi, hlo, hb0⟩
 have HI0 := Lib.hid (show IL w.heap.size ri bi [] w0 ∧ Below w.heap.size w w0 from ⟨⟨hri, ⟨nilS, ⟨hbi, fun _ => True, fun _ _ => trivial, own_nil _ _ _ _⟩, fun k e => by simp [Value.ownBlock] at e⟩, hlo⟩, hb0⟩)
 have HV0 := Lib.hid (H.out.h0 bi w0 hb0 hlo hbi.lt)
 have q1 : w0.cell? ⟨lb, 1, none⟩ = some (.pointer none) := (blk_cell ((hb0.block lb (lt_of_block H.out.box)).trans H.out.box) 1).trans rfl
 clear hri hbi hlo hb0
 go_wp2_with fail
 go_loopg [40, 12] n (fun k i kw wr => ∃ (j : Nat) (E : List Nat), j + k = n ∧ i = .int .i64 (j : Int) ∧ Hid (Inv bi (ss.take j) E wr ∧ IL w.heap.size ri bi E wr ∧ (1 ≤ j → S1 wr kw nmKey)))
 case atStart => exact ⟨0, [], by omega, rfl, Lib.hid ⟨HV0.out, HI0.out.1, fun h => by omega⟩⟩
 case round =>
  obtain ⟨j, E, hj, rfl, HI⟩ := hrel
  by_cases hlt : 1 ≤ gk
  ·have hj2 : (j : Int) < (n : Int) := by omega
   have hj3 : j < n := by omega
   have hj4 : j < ec := by omega
   obtain ⟨s, hs⟩ : ∃ s, ss[j]? = some s := ⟨_, List.getElem?_eq_getElem (by have := HA.out.2.2.2.2; omega)⟩
   obtain ⟨hkp, hEl, hnm⟩ := H.out.keep _ _ _ _ HI.out.1
   have hsl := HA.out.2.1.keepx hkp H.out.tb
   rw [← HA.out.2.2.2.2] at hsl
   obtain ⟨u, hcell, hu⟩ := hsl.cell hs
   have HS := Lib.hid (And.intro hs (And.intro hu (And.intro hsl (And.intro hkp (And.intro hEl hnm)))))
   obtain ⟨ug, uc, _, rfl, huc, _, _⟩ := hu
   have hsm : s ∈ ss := List.mem_of_getElem? hs
   have hspl : ss = ss.take j ++ s :: ss.drop (j + 1) := by
    have h1 := List.take_append_drop j ss
    have h2 : ss.drop j = s :: ss.drop (j + 1) := List.drop_eq_getElem?_toList_append.trans (by rw [hs]; rfl)
    rw [h2] at h1
    exact h1.symm
   have hsno : s ∉ ss.take j := by
    have h1 := H.out.sn
    rw [hspl, List.nodup_append] at h1
    exact fun h => h1.2.2 s h s (by simp) rfl
   have HP := Lib.hid (And.intro hsm (And.intro hspl.symm hsno))
   clear hs hsl hkp hEl hnm hsm hspl hsno
   go_wp2_with fail
   refine (validate91 _ HS.out.2.2.1 (fun e => by have := HA.out.2.2.1; rw [e] at this; simp at this) (by have := HA.out.2.2.2.2; have := H.out.len; omega) H.out.se HS.out.2.1 (H.out.se s HP.out.1) (HA.out.1.keepx HS.out.2.2.2.1 fun k hT cs => tb_ne (H.out.tb k hT) (by decide))).mono ?_
   rintro e w2 ⟨k2, v2, rfl, hk2, hv2, hb2⟩
   have hkp2 := HS.out.2.2.2.1.then hb2
   have hbx : w2.heap[lb]? = some (.cells #[V, .pointer none, .slice (some ⟨sb, 0, none⟩) 2 c, path, .bool infer, .bool false, .int .i64 0] 66 (0, 0)) := hkp2.at_ H.out.box fun hT => tb_ne (H.out.tb _ hT) (by decide) H.out.box
   have HX2 := Lib.hid hbx
   have hi2 := H.out.und _ _ _ _ _ HI.out.1 hb2
   obtain ⟨hsrc, hnd, hns, _, _, _⟩ := H.out.vals _ _ _ _ hi2
   have hval := valueList92 (V := V) (path := path) (sc := .pointer none) (ic := .bool infer) (vk := .bool false) (mo := .int .i64 0) w2.drew (hsrc.under (below_drew (Below.refl _ _))) HA.out.2.2.2.1 (hnd.under (below_drew (Below.refl _ _))) (hns.under (below_drew (Below.refl _ _))) (hk2.under (below_drew (Below.refl _ _))) (hv2.under (below_drew (Below.refl _ _))) (H.out.se s HP.out.1)
   have HK2 := Lib.hid (And.intro hk2 (And.intro hv2 (And.intro hb2 hi2)))
   obtain ⟨k2b, k2c, _, rfl, hk2c, _, _⟩ := hk2
   obtain ⟨v2b, v2c, _, rfl, hv2c, _, _⟩ := hv2
   have HVAL := Lib.hid hval
   have HSTEP := Lib.hid (H.out.step bi (ss.take j) s _ E w2.drew HP.out.2.1 (H.out.und _ _ _ _ _ hi2 (below_drew (Below.refl _ _))) HI.out.2.1.lo (by
    obtain ⟨C, h1, _⟩ := (HI.out.2.1.under hb2).list
    exact h1.node.lt))
   clear hkp2 hbx hi2 hsrc hnd hns hval hb2 hcell
   go_wp2_with fail
   refine start_ (n := 28) (S := fun w' => w'.cell? ⟨lb, 0, none⟩ = some (V) ∧ w'.cell? ⟨lb, 1, none⟩ = some (.pointer none) ∧ w'.cell? ⟨lb, 2, none⟩ = some (.slice (some ⟨sb, 0, none⟩) 2 c) ∧ w'.cell? ⟨lb, 3, none⟩ = some (path) ∧ w'.cell? ⟨lb, 4, none⟩ = some (.bool infer) ∧ w'.cell? ⟨lb, 5, none⟩ = some (.bool false) ∧ w'.cell? ⟨lb, 6, none⟩ = some (.int .i64 0)) (ds := [22]) #[false, false, false, false, false, false, false, false, false, false, false, false, false, false, false, false, false, false, false, false, false, false, false, false, false, false, false, false] (by kernel_rfl) rfl rfl ⟨(blk_cell HX2.out 0).trans rfl, (blk_cell HX2.out 1).trans rfl, (blk_cell HX2.out 2).trans rfl, (blk_cell HX2.out 3).trans rfl, (blk_cell HX2.out 4).trans rfl, (blk_cell HX2.out 5).trans rfl, (blk_cell HX2.out 6).trans rfl⟩ (fun hHeld => ?_)
   refine pu 0 (some 55) (bl 28 1) ?_
   refine pu 1 (some 56) (bl 28 3) ?_
   refine pu 2 (some 57) (bl 28 7) ?_
   refine pu 4 (some 59) (bl 28 23) ?_
   refine pu 5 (some 60) (bl 28 55) ?_
   refine pu 6 (some 61) (bl 28 119) ?_
   refine pu 8 (some 63) (bl 28 375) ?_
   refine pu 9 (some 64) (bl 28 887) ?_
   refine pu 10 (some 65) (bl 28 1911) ?_
   refine pu 11 (some 66) (bl 28 3959) ?_
   refine pu 12 (some 67) (bl 28 8055) ?_
   refine pu 14 (some 69) (bl 28 24439) ?_
   refine pu 15 (some 70) (bl 28 57207) ?_
   refine pu 17 (some 72) (bl 28 188279) ?_
   refine pu 18 (some 73) (bl 28 450423) ?_
   refine pu 19 (some 74) (bl 28 974711) ?_
   refine tk 3 (some 58) (bl 28 974719) hHeld ?_
   refine tk 7 (some 62) (bl 28 974847) hHeld ?_
   refine tk 13 (some 68) (bl 28 983039) hHeld ?_
   refine tk 20 (some 75) (bl 28 2031615) hHeld ?_
   refine on_ 16 (some 71) (bl 28 2097151) fun K hK => ?_
   refine gs_ Tryz.func92 #[.agg #[V, .pointer none, .slice (some ⟨sb, 0, none⟩) 2 c, path, .bool infer, .bool false, .int .i64 0], .slice (some ⟨k2b, 0, none⟩) 1 k2c, .slice (some ⟨v2b, 0, none⟩) 1 v2c] ?_
   refine (HVAL.out).mono ?_
   rintro e w3 ⟨g, cap, q1, q2, rfl, hcap, hg, hs3, he1, he2, hb3⟩
   have HV3 := Lib.hid (And.intro hcap (And.intro hg (And.intro hs3 (And.intro he1 (And.intro he2 hb3)))))
   have HX3 := Lib.hid ((hb3.block lb (lt_of_block HX2.out)).trans HX2.out)
   clear hcap hg hs3 he1 he2 hb3
   refine ⟨_, rfl, ?_⟩
   refine hK.out _ _ ⟨(blk_cell HX3.out 0).trans rfl, (blk_cell HX3.out 1).trans rfl, (blk_cell HX3.out 2).trans rfl, (blk_cell HX3.out 3).trans rfl, (blk_cell HX3.out 4).trans rfl, (blk_cell HX3.out 5).trans rfl, (blk_cell HX3.out 6).trans rfl⟩ (fun hHeld => ?_)
   clear hK K
   refine nr (some 71) ?_
   refine pu 21 (some 76) (bl 28 4194303) ?_
   refine ls_ 22 (some 77) (bl 28 8388607) fun K hK => ?_
   refine gs_ Tryz.func38 #[wkV (.iface 107 (.pointer (some ⟨lb, 0, none⟩))) (.slice none 0 0) (.int .i64 0) g cap infer] ?_
   refine (HSTEP.out w3 g cap q1 q2 HV3.out.2.2.2.2.2 HV3.out.2.2.1 HV3.out.1 HV3.out.2.1 HV3.out.2.2.2.1 HV3.out.2.2.2.2.1).mono ?_
   rintro e w4 ⟨r4, el, rfl, hr4, hel4, hi4, hk4⟩
   have HI4 := Lib.hid (And.intro hr4 (And.intro hel4 (And.intro hi4 hk4)))
   clear hr4 hel4 hi4 hk4
   refine ⟨_, rfl, ?_⟩
   refine hK.out _ _ ?_
   clear hK K
   refine nr (some 77) ?_
   refine pu 23 (some 54) (bl 28 16777215) ?_
   refine pu 24 (some 78) (bl 28 33554431) ?_
   refine pu 25 (some 79) (bl 28 67108863) ?_
   refine pu 26 (some 16) (bl 28 134217727) ?_
   refine pu 27 (some 17) (bl 28 268435455) ?_
   refine done_ (by kernel_rfl) ?_
   have hb23 : Below w2.heap.size w2 w3 := (below_drew (Below.refl _ _)).trans HV3.out.2.2.2.2.2
   have hg47 : ∃ cs, w3.heap[g]? = some (.cells cs 47 (0, 0)) := by
    obtain ⟨cur, h, _⟩ := HV3.out.2.2.1
    exact ⟨cur, h⟩
   have hno9 : ∀ k, ((k < w.heap.size ∧ TB w3 k) ∨ k = g) → ∀ cs, w3.heap[k]? ≠ some (.cells cs 9 (0, 0)) := by
    rintro k (⟨_, h⟩ | rfl) cs
    ·exact tb_ne h (by decide)
    ·obtain ⟨cg, h⟩ := hg47
     intro e
     rw [h] at e
     injection e with e
     injection e with _ e
     cases e
   have hnm4 : NmB w4 el s := by
    obtain ⟨_, h1, h2⟩ := H.out.keep _ _ _ _ HI4.out.2.2.1
    refine h2 E.length el s (by simp) ?_
    have h3 : E.length = (ss.take j).length := HS.out.2.2.2.2.1
    rw [h3]
    simp
   have HW4 := Lib.hid (show S1 w4 (.slice (some ⟨k2b, 0, none⟩) 1 k2c) nmKey ∧ S1 w4 (.slice (some ⟨v2b, 0, none⟩) 1 v2c) s ∧ IL w.heap.size ri bi E w4 ∧ NmB w4 el s from
    ⟨(HK2.out.1.under hb23).keepx HI4.out.2.2.2 hno9, (HK2.out.2.1.under hb23).keepx HI4.out.2.2.2 hno9, ((HI.out.2.1.under HK2.out.2.2.1).under hb23).keep HI4.out.2.2.2 hg47, hnm4⟩)
   have hk4c := HW4.out.1.cell
   obtain ⟨Cel, hnel⟩ := HI4.out.2.1
   have HNEL := Lib.hid hnel
   have HMISS := Lib.hid (And.intro (hnm4.miss HI4.out.1) (And.intro (hnm4.empty93 HI4.out.1) (And.intro (hnm4.field HI4.out.1) (ynode_some w4 HI4.out.1 hnel rfl))))
   clear hb23 hg47 hno9 hnm4 hnel
   go_wp2_with fail
   refine wp_loop_rounds 2 ?_
   rw [rounds_succ]
   go_wp2_with (first | (go_at_call 55; (with_reducible refine Calls.mono HMISS.out.1 ?_); rintro e w' ⟨rfl, rfl⟩) | (go_at_call 93; (with_reducible refine Calls.mono HMISS.out.2.1 ?_); rintro e w' ⟨rfl, rfl⟩))
   refine HMISS.out.2.2.1.mono ?_
   rintro e w5 ⟨mb, kr, vr, cb, tag, rfl, _, _, _, _, hb5⟩
   have HB5 := Lib.hid hb5
   have hyn := ynode_some w5 (HI4.out.1.under hb5) (HNEL.out.under hb5) rfl
   have HYN := Lib.hid hyn
   clear hb5 hk4c hyn
   go_wp2_with fail
   rw [rounds_succ]
   go_wp2_with (go_at_call 42; (with_reducible refine Calls.mono HYN.out ?_); rintro e w' ⟨rfl, rfl⟩)
   obtain ⟨W7, hW7⟩ : ∃ W7, W7 = w5.alloc (.cells #[.iface 150 (.agg #[.string noStr, .pointer (some ⟨el, 0, none⟩), .slice (some ⟨k2b, 0, none⟩) 1 k2c, .slice (some ⟨v2b, 0, none⟩) 1 v2c])] 135) := ⟨_, rfl⟩
   have hb57 : Below w4.heap.size w4 W7 := hW7 ▸ below_alloc HB5.out _
   have hcell7 : W7.cell? ⟨w5.heap.size, 0, none⟩ = some (.iface 150 (.agg #[.string noStr, .pointer (some ⟨el, 0, none⟩), .slice (some ⟨k2b, 0, none⟩) 1 k2c, .slice (some ⟨v2b, 0, none⟩) 1 v2c])) := hW7 ▸ (blk_cell (blk_new rfl _) 0).trans rfl
   have hil7 := HW4.out.2.2.1.under hb57
   have hi7 := H.out.und _ _ _ _ _ HI4.out.2.2.1 hb57
   have hEl : E.length = (ss.take j).length := HS.out.2.2.2.2.1
   have hEl2 : E.length ≤ 1000 := by
    have h1 := List.length_take_le j ss
    have h2 := H.out.len
    have h3 := HA.out.2.2.2.2
    rw [List.length_take] at hEl
    have h4 := Nat.min_le_right j ss.length
    omega
   obtain ⟨_, _, hnms7⟩ := H.out.keep _ _ _ _ hi7
   have hnmsE : Nms W7 E (ss.take j) := fun i e t h1 h2 => hnms7 i e t (by rw [List.getElem?_append_left (List.getElem?_eq_some_iff.1 h1).1]; exact h1) (by rw [List.getElem?_append_left (List.getElem?_eq_some_iff.1 h2).1]; exact h2)
   obtain ⟨Cl, hla, hlow⟩ := hil7.list
   have hneb : el ≠ bi := by
    rintro rfl
    have h1 := HNEL.out.under hb57
    have h2 := hla.node
    unfold NodeB at h1 h2
    rw [h1] at h2
    injection h2 with h2
    injection h2 with h2
    injection h2 with h2
    injection h2 with h2 _
    injection h2 with _ h2
    revert h2
    decide
   have hset := setter191 (el := el) (v := s) W7 hil7.rn hla hEl2 hEl hnmsE (HW4.out.1.under hb57) (HW4.out.2.1.under hb57) (H.out.se s HP.out.1) (HNEL.out.under hb57) hneb
   have HPI := Lib.hid (pipe1 (fun q w' => SetQ W7 bi E (ss.take j) s el (.returned (.tuple #[.pointer q, .nilIface])) w') W7 hil7.rn hla.node rfl (fb := w5.heap.size) hcell7 (meth191 _ _ _ _) enter191 (hset.mono fun e w' h => by
    obtain ⟨q, C', L, h1, h2⟩ := h
    subst h1
    exact ⟨q, rfl, q, C', L, rfl, h2⟩))
   have ht7 : ∀ k, k = bi → ∃ tag val C, NodeB W7 k 2 tag val C := fun k hk => ⟨_, _, _, hk ▸ hla.node⟩
   have HR7 := Lib.hid (And.intro hil7 (And.intro hi7 (And.intro hnms7 (And.intro ht7 (HW4.out.1.under hb57)))))
   have HW7 := Lib.hid hW7
   clear hb57 hcell7 hil7 hi7 hEl hEl2 hnms7 hnmsE hla hlow hneb hset ht7 hW7
   rw [← HW7.out]
   refine HPI.out.mono ?_
   rintro e w8 ⟨q, rfl, hq⟩
   have HQ := Lib.hid hq
   clear hq
   go_wp2_with fail
   go_roundg (gk - 1)
   case measure => omega
   case rel =>
    have hk8 : Keep (fun k => k = bi) W7 w8 := by
     obtain ⟨q', C', L, _, _, _, _, h⟩ := HQ.out
     exact h
    have htk : ss.take (j + 1) = ss.take j ++ [s] := by rw [List.take_add_one, HS.out.1]; rfl
    have hlim : w.heap.size ≤ W7.heap.size := (H.out.keep _ _ _ _ HR7.out.2.1).1.size
    refine ⟨j + 1, E ++ [el], by omega, by go_num, Lib.hid ⟨?_, HR7.out.1.push HQ.out HP.out.2.2 hlim, fun _ => HR7.out.2.2.2.2.keep hk8 HR7.out.2.2.2.1⟩⟩
    rw [htk]
    exact H.out.fr _ _ _ _ _ HR7.out.2.1 HR7.out.1.lo hk8 fun i e t h1 h2 => (HR7.out.2.2.1 i e t h1 h2).keep hk8 HR7.out.2.2.2.1
  ·have hj2 : ¬ ((j : Int) < (n : Int)) := by omega
   have htk : ss.take j = ss := List.take_of_length_le (by have := HA.out.2.2.2.2; omega)
   have hiv := HI.out.1
   rw [htk] at hiv
   obtain ⟨hkp, hEl, hnm⟩ := H.out.keep _ _ _ _ hiv
   obtain ⟨hsrc, hnd, hns, hrd, hld, hnmd⟩ := H.out.vals _ _ _ _ hiv
   obtain ⟨Cl, hla, _⟩ := HI.out.2.1.list
   have hbb : bi ≠ b := by
    have h1 := HI.out.2.1.lo
    have h2 := H.out.lt
    omega
   have hap := append96 wr hrd hld (by have := H.out.len; omega) H.out.bdl hnmd HI.out.2.1.rn hla hEl hnm H.out.se hbb (HI.out.2.2 (by omega))
   obtain ⟨kwb, kwc, _, rfl, _, _, _⟩ := HI.out.2.2 (by omega)
   have hw6 : wr.cell? ⟨lb, 6, none⟩ = some (.int .i64 0) := (blk_cell (hkp.at_ H.out.box fun hT => tb_ne (H.out.tb _ hT) (by decide) H.out.box) 6).trans rfl
   have HAP := Lib.hid (And.intro hap (And.intro hiv (And.intro hrd hld)))
   clear htk hiv hkp hEl hnm hsrc hnd hns hrd hld hnmd hla hbb hap
   go_wp2_with fail
   refine HAP.out.1.mono ?_
   rintro e w9 ⟨rfl, hpl⟩
   have hrd9 : RNB w9 rd b := hpl.keep.at_ HAP.out.2.2.1 (by
    rintro rfl
    have h1 := HAP.out.2.2.1
    have h2 := HAP.out.2.2.2.node
    unfold RNB at h1
    unfold NodeB at h2
    rw [h1] at h2
    injection h2 with h2
    injection h2 with _ h2
    cases h2)
   have hms : Calls Tryz.prog 55 #[.pointer (some ⟨rd, 0, none⟩)] w9 fun e w' => e = .returned (.bool false) ∧ w9 = w' := by
    obtain ⟨C9, hl9, _⟩ := hpl.list
    exact missing_no w9 hrd9 hl9.node rfl nostr_ne
   have HPL := Lib.hid (And.intro hpl hms)
   clear hpl hrd9 hms hw6
   go_wp2_with (go_at_call 55; (with_reducible refine Calls.mono HPL.out.2 ?_); rintro e w' ⟨rfl, rfl⟩)
   refine bodyPost_ret (v := .tuple #[.pointer (some ⟨rd, 0, none⟩), .nilIface]) (by simp [results, Tryz.results68, go_sem]) rfl ⟨rfl, bi, E, wr, HAP.out.2.1, HPL.out.1⟩
theorem VS.sl {w : World} {base : Nat} {v : Value} {ss : List ByteArray} (h : VS w base v ss) (hn : 0 < ss.length) : SL w v ss := by
 obtain ⟨xs, ⟨hl, h | ⟨g, cap, cur, rfl, _, hg, h1, h2, hz, ht⟩⟩, hs⟩ := h
 ·omega
 ·refine ⟨g, cap, cur, rfl, h1, hg, fun i s hi => ?_⟩
  obtain ⟨u, h3, h4⟩ := hs i s hi
  have hlt : i < ss.length := (List.getElem?_eq_some_iff.1 hi).1
  rw [← ht, List.getElem?_take_of_lt (by omega)] at h3
  exact ⟨u, by rw [← Array.getElem?_toList]; exact h3, h4⟩
theorem allB_true {bs : List Nat} {f : Nat → Bool} (h : ∀ b ∈ bs, f b = true) : allB f bs = true := by
 unfold allB
 rw [List.filter_eq_self.2 h]
 exact decide_eq_true rfl
theorem NLb.src2 {w : World} {q : Option Addr} {bs : List Nat} {ns : List ByteArray} (h : NLb w q bs ns) : Src2 w q true := by
 rcases h with ⟨rfl, _, _⟩ | ⟨r, b, C, rfl, h1, h2, h3, h4, h5, _, h7⟩
 ·exact .inl rfl
 ·refine .inr ⟨r, rfl, b, C, bs, fun _ => true, h1, h2, ?_, h4, ?_, allB_true fun _ _ => rfl⟩
  ·intro e
   rw [e] at h3
   simp at h3
   omega
  ·intro e he
   obtain ⟨i, hi, hie⟩ := List.getElem_of_mem he
   have hi2 : i < ns.length := by omega
   exact (h5 i e ns[i] (by rw [List.getElem?_eq_getElem hi, hie]) (List.getElem?_eq_getElem hi2)).el
theorem addN_acc {l acc : List ByteArray} : acc.length ≤ (addN acc l).length := by
 unfold addN
 induction l generalizing acc with
 | nil => exact Nat.le_refl _
 | cons a r ih =>
  simp only [List.foldl_cons]
  refine Nat.le_trans ?_ ih
  split
  ·exact Nat.le_refl _
  ·simp
theorem addN_pos {l : List ByteArray} (h : 0 < l.length) : 0 < (addN [] l).length := by
 cases l with
 | nil => simp at h
 | cons a r =>
  have h1 : (addN ([] ++ [a]) r).length ≤ (addN [] (a :: r)).length := by
   unfold addN
   simp only [List.foldl_cons]
   exact Nat.le_refl _
  have h2 := addN_acc (l := r) (acc := [] ++ [a])
  simp only [List.nil_append, List.length_singleton] at h1 h2
  omega
theorem src_ne66 {w : World} {sb lb : Nat} {dp sp : Option Addr} {cs : Array Value} (hs : SrcAt w sb dp sp) (h : w.heap[lb]? = some (.cells cs 66 (0, 0))) : lb ≠ sb := by
 rintro rfl
 obtain ⟨cur, h1, _⟩ := hs
 rw [h1] at h
 injection h with h
 injection h with _ h
 cases h
set_option maxRecDepth 20000 in
set_option maxHeartbeats 8000000 in
theorem walk49 {lb sb c rd b m : Nat} {V path C0 : Value} {infer : Bool} {dp sp : Option Addr} {bd bs : List Nat} {nd ns : List ByteArray} (J : Option Addr → World → Prop) (w : World) (hc : 2 ≤ c) (hV : VisW w m V) (hm : m ≤ 300)
  (hbx : w.heap[lb]? = some (.cells #[V, .pointer none, .slice (some ⟨sb, 0, none⟩) 2 c, path, .bool infer, .bool false, .int .i64 0] 66 (0, 0))) (hs : SrcAt w sb dp sp) (hd : dp = none ∨ ListQ w dp) (ho : sp = none ∨ ListQ w sp) (hn : ¬ (dp = none ∧ sp = none)) (hq : dp.or sp = some ⟨rd, 0, none⟩)
  (hnd : ∀ w1, Keep (fun k => k = sb) w w1 → NLb w1 (some ⟨rd, 0, none⟩) bd nd ∧ NLb w1 sp bs ns) (hnd0 : 0 < nd.length)
  (hin : ∀ w1, Keep (fun k => k = sb) w w1 → SrcAt w1 sb (some ⟨rd, 0, none⟩) sp → w1.heap[lb]? = some (.cells #[V, .pointer none, .slice (some ⟨sb, 0, none⟩) 2 c, path, .bool infer, .bool false, .int .i64 0] 66 (0, 0)) → ∃ T Inv, H68 w1 T lb sb c rd b V path C0 infer sp bd bs nd ns (addN (addN [] nd) ns) Inv ∧ ∀ e w', Set68 Inv rd b C0 bd nd (addN (addN [] nd) ns) e w' → J (some ⟨rd, 0, none⟩) w') :
  Calls Tryz.prog 49 #[.pointer (some ⟨lb, 0, none⟩)] w fun e w' => ∃ q, e = .returned (.tuple #[.pointer q, .nilIface]) ∧ J q w' := by
 obtain ⟨T, x, rfl, hmm⟩ := hV.meths hm
 have hm2 := (hmm _ (K66.of_below (below_drew (Below.refl w.heap.size w)))).2.1
 have hvis := visitListA (c := c) w.drew (hs.under (below_drew (Below.refl _ _))) (hd.imp id fun h => h.under (below_drew (Below.refl _ _))) (ho.imp id fun h => h.under (below_drew (Below.refl _ _))) hn
 rw [hq] at hvis
 have HVIS := Lib.hid hvis
 have HBX := Lib.hid (blk_drew hbx)
 have HS := Lib.hid (And.intro hs (And.intro hnd (And.intro hin (And.intro hc (And.intro (src_ne66 hs hbx) hnd0)))))
 have hk := enter158
 clear hmm hV hbx hs hd ho hn hq hnd hin hc hvis hnd0
 go_enter Tryz.func49, Tryz.ntmps49
 go_wp2_with fail
 refine start_ (n := 27) (S := fun w' => w'.cell? ⟨lb, 2, none⟩ = some (.slice (some ⟨sb, 0, none⟩) 2 c) ∧ w'.cell? ⟨lb, 0, none⟩ = some (.iface T x) ∧ w'.cell? ⟨lb, 1, none⟩ = some (.pointer none)) (ds := [21]) #[false, false, false, false, false, false, false, false, false, false, false, false, false, false, false, false, false, false, false, false, false, false, false, false, false, false, false] (by kernel_rfl) rfl rfl ⟨(blk_cell HBX.out 2).trans rfl, (blk_cell HBX.out 0).trans rfl, (blk_cell HBX.out 1).trans rfl⟩ (fun hHeld => ?_)
 refine pu 0 (some 12) (bl 27 1) ?_
 refine pu 1 (some 13) (bl 27 3) ?_
 refine pu 2 (some 14) (bl 27 7) ?_
 refine pu 4 (some 16) (bl 27 23) ?_
 refine pu 5 (some 17) (bl 27 55) ?_
 refine pu 6 (some 18) (bl 27 119) ?_
 refine pu 8 (some 20) (bl 27 375) ?_
 refine pu 9 (some 21) (bl 27 887) ?_
 refine pu 10 (some 22) (bl 27 1911) ?_
 refine pu 12 (some 24) (bl 27 6007) ?_
 refine pu 13 (some 25) (bl 27 14199) ?_
 refine pu 14 (some 26) (bl 27 30583) ?_
 refine tk 3 (some 15) (bl 27 30591) hHeld ?_
 refine tk 7 (some 19) (bl 27 30719) hHeld ?_
 refine pu 16 (some 28) (bl 27 96255) ?_
 refine pu 17 (some 29) (bl 27 227327) ?_
 refine tk 11 (some 23) (bl 27 229375) hHeld ?_
 refine tk 15 (some 27) (bl 27 262143) hHeld ?_
 refine on_ 18 (some 30) (bl 27 524287) fun K hK => ?_
 refine call_ 158 #[.agg #[], .slice (some ⟨sb, 0, none⟩) 2 c, .pointer none, .int .i32 1] (by rfl) rfl ?_ ?_
 ·go_simp
 refine (HVIS.out.mono ?_)
 rintro e w1 ⟨rfl, hb1⟩
 have HB1 := Lib.hid ((below_drew (Below.refl w.heap.size w)).trans hb1)
 have HX1 := Lib.hid ((hb1.block lb (lt_of_block HBX.out)).trans HBX.out)
 clear hb1
 refine ⟨_, rfl, ?_⟩
 refine hK.out _ _ ⟨(blk_cell HX1.out 2).trans rfl, (blk_cell HX1.out 0).trans rfl, (blk_cell HX1.out 1).trans rfl⟩ (fun hHeld => ?_)
 clear hK K
 refine nr (some 30) ?_
 refine pu 19 (some 31) (bl 27 1048575) ?_
 refine pu 20 (some 32) (bl 27 2097151) ?_
 refine ls_ 21 (some 33) (bl 27 4194303) fun K hK => ?_
 refine gs_ Tryz.func57 #[.slice (some ⟨sb, 0, none⟩) 2 c, .pointer (some ⟨rd, 0, none⟩), .nilIface] ?_
 refine (setDest57 (q := some ⟨rd, 0, none⟩) w1 (HS.out.1.under HB1.out)).mono ?_
 rintro e w2 ⟨rfl, hs2, hk2⟩
 have HI2 := Lib.hid (And.intro hs2 (And.intro ((Keep.of_below HB1.out fun k => k = sb).trans hk2 fun k _ h => h) hk2))
 clear hs2 hk2
 refine ⟨_, rfl, ?_⟩
 refine hK.out _ _ ?_
 clear hK K
 refine nr (some 33) ?_
 refine pu 22 (some 11) (bl 27 8388607) ?_
 refine pu 23 (some 34) (bl 27 16777215) ?_
 refine pu 24 (some 35) (bl 27 33554431) ?_
 refine pu 25 (some 4) (bl 27 67108863) ?_
 refine pu 26 (some 5) (bl 27 134217727) ?_
 refine done_ (by kernel_rfl) ?_
 clear HVIS hm2 hk
 have hbx2 : w2.heap[lb]? = some (.cells #[.iface T x, .pointer none, .slice (some ⟨sb, 0, none⟩) 2 c, path, .bool infer, .bool false, .int .i64 0] 66 (0, 0)) := HI2.out.2.2.at_ HX1.out HS.out.2.2.2.2.1
 have p0 : w2.cell? ⟨lb, 0, none⟩ = some (.iface T x) := (blk_cell hbx2 0).trans rfl
 have p1 : w2.cell? ⟨lb, 1, none⟩ = some (.pointer none) := (blk_cell hbx2 1).trans rfl
 have p2 : w2.cell? ⟨lb, 2, none⟩ = some (.slice (some ⟨sb, 0, none⟩) 2 c) := (blk_cell hbx2 2).trans rfl
 have p3 : w2.cell? ⟨lb, 3, none⟩ = some path := (blk_cell hbx2 3).trans rfl
 have p4 : w2.cell? ⟨lb, 4, none⟩ = some (.bool infer) := (blk_cell hbx2 4).trans rfl
 have p5 : w2.cell? ⟨lb, 5, none⟩ = some (.bool false) := (blk_cell hbx2 5).trans rfl
 have p6 : w2.cell? ⟨lb, 6, none⟩ = some (.int .i64 0) := (blk_cell hbx2 6).trans rfl
 have HX2 := Lib.hid hbx2
 clear hbx2
 go_wp2_with fail
 obtain ⟨hnd2, hns2⟩ := HS.out.2.1 w2 HI2.out.2.1
 refine (elementKey66 w2 HI2.out.1 HS.out.2.2.2.1 hnd2.src2 hns2.src2 (by simp)).mono ?_
 rintro e w3 ⟨rfl, hb3⟩
 have HB3 := Lib.hid hb3
 clear hb3 hnd2 hns2 p0 p1 p2 p3 p4 p5 p6
 go_wp2_with (at_builtin; refine list_app (base := w3.heap.size) (by exact Nat.le_refl _) 22 9 (.string ⟨#[]⟩) 16 [.string nmKey] 1 rfl rfl rfl Tryz.underlying22 info9 rfl (by omega) _ 0 [] (by rfl) (by rfl) (by simp [Value.oneCell']) (own_nil _ _ _ _) (by omega) ?_; intro v1 w4 hown1 hg1 hat1; have hv1 := S1.of_own hown1; have HO1 := Lib.hid hv1; have HG1 := Lib.hid (HB3.out.trans ((below_grown_none hg1).mono HB3.out.size)); obtain ⟨gv, cv, csv, rfl, _, _, _⟩ := hv1; clear hown1 hg1 hat1; have hbx4 : w4.heap[lb]? = some (.cells #[.iface T x, .pointer none, .slice (some ⟨sb, 0, none⟩) 2 c, path, .bool infer, .bool false, .int .i64 0] 66 (0, 0)) := (HG1.out.block _ (lt_of_block HX2.out)).trans HX2.out; have p0 : w4.cell? ⟨lb, 0, none⟩ = some (.iface T x) := (blk_cell hbx4 0).trans rfl; have p1 : w4.cell? ⟨lb, 1, none⟩ = some (.pointer none) := (blk_cell hbx4 1).trans rfl; have p2 : w4.cell? ⟨lb, 2, none⟩ = some (.slice (some ⟨sb, 0, none⟩) 2 c) := (blk_cell hbx4 2).trans rfl; have p3 : w4.cell? ⟨lb, 3, none⟩ = some path := (blk_cell hbx4 3).trans rfl; have p4 : w4.cell? ⟨lb, 4, none⟩ = some (.bool infer) := (blk_cell hbx4 4).trans rfl; have p5 : w4.cell? ⟨lb, 5, none⟩ = some (.bool false) := (blk_cell hbx4 5).trans rfl; have p6 : w4.cell? ⟨lb, 6, none⟩ = some (.int .i64 0) := (blk_cell hbx4 6).trans rfl; have HX4 := Lib.hid hbx4; clear hbx4)
 obtain ⟨hnd2, hns2⟩ := HS.out.2.1 w2 HI2.out.2.1
 refine (elemValues67 w4 (HI2.out.1.under HG1.out) HS.out.2.2.2.1 (hnd2.under HG1.out).nl (hns2.under HG1.out).nl HO1.out).mono ?_
 rintro e w5 ⟨vl, rfl, hvs, hb5⟩
 have HB5 := Lib.hid hb5
 obtain ⟨ss, hss⟩ : ∃ ss, ss = addN (addN [] nd) ns := ⟨_, rfl⟩
 have hpos : 0 < ss.length := by
  rw [hss]
  exact Nat.lt_of_lt_of_le (addN_pos HS.out.2.2.2.2.2) addN_acc
 rw [← hss] at hvs
 have hsl := hvs.sl hpos
 have HSL := Lib.hid (And.intro hsl (And.intro hpos (And.intro hss ((HG1.out.trans (hb5.mono HG1.out.size))))))
 obtain ⟨N, hN⟩ : ∃ N, N = ss.length := ⟨_, rfl⟩
 obtain ⟨eb, ec, _, rfl, hec, _, _⟩ := hsl
 rw [← hN] at hpos hec ⊢
 have HN := Lib.hid hN
 have hn0 : ¬ ((N : Int) = 0) := by omega
 have hn1 : (0 : Int) < (N : Int) := by omega
 have hn2 : (N : Int) ≤ 1000000 := by
  have h1 := addN_len (acc := addN [] nd) (l := ns)
  have h2 := addN_len (acc := []) (l := nd)
  have h3 := hnd2.nl.len
  have h4 := hns2.nl.len
  rw [← hss, ← hN] at h1
  simp only [List.length_nil] at h2
  omega
 clear hnd2 hns2 p0 p1 p2 p3 p4 p5 p6 hvs hb5 hss hN
 go_wp2_with fail
 have hk5 : Keep (fun k => k = sb) w w5 := HI2.out.2.1.then HSL.out.2.2.2
 obtain ⟨T5, Inv, h68, hfin⟩ := HS.out.2.2.1 w5 hk5 (HI2.out.1.under HSL.out.2.2.2) ((HSL.out.2.2.2.block _ (lt_of_block HX2.out)).trans HX2.out)
 rw [← HSL.out.2.2.1] at h68 hfin
 have hkv := HO1.out.under (show Below w4.heap.size w4 w5 from HB5.out)
 have hsl5 := HSL.out.1
 rw [← HN.out] at hsl5
 refine (set68 w5 HS.out.2.2.2.1 Inv h68 hkv hsl5 HSL.out.2.1).mono ?_
 rintro e w6 hq
 obtain ⟨rfl, _⟩ := id hq
 have HQ := Lib.hid (hfin _ _ hq)
 clear hq h68 hfin hkv hsl5
 go_wp2_with fail
 refine bodyPost_ret (v := .tuple #[.pointer (some ⟨rd, 0, none⟩), .nilIface]) (by simp [results, Tryz.results49, go_sem]) rfl ⟨_, rfl, HQ.out⟩
set_option maxRecDepth 20000 in
theorem walk38_plain {V path mo : Value} {infer : Bool} {sb c : Nat} (J : Option Addr → World → Prop) (w : World)
  (hk : ∀ w', Below w.heap.size w w' → Calls Tryz.prog 45 #[wkV V path mo sb c infer] w' fun e w'' => e = .returned (.int .u32 2) ∧ Below w'.heap.size w' w'')
  (ha : ∀ w', Below w.heap.size w w' → Calls Tryz.prog 46 #[.int .u32 2, .slice (some ⟨sb, 0, none⟩) 2 c] w' fun e w'' => e = .returned .nilIface ∧ w' = w'')
  (hc48 : ∀ w', Below w.heap.size w w' → Calls Tryz.prog 48 #[.pointer none, .slice (some ⟨sb, 0, none⟩) 2 c, .bool infer] w' fun e w'' => e = .returned (.bool false) ∧ Below w'.heap.size w' w'')
  (hw : ∀ w', Below w.heap.size w w' → Calls Tryz.prog 50 #[wkV V path mo sb c infer] w' fun e w'' => ∃ q, e = .returned (.tuple #[.pointer q, .nilIface]) ∧ J q w'') :
  Calls Tryz.prog 38 #[wkV V path mo sb c infer] w fun e w' => ∃ q, e = .returned (.tuple #[.pointer q, .nilIface]) ∧ J q w' := by
 have HK := Lib.hid hk
 have HW := Lib.hid hw
 have HA := Lib.hid (And.intro ha hc48)
 clear ha hc48
 have hb0 := below_alloc (Below.refl w.heap.size w) (.cells #[V, .pointer none, .slice (some ⟨sb, 0, none⟩) 2 c, path, .bool infer, .bool false, mo] 66)
 have HX := Lib.hid (blk_new rfl (w := w) (.cells #[V, .pointer none, .slice (some ⟨sb, 0, none⟩) 2 c, path, .bool infer, .bool false, mo] 66))
 have HB := Lib.hid hb0
 obtain ⟨wb, hwb⟩ : ∃ wb, wb = w.heap.size := ⟨_, rfl⟩
 clear hk hw hb0
 go_enter Tryz.func38, Tryz.ntmps38
 go_wp2_with fail
 refine Calls.mono (schema44 _) ?_
 rintro e w1 ⟨rfl, hb1⟩
 have hx1 := (hb1.block w.heap.size (by simp)).trans HX.out
 have HB1 := Lib.hid (HB.out.trans (hb1.mono HB.out.size))
 have HX1 := Lib.hid hx1
 rw [← hwb] at hx1
 rw [← hwb]
 have HWB := Lib.hid hwb
 clear hb1 HX HB hwb
 have z1 := blk_frozen hx1 1
 have p1 : w1.cell? ⟨wb, 1, none⟩ = some (.pointer none) := (blk_cell hx1 1).trans rfl
 have hx2 := blk_set hx1 1 (.pointer none)
 simp only [List.setIfInBounds_toArray, List.set_cons_zero, List.set_cons_succ] at hx2
 have HB2 := Lib.hid (HB1.out.setCell (p := ⟨wb, 1, none⟩) (by show w.heap.size ≤ wb; rw [HWB.out]; exact Nat.le_refl _) (.pointer none))
 obtain ⟨w2, hw2⟩ : ∃ w2, w2 = w1.setCell ⟨wb, 1, none⟩ (.pointer none) := ⟨_, rfl⟩
 rw [← hw2] at hx2
 rw [← hw2] at HB2
 have p0 : w2.cell? ⟨wb, 0, none⟩ = some V := (blk_cell hx2 0).trans rfl
 have q1 : w2.cell? ⟨wb, 1, none⟩ = some (.pointer none) := (blk_cell hx2 1).trans rfl
 have p2 : w2.cell? ⟨wb, 2, none⟩ = some (.slice (some ⟨sb, 0, none⟩) 2 c) := (blk_cell hx2 2).trans rfl
 have p3 : w2.cell? ⟨wb, 3, none⟩ = some path := (blk_cell hx2 3).trans rfl
 have p4 : w2.cell? ⟨wb, 4, none⟩ = some (.bool infer) := (blk_cell hx2 4).trans rfl
 have p5 : w2.cell? ⟨wb, 5, none⟩ = some (.bool false) := (blk_cell hx2 5).trans rfl
 have p6 : w2.cell? ⟨wb, 6, none⟩ = some mo := (blk_cell hx2 6).trans rfl
 have HX2 := Lib.hid hx2
 rw [hw2] at p0 q1 p2 p3 p4 p5 p6
 clear hx1 hx2
 go_wp2_with fail
 rw [← hw2]
 clear p0 q1 p2 p3 p4 p5 p6 z1 p1
 refine Calls.mono (HK.out w2 HB2.out) ?_
 rintro e w3 ⟨rfl, hb3⟩
 have hx3 := (hb3.block wb (lt_of_block HX2.out)).trans HX2.out
 have p0 : w3.cell? ⟨wb, 0, none⟩ = some V := (blk_cell hx3 0).trans rfl
 have q1 : w3.cell? ⟨wb, 1, none⟩ = some (.pointer none) := (blk_cell hx3 1).trans rfl
 have p2 : w3.cell? ⟨wb, 2, none⟩ = some (.slice (some ⟨sb, 0, none⟩) 2 c) := (blk_cell hx3 2).trans rfl
 have p3 : w3.cell? ⟨wb, 3, none⟩ = some path := (blk_cell hx3 3).trans rfl
 have p4 : w3.cell? ⟨wb, 4, none⟩ = some (.bool infer) := (blk_cell hx3 4).trans rfl
 have p5 : w3.cell? ⟨wb, 5, none⟩ = some (.bool false) := (blk_cell hx3 5).trans rfl
 have p6 : w3.cell? ⟨wb, 6, none⟩ = some mo := (blk_cell hx3 6).trans rfl
 have HB3 := Lib.hid (HB2.out.trans (hb3.mono HB2.out.size))
 have HX3 := Lib.hid hx3
 clear hx3 hb3 HX2 HB2 HB1 hw2
 go_wp2_with fail
 refine Calls.mono (HA.out.1 _ HB3.out) ?_
 rintro e w4 ⟨rfl, rfl⟩
 go_wp2_with fail
 refine Calls.mono (HA.out.2 _ HB3.out) ?_
 rintro e w5 ⟨rfl, hb5⟩
 have HB5 := Lib.hid (And.intro (HB3.out.trans (hb5.mono HB3.out.size)) ((hb5.block wb (lt_of_block HX3.out)).trans HX3.out))
 clear hb5 p0 q1 p2 p3 p4 p5 p6
 have p0 : w5.cell? ⟨wb, 0, none⟩ = some (V) := (blk_cell HB5.out.2 0).trans rfl
 have q1 : w5.cell? ⟨wb, 1, none⟩ = some (.pointer none) := (blk_cell HB5.out.2 1).trans rfl
 have p2 : w5.cell? ⟨wb, 2, none⟩ = some (.slice (some ⟨sb, 0, none⟩) 2 c) := (blk_cell HB5.out.2 2).trans rfl
 have p3 : w5.cell? ⟨wb, 3, none⟩ = some (path) := (blk_cell HB5.out.2 3).trans rfl
 have p4 : w5.cell? ⟨wb, 4, none⟩ = some (.bool infer) := (blk_cell HB5.out.2 4).trans rfl
 have p5 : w5.cell? ⟨wb, 5, none⟩ = some (.bool false) := (blk_cell HB5.out.2 5).trans rfl
 have p6 : w5.cell? ⟨wb, 6, none⟩ = some (mo) := (blk_cell HB5.out.2 6).trans rfl
 go_wp2_with fail
 refine Calls.mono (HW.out _ HB5.out.1) ?_
 rintro e w6 ⟨q, rfl, hJ⟩
 have HJ := Lib.hid hJ
 clear hJ HW HK p0 q1 p2 p3 p4 p5 p6 HB3
 go_wp2_with fail
 go_ret2
 exact ⟨q, rfl, HJ.out⟩
set_option maxRecDepth 20000 in
theorem walk38_named {V path mo : Value} {infer : Bool} {sb c : Nat} (J : Option Addr → World → Prop) (w : World)
  (hk : ∀ w', Below w.heap.size w w' → Calls Tryz.prog 45 #[wkV V path mo sb c infer] w' fun e w'' => e = .returned (.int .u32 2) ∧ Below w'.heap.size w' w'')
  (ha : ∀ w', Below w.heap.size w w' → Calls Tryz.prog 46 #[.int .u32 2, .slice (some ⟨sb, 0, none⟩) 2 c] w' fun e w'' => e = .returned .nilIface ∧ w' = w'')
  (hc48 : ∀ w', Below w.heap.size w w' → Calls Tryz.prog 48 #[.pointer none, .slice (some ⟨sb, 0, none⟩) 2 c, .bool infer] w' fun e w'' => e = .returned (.bool true) ∧ Below w'.heap.size w' w'')
  (hw : ∀ w' lb, Below w.heap.size w w' → w'.heap[lb]? = some (.cells #[V, .pointer none, .slice (some ⟨sb, 0, none⟩) 2 c, path, .bool infer, .bool false, mo] 66 (0, 0)) → Calls Tryz.prog 49 #[.pointer (some ⟨lb, 0, none⟩)] w' fun e w'' => ∃ q, e = .returned (.tuple #[.pointer q, .nilIface]) ∧ J q w'') :
  Calls Tryz.prog 38 #[wkV V path mo sb c infer] w fun e w' => ∃ q, e = .returned (.tuple #[.pointer q, .nilIface]) ∧ J q w' := by
 have HK := Lib.hid hk
 have HW := Lib.hid hw
 have HA := Lib.hid (And.intro ha hc48)
 clear ha hc48
 have hb0 := below_alloc (Below.refl w.heap.size w) (.cells #[V, .pointer none, .slice (some ⟨sb, 0, none⟩) 2 c, path, .bool infer, .bool false, mo] 66)
 have HX := Lib.hid (blk_new rfl (w := w) (.cells #[V, .pointer none, .slice (some ⟨sb, 0, none⟩) 2 c, path, .bool infer, .bool false, mo] 66))
 have HB := Lib.hid hb0
 obtain ⟨wb, hwb⟩ : ∃ wb, wb = w.heap.size := ⟨_, rfl⟩
 clear hk hw hb0
 go_enter Tryz.func38, Tryz.ntmps38
 go_wp2_with fail
 refine Calls.mono (schema44 _) ?_
 rintro e w1 ⟨rfl, hb1⟩
 have hx1 := (hb1.block w.heap.size (by simp)).trans HX.out
 have HB1 := Lib.hid (HB.out.trans (hb1.mono HB.out.size))
 have HX1 := Lib.hid hx1
 rw [← hwb] at hx1
 rw [← hwb]
 have HWB := Lib.hid hwb
 clear hb1 HX HB hwb
 have z1 := blk_frozen hx1 1
 have p1 : w1.cell? ⟨wb, 1, none⟩ = some (.pointer none) := (blk_cell hx1 1).trans rfl
 have hx2 := blk_set hx1 1 (.pointer none)
 simp only [List.setIfInBounds_toArray, List.set_cons_zero, List.set_cons_succ] at hx2
 have HB2 := Lib.hid (HB1.out.setCell (p := ⟨wb, 1, none⟩) (by show w.heap.size ≤ wb; rw [HWB.out]; exact Nat.le_refl _) (.pointer none))
 obtain ⟨w2, hw2⟩ : ∃ w2, w2 = w1.setCell ⟨wb, 1, none⟩ (.pointer none) := ⟨_, rfl⟩
 rw [← hw2] at hx2
 rw [← hw2] at HB2
 have p0 : w2.cell? ⟨wb, 0, none⟩ = some V := (blk_cell hx2 0).trans rfl
 have q1 : w2.cell? ⟨wb, 1, none⟩ = some (.pointer none) := (blk_cell hx2 1).trans rfl
 have p2 : w2.cell? ⟨wb, 2, none⟩ = some (.slice (some ⟨sb, 0, none⟩) 2 c) := (blk_cell hx2 2).trans rfl
 have p3 : w2.cell? ⟨wb, 3, none⟩ = some path := (blk_cell hx2 3).trans rfl
 have p4 : w2.cell? ⟨wb, 4, none⟩ = some (.bool infer) := (blk_cell hx2 4).trans rfl
 have p5 : w2.cell? ⟨wb, 5, none⟩ = some (.bool false) := (blk_cell hx2 5).trans rfl
 have p6 : w2.cell? ⟨wb, 6, none⟩ = some mo := (blk_cell hx2 6).trans rfl
 have HX2 := Lib.hid hx2
 rw [hw2] at p0 q1 p2 p3 p4 p5 p6
 clear hx1 hx2
 go_wp2_with fail
 rw [← hw2]
 clear p0 q1 p2 p3 p4 p5 p6 z1 p1
 refine Calls.mono (HK.out w2 HB2.out) ?_
 rintro e w3 ⟨rfl, hb3⟩
 have hx3 := (hb3.block wb (lt_of_block HX2.out)).trans HX2.out
 have p0 : w3.cell? ⟨wb, 0, none⟩ = some V := (blk_cell hx3 0).trans rfl
 have q1 : w3.cell? ⟨wb, 1, none⟩ = some (.pointer none) := (blk_cell hx3 1).trans rfl
 have p2 : w3.cell? ⟨wb, 2, none⟩ = some (.slice (some ⟨sb, 0, none⟩) 2 c) := (blk_cell hx3 2).trans rfl
 have p3 : w3.cell? ⟨wb, 3, none⟩ = some path := (blk_cell hx3 3).trans rfl
 have p4 : w3.cell? ⟨wb, 4, none⟩ = some (.bool infer) := (blk_cell hx3 4).trans rfl
 have p5 : w3.cell? ⟨wb, 5, none⟩ = some (.bool false) := (blk_cell hx3 5).trans rfl
 have p6 : w3.cell? ⟨wb, 6, none⟩ = some mo := (blk_cell hx3 6).trans rfl
 have HB3 := Lib.hid (HB2.out.trans (hb3.mono HB2.out.size))
 have HX3 := Lib.hid hx3
 clear hx3 hb3 HX2 HB2 HB1 hw2
 go_wp2_with fail
 refine Calls.mono (HA.out.1 _ HB3.out) ?_
 rintro e w4 ⟨rfl, rfl⟩
 go_wp2_with fail
 refine Calls.mono (HA.out.2 _ HB3.out) ?_
 rintro e w5 ⟨rfl, hb5⟩
 have HB5 := Lib.hid (And.intro (HB3.out.trans (hb5.mono HB3.out.size)) ((hb5.block wb (lt_of_block HX3.out)).trans HX3.out))
 clear hb5 p0 q1 p2 p3 p4 p5 p6
 go_wp2_with fail
 refine Calls.mono (HW.out _ _ HB5.out.1 HB5.out.2) ?_
 rintro e w6 ⟨q, rfl, hJ⟩
 have HJ := Lib.hid hJ
 clear hJ HW HK HB3
 go_wp2_with fail
 go_ret2
 exact ⟨q, rfl, HJ.out⟩
end Go.Proofs.YtghmajlfmoggfaaGreat
