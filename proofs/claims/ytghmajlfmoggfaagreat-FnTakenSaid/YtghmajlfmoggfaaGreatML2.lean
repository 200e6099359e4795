import Derived.Deep.Strs
import Derived.ChangeArms
import Derived.Test.YtghmajlfmoggfaaGreatMG7
import Derived.Test.YtghmajlfmoggfaaGreatME13
import Derived.Test.YtghmajlfmoggfaaGreatMS11
import Derived.Test.YtghmajlfmoggfaaGreatMS6
import Derived.Test.YtghmajlfmoggfaaGreatMS4
import Derived.Test.YtghmajlfmoggfaaGreatMH
import Derived.Test.YtghmajlfmoggfaaGreatMA
set_option linter.unusedSimpArgs false
set_option linter.unusedVariables false
namespace Go.Proofs.YtghmajlfmoggfaaGreat
open Go.RowKit Go.Proofs.YtghmajlfmoggfaaGreatW.PrintWords Go.Proofs.YtghmajlfmoggfaaGreatW.PrintLast PFnMerge
theorem cutN_item {nm : ByteArray} {y : S25} {z : S25} (h : z ∈ (cutN nm y).f4) : ∃ key, fld y key z ∧ key ≠ nm := by
  obtain ⟨key, hk⟩ := mem_fld (cutN_len nm y) h
  exact ⟨key, fld_cut.1 hk⟩
theorem cutN_short (nm : ByteArray) (y : S25) : (cutN nm y).f4.length ≤ y.f4.length := by
  unfold cutN
  simp only [List.length_map]
  refine Nat.le_trans (List.length_filter_le _ _) ?_
  rw [List.length_zip]
  exact Nat.min_le_right _ _
theorem TreeB.cutTree {d : Nat} {nm : ByteArray} {y : S25} (h : TreeB (d + 1) y) (h0 : y.f0 = 2) : TreeN (d + 1) (cutN nm y) := by
  have hl := h.len
  have ht := h.tree
  rcases h.1 with ⟨h1, _⟩ | ⟨h1, h2, h3, h4, h5, _⟩ | ⟨h1, _⟩
  · rw [h0] at h1; cases h1
  · refine .inr (.inl ⟨rfl, rfl, rfl, cutN_len _ _, by have := cutN_short nm y; omega, cutN_nodup h5, fun z hz => ?_⟩)
    obtain ⟨key, hk, _⟩ := cutN_item hz
    exact (h.item z (fld_mem hk)).tree
  · rw [h0] at h1; cases h1
theorem TreeX.cutTree {d : Nat} {nm : ByteArray} {x : S25} (h : TreeX d nm x) : TreeN (d + 1) (cutN nm x) := by
  refine .inr (.inl ⟨rfl, rfl, rfl, cutN_len _ _, by have := cutN_short nm x; have := h.short; omega, cutN_nodup h.nodup, fun z hz => ?_⟩)
  obtain ⟨key, hk, hn⟩ := cutN_item hz
  exact (h.items key z hk hn).tree
theorem TreeX.good {d : Nat} {nm : ByteArray} {x : S25} (h : TreeX d nm x) : GoodX d nm x := by
  refine ⟨h.f0, fun e => ?_, by have := h.short; have := h.len; omega, h.nodup, fun k hk => (h.word k hk).good, fun key z hz hn => (h.items key z hz hn).good, fun z hz => ?_, h.has⟩
  · have := h.has
    rw [e] at this
    cases this
  · rw [h.null z hz]
    exact ⟨rfl, rfl⟩
theorem alike_cut {d : Nat} {nm : ByteArray} {x y : S25} (hal : ∀ key a b, key ≠ nm → fld y key a → fld x key b → AlikeN d a b) : AlikeN (d + 1) (cutN nm y) (cutN nm x) :=
  ⟨rfl, fun _ key a b ha hb => hal key a b (fld_cut.1 ha).2 (fld_cut.1 ha).1 (fld_cut.1 hb).1⟩
set_option maxRecDepth 20000 in
set_option maxHeartbeats 4000000 in
theorem zz_take (d : Nat) (hd : d + 1 ≤ 100) (nm : ByteArray) (y x : S25) (hgy : Good (d + 1) y) (hy0 : y.f0 = 2) (hgx : GoodX d nm x) (hal : ∀ key a b, key ≠ nm → fld y key a → fld x key b → AlikeN d a b) : ZzC false y x fun ym => MRel (d + 1) (cutN nm y) (cutN nm x) ym := by
  intro w rd rs bd bs Fd Fs hrd hrs htd hts hdis hnd hns way
  have H := Lib.hid (And.intro hgy (And.intro hgx (And.intro hal (And.intro hrd (And.intro hrs (And.intro htd (And.intro hts (And.intro hdis (And.intro hnd hns)))))))))
  have HY0 := Lib.hid hy0
  clear hgy hgx hal hrd hrs htd hts hdis hnd hns hy0
  go_enter Tryz.func29, Tryz.ntmps29
  go_wp2_with fail
  have hb : Below w.heap.size w ((w.alloc (.cells #[.int .i64 way] 54)).alloc (.cells #[.pointer (some ⟨rd, 0, none⟩), .pointer (some ⟨rs, 0, none⟩)] 47)) := below_alloc (below_alloc (Below.refl _ _) _) _
  have hs : SrcAt ((w.alloc (.cells #[.int .i64 way] 54)).alloc (.cells #[.pointer (some ⟨rd, 0, none⟩), .pointer (some ⟨rs, 0, none⟩)] 47)) (w.heap.size + 1) (some ⟨rd, 0, none⟩) (some ⟨rs, 0, none⟩) := ⟨_, blk_new (by simp) _, rfl, rfl⟩
  obtain ⟨W, hW⟩ : ∃ W, W = (w.alloc (.cells #[.int .i64 way] 54)).alloc (.cells #[.pointer (some ⟨rd, 0, none⟩), .pointer (some ⟨rs, 0, none⟩)] 47) := ⟨_, rfl⟩
  rw [← hW] at hb hs
  rw [← hW]
  clear hW
  have HB := Lib.hid (And.intro hb hs)
  clear hb hs
  refine (walk_take d nm y x H.out.1 HY0.out H.out.2.1 H.out.2.2.1 W bd bs Fd Fs (H.out.2.2.2.1.under HB.out.1) (H.out.2.2.2.2.1.under HB.out.1) (fun k hk => (H.out.2.2.2.2.2.1 k hk).under HB.out.1) (fun k hk => (H.out.2.2.2.2.2.2.1 k hk).under HB.out.1) H.out.2.2.2.2.2.2.2.1 rd rs (H.out.2.2.2.2.2.2.2.2.1.under HB.out.1) (H.out.2.2.2.2.2.2.2.2.2.under HB.out.1) (.iface 60 (.agg #[])) (.slice none 0 0) (.int .i64 way) (w.heap.size + 1) 2 0 0 HB.out.2 VisQ.top (by omega) (PathOk.nil _) (by omega)).mono ?_
  rintro e w' ⟨q, rfl, r, ym, rfl, h1, h2, h3, _, h4⟩
  have HR := Lib.hid (And.intro h1 (And.intro h2 (And.intro h3 h4)))
  clear h1 h2 h3 h4
  go_wp2_with fail
  refine bodyPost_ret (v := .tuple #[.pointer (some ⟨r, 0, none⟩), .nilIface]) (by simp [results, Tryz.results29, go_sem]) rfl ⟨r, _, ym, _, rfl, HR.out.1, HR.out.2.1, HR.out.2.2.1, ?_⟩
  refine (Keep.of_below HB.out.1 Fd).trans HR.out.2.2.2 fun k hlt hT => ?_
  rcases hT with hT | hT | hT
  · exact hT
  · omega
  · simp [Value.ownBlock] at hT
set_option maxRecDepth 20000 in
theorem merge2_take {nm : ByteArray} (w : World) (x y : S25) (hx : TreeX 5 nm x) (hy : TreeB 6 y) (hy0 : y.f0 = 2) (hal : ∀ key a b, key ≠ nm → fld y key a → fld x key b → AlikeN 5 a b) (A3 A4 B3 B4 : Option Addr) (c3 c4 d3 d4 : Nat) (hxr : NdR w x A3 c3 A4 c4) (hyr : NdR w y B3 d3 B4 d4) (ahead : Bool) :
    Calls Tryz.prog 13 #[ndV x A3 c3 A4 c4, ndV y B3 d3 B4 d4, .bool false, .bool ahead] w fun e w' => M2R (fun ym => MRel 6 (cutN nm y) (cutN nm x) ym) w e w' :=
  merge2_13q (D := 6) w x y hx.tak hy.tak (zz_take 5 (by omega) nm y x hy.good hy0 hx.good hal) (fun m hm => mrel_size (hy.cutTree hy0) hx.cutTree (alike_cut hal) hm) A3 A4 B3 B4 c3 c4 d3 d4 hxr hyr ahead
end Go.Proofs.YtghmajlfmoggfaaGreat
namespace Go.Proofs.YtghmajlfmoggfaaGreat
open Go.RowKit Go.Proofs.YtghmajlfmoggfaaGreatW.PrintWords Go.Proofs.YtghmajlfmoggfaaGreatW.PrintLast PFnMerge
theorem sum_set_le (f : S25 → Nat) (a : S25) : ∀ (l : List S25) (i : Nat), ((l.set i a).map f).sum ≤ (l.map f).sum + f a := by
  intro l
  induction l with
  | nil => intro i; simp
  | cons b r ih =>
    intro i
    cases i with
    | zero => simp only [List.set_cons_zero, List.map_cons, List.sum_cons]; omega
    | succ i => simp only [List.set_cons_succ, List.map_cons, List.sum_cons]; have := ih i; omega
theorem null_nodes (d : Nat) : nodesN (d + 1) nullN = 1 := by simp [nodesN]
theorem withX {d : Nat} {x m : S25} {name : ByteArray} (hx : TreeB (d + 2) x) (h0 : x.f0 = 2) (hw : WordP name) (hm : WithP x name nullN m) : TreeX (d + 1) name m ∧ (∀ key z, key ≠ name → fld m key z → fld x key z) := by
  have hl := hx.len
  have hn := hx.2
  rw [nodesN] at hn
  have hit := hx.item
  have hnn := null_nodes d
  rcases hx.1 with ⟨h1, _⟩ | ⟨_, h2, h3, h4, h5, h6, h7, h8⟩ | ⟨h1, _⟩
  · rw [h0] at h1; cases h1
  · obtain ⟨m0, m1, m2, ⟨i, hi, hik, m3, m4⟩ | ⟨hno, m3, m4⟩⟩ := hm
    · have hf : ∀ key z, key ≠ name → fld m key z → fld x key z := fun key z hne hf => by
        obtain ⟨j, e1, e2⟩ := fld_at' hf
        rw [m3] at e1
        rw [m4] at e2
        by_cases hji : j = i
        · subst hji
          rw [hik] at e1
          injection e1 with e1
          exact absurd e1.symm hne
        · rw [List.getElem?_set_ne (fun e => hji e.symm)] at e2
          exact fld_mk e1 e2
      refine ⟨⟨m0, m1, m2, by rw [m3, m4, List.length_set]; exact h4, by rw [m3]; exact h5, by rw [m3]; exact h6, fun key z hz hne => hit z (fld_mem (hf key z hne hz)), fun z hz => ?_, by rw [m3]; exact List.mem_of_getElem? hik, by rw [m4, List.length_set]; omega, nodesN (d + 1), ?_, hnn, fun _ _ _ _ => rfl⟩, hf⟩
      · obtain ⟨j, e1, e2⟩ := fld_at' hz
        rw [m3] at e1
        rw [m4] at e2
        have hji : j = i := (List.getElem?_inj (idx_lt e1) h5).1 (e1.trans hik.symm)
        subst hji
        rw [List.getElem?_set_self hi] at e2
        injection e2 with e2
        exact e2.symm
      · rw [m4]
        have := sum_set_le (nodesN (d + 1)) nullN x.f4 i
        omega
    · have hf : ∀ key z, key ≠ name → fld m key z → fld x key z := fun key z hne hf => by
        obtain ⟨j, e1, e2⟩ := fld_at' hf
        rw [m3] at e1
        rw [m4] at e2
        by_cases hj : j < x.f3.length
        · rw [List.getElem?_append_left hj] at e1
          rw [List.getElem?_append_left (by omega)] at e2
          exact fld_mk e1 e2
        · rw [List.getElem?_append_right (by omega)] at e1
          have := idx_lt e1
          simp only [List.length_singleton] at this
          have hz : j - x.f3.length = 0 := by omega
          rw [hz] at e1
          injection e1 with e1
          exact absurd e1.symm hne
      refine ⟨⟨m0, m1, m2, by rw [m3, m4, List.length_append, List.length_append]; simp [h4], ?_, ?_, fun key z hz hne => hit z (fld_mem (hf key z hne hz)), fun z hz => ?_, by rw [m3]; simp, by rw [m4, List.length_append]; simp only [List.length_singleton]; omega, nodesN (d + 1), ?_, hnn, fun _ _ _ _ => rfl⟩, hf⟩
      · rw [m3, List.nodup_append]
        refine ⟨h5, by simp, fun a ha b hb e => ?_⟩
        simp only [List.mem_singleton] at hb
        subst hb
        subst e
        exact hno ha
      · rw [m3]
        intro k hk
        rcases List.mem_append.1 hk with hk | hk
        · exact h6 k hk
        · rw [List.mem_singleton.1 hk]; exact hw
      · obtain ⟨j, e1, e2⟩ := fld_at' hz
        rw [m3] at e1
        rw [m4] at e2
        by_cases hj : j < x.f3.length
        · rw [List.getElem?_append_left hj] at e1
          exact absurd (List.mem_of_getElem? e1) hno
        · rw [List.getElem?_append_right (by omega)] at e1 e2
          have := idx_lt e1
          simp only [List.length_singleton] at this
          have hz : j - x.f4.length = 0 := by omega
          rw [hz] at e2
          injection e2 with e2
          exact e2.symm
      · rw [m4, List.map_append, List.sum_append]
        simp only [List.map_cons, List.map_nil, List.sum_cons, List.sum_nil]
        omega
  · rw [h0] at h1; cases h1
theorem nullBnd : Bnd nullN := .mk _ (by show (4 : Nat) ≤ _; omega) (by show (6 : Nat) ≤ _; omega) (by simp) (by simp)
theorem Bnd.withP {x m v : S25} {name : ByteArray} (hb : Bnd x) (hv : Bnd v) (hw : name.size ≤ 9223372036854775807) (hm : WithP x name v m) : Bnd m := by
  obtain ⟨m0, m1, m2, ⟨i, hi, hik, m3, m4⟩ | ⟨hno, m3, m4⟩⟩ := hm
  · refine .mk _ (by rw [m1]; show (0 : Nat) ≤ _; omega) (by rw [m2]; show (0 : Nat) ≤ _; omega) (by rw [m3]; exact hb.key) fun z hz => ?_
    rw [m4] at hz
    rcases List.mem_or_eq_of_mem_set hz with hz | rfl
    · exact hb.item z hz
    · exact hv
  · refine .mk _ (by rw [m1]; show (0 : Nat) ≤ _; omega) (by rw [m2]; show (0 : Nat) ≤ _; omega) (fun k hk => ?_) fun z hz => ?_
    · rw [m3] at hk
      rcases List.mem_append.1 hk with hk | hk
      · exact hb.key k hk
      · rw [List.mem_singleton.1 hk]; exact hw
    · rw [m4] at hz
      rcases List.mem_append.1 hz with hz | hz
      · exact hb.item z hz
      · rw [List.mem_singleton.1 hz]; exact hv
def NullQv (w : World) (e : Ending) (w' : World) : Prop := e = .returned (ndV nullN none 0 none 0) ∧ Below w.heap.size w w'
set_option maxRecDepth 20000 in
set_option maxHeartbeats 4000000 in
theorem null18 (w : World) : Calls Tryz.prog 18 #[] w fun e w' => NullQv w e w' := by
  go_enter Tryz.func18, Tryz.ntmps18
  go_wp2_with fail
  refine bodyPost_ret (v := ndV nullN none 0 none 0) (by simp [results, Tryz.results18, go_sem]) rfl ⟨rfl, ?_⟩
  repeat (first | exact Below.refl _ _ | apply below_alloc | apply pw_below_drewN | apply below_drew)
end Go.Proofs.YtghmajlfmoggfaaGreat
namespace Go.Proofs.YtghmajlfmoggfaaGreat
open Go.RowKit Go.Proofs.YtghmajlfmoggfaaGreatW.PrintWords Go.Proofs.YtghmajlfmoggfaaGreatW.PrintLast PFnMerge
theorem fits_at (l : List ByteArray) (hl : l.length ≤ 2147483647) : ∀ (m j : Nat), j + m = l.length → ∃ k r, laws_zzFits2.l0 k l (l.length : Int) (j : Int) = some r := by
  intro m
  induction m with
  | zero =>
    intro j hj
    exact ⟨1, true, by rw [laws_zzFits2.l0, if_neg (by omega)]⟩
  | succ m ih =>
    intro j hj
    obtain ⟨k, r, hk⟩ := ih (j + 1) (by omega)
    have hw : wrap64 ((j : Int) + 1) = ((j + 1 : Nat) : Int) := by unfold wrap64; omega
    by_cases h : ((rdOf ByteArray.empty l (j : Int)).size : Int) > 2147483647
    · exact ⟨1, false, by rw [laws_zzFits2.l0, if_pos (by omega), if_pos (by omega), if_pos (by omega), if_pos h]⟩
    · exact ⟨k + 1, r, by rw [laws_zzFits2.l0, if_pos (by omega), if_pos (by omega), if_pos (by omega), if_neg h, hw]; exact hk⟩
theorem fits2_some (l : List ByteArray) : ∃ k r, laws_zzFits2.f k l = some r := by
  by_cases h : (l.length : Int) > 2147483647
  · exact ⟨1, false, by rw [laws_zzFits2.f, if_pos h]⟩
  · obtain ⟨k, r, hk⟩ := fits_at l (by omega) l.length 0 (by omega)
    exact ⟨k, r, by rw [laws_zzFits2.f, if_neg h]; exact hk⟩
theorem fits1_some (x : S25) : ∃ k r, laws_zzFits1.f k x.f0 x.f1 x.f2 x.f3 x.f4 = some r := by
  by_cases h1 : (x.f1.size : Int) > 2147483647
  · exact ⟨1, false, by rw [laws_zzFits1.f, if_pos h1]⟩
  by_cases h2 : (x.f2.size : Int) > 2147483647
  · exact ⟨1, false, by rw [laws_zzFits1.f, if_neg h1, if_pos h2]⟩
  obtain ⟨k, r, hk⟩ := fits2_some x.f3
  cases r with
  | false => exact ⟨k, false, by rw [laws_zzFits1.f, if_neg h1, if_neg h2, hk]; rfl⟩
  | true =>
    by_cases h4 : (x.f4.length : Int) > 2147483647
    · exact ⟨k, false, by rw [laws_zzFits1.f, if_neg h1, if_neg h2, hk]; simp only [Option.bind_some, if_true]; rw [if_pos h4]⟩
    · exact ⟨k, true, by rw [laws_zzFits1.f, if_neg h1, if_neg h2, hk]; simp only [Option.bind_some, if_true]; rw [if_neg h4]⟩
theorem fits7 (w : World) (x : S25) (A3 A4 : Option Addr) (c3 c4 : Nat) (h : NdR w x A3 c3 A4 c4) : ∃ r, Calls Tryz.prog 7 #[ndV x A3 c3 A4 c4] w fun e w' => e = .returned (.bool r) ∧ Below w.heap.size w w' := by
  obtain ⟨k, r, hk⟩ := fits1_some x
  exact ⟨r, laws_zzFits1.calls k x.f0 x.f1 x.f2 A3 c3 x.f3 A4 c4 x.f4 r w h.keys h.kcap h.items h.icap hk⟩
structure LB (w : World) (cx cy : Array Value) (W : World) : Prop where
  below : Below w.heap.size w W
  bx : W.heap[w.heap.size]? = some (.cells cx 25 (0, 0))
  by_ : W.heap[w.heap.size + 1]? = some (.cells cy 25 (0, 0))
theorem LB.under {w : World} {cx cy : Array Value} {W W' : World} (h : LB w cx cy W) (hb : Below W.heap.size W W') : LB w cx cy W' :=
  ⟨h.below.trans (hb.mono h.below.size), (hb.block _ (lt_of_block h.bx)).trans h.bx, (hb.block _ (lt_of_block h.by_)).trans h.by_⟩
theorem reads_two {x y : S25} {A3 A4 B3 B4 : Option Addr} {c3 c4 d3 d4 lb : Nat} {W : World} (h : W.heap[lb]? = some (.cells #[.int .i64 x.f0, .string x.f1, .string x.f2, .slice A3 x.f3.length c3, .slice A4 x.f4.length c4, .int .i64 y.f0, .string y.f1, .string y.f2, .slice B3 y.f3.length d3, .slice B4 y.f4.length d4] 25 (0, 0))) (hx : NdR W x A3 c3 A4 c4) (hy : NdR W y B3 d3 B4 d4) : Kd.C k25 W (some ⟨lb, 0, none⟩) 2 [x, y] := by
  refine ⟨rfl, by omega, fun _ => ⟨⟨lb, 0, none⟩, rfl, fun j p hj => ?_⟩⟩
  match j, hj with
  | 0, hj =>
    simp only [List.getElem?_cons_zero, Option.some.injEq] at hj
    subst hj
    refine ⟨_, rfl, k25_mk W x hx.kcap hx.keys hx.icap hx.items, fun i u hu => ?_⟩
    rw [add_at, Nat.zero_add]
    simp only [Nat.zero_mul, Nat.zero_add]
    rw [blk_cell h i]
    match i, hu with
    | 0, hu => exact hu
    | 1, hu => exact hu
    | 2, hu => exact hu
    | 3, hu => exact hu
    | 4, hu => exact hu
  | 1, hj =>
    simp only [List.getElem?_cons_succ, List.getElem?_cons_zero, Option.some.injEq] at hj
    subst hj
    refine ⟨_, rfl, k25_mk W y hy.kcap hy.keys hy.icap hy.items, fun i u hu => ?_⟩
    rw [add_at, Nat.zero_add]
    have es : k25.sz = 5 := rfl
    rw [es, blk_cell h (1 * 5 + i)]
    match i, hu with
    | 0, hu => exact hu
    | 1, hu => exact hu
    | 2, hu => exact hu
    | 3, hu => exact hu
    | 4, hu => exact hu
end Go.Proofs.YtghmajlfmoggfaaGreat
namespace Go.Proofs.YtghmajlfmoggfaaGreat
open Go.RowKit Go.Proofs.YtghmajlfmoggfaaGreatW.PrintWords Go.Proofs.YtghmajlfmoggfaaGreatW.PrintLast PFnMerge
structure TS (w W7 : World) (cx cy : Array Value) (W : World) : Prop where
  lb : LB w cx cy W
  b7 : Below W7.heap.size W7 W
  lim : w.heap.size + 1 < W7.heap.size
def AB (W7 : World) (g : Nat) (W : World) : Prop := W.heap[g]? = some (.cells #[.int .i64 0, .string noStr, .string noStr, nilS, nilS] 25 (0, 0)) ∧ W7.heap.size ≤ g
section
variable {w W7 W W' : World} {cx cy : Array Value} {g : Nat}
theorem TS.under (h : TS w W7 cx cy W) (hb : Below W.heap.size W W') : TS w W7 cx cy W' := ⟨h.lb.under hb, h.b7.trans (hb.mono h.b7.size), h.lim⟩
theorem AB.under (h : AB W7 g W) (hb : Below W.heap.size W W') : AB W7 g W' := ⟨(hb.block _ (lt_of_block h.1)).trans h.1, h.2⟩
theorem AB.ne (h : AB W7 g W) {k : Nat} (hk : k < W7.heap.size ∨ W.heap.size ≤ k) : k ≠ g := by
  have h1 := lt_of_block h.1
  have h2 := h.2
  rcases hk with hk | hk <;> omega
theorem TS.addg (h : TS w W7 cx cy W) : ∃ g, g = W.heap.size ∧ TS w W7 cx cy (W.alloc (.cells #[.int .i64 0, .string noStr, .string noStr, nilS, nilS] 25)) ∧ AB W7 g (W.alloc (.cells #[.int .i64 0, .string noStr, .string noStr, nilS, nilS] 25)) ∧ Below W.heap.size W (W.alloc (.cells #[.int .i64 0, .string noStr, .string noStr, nilS, nilS] 25)) :=
  ⟨_, rfl, h.under (below_alloc (Below.refl _ _) _), ⟨blk_new rfl _, h.b7.size⟩, below_alloc (Below.refl _ _) _⟩
theorem TS.put (h : TS w W7 cx cy W) (ha : AB W7 g W) (v0 v1 v2 v3 v4 : Value) : LB w cx cy (put5 W g v0 v1 v2 v3 v4) ∧ (put5 W g v0 v1 v2 v3 v4).heap[g]? = some (.cells #[v0, v1, v2, v3, v4] 25 (0, 0)) := by
  have hk := keep_put5 W g v0 v1 v2 v3 v4
  have h1 := ha.2
  have h2 := h.lim
  exact ⟨⟨h.lb.below.trans (hk.below h.lb.below.size fun k _ e => by omega), hk.at_ h.lb.bx (by omega), hk.at_ h.lb.by_ (by omega)⟩, put5_blk ha.1 _ _ _ _ _⟩
end
theorem nullG (w : World) : NdG w (fun _ => False) nullN none 0 none 0 := ⟨Kd.F_nil _ _ _, Nat.le_refl _, Kd.F_nil _ _ _, Nat.le_refl _⟩
set_option maxRecDepth 20000 in
set_option maxHeartbeats 8000000 in
theorem fnTaken6 (w : World) (x y : S25) (name : ByteArray) (hnm : name.size ≤ 9223372036854775807) (hbx : Bnd x) (hby : Bnd y) (A3 A4 B3 B4 : Option Addr) (c3 c4 d3 d4 : Nat) (hx : NdR w x A3 c3 A4 c4) (hy : NdR w y B3 d3 B4 d4) : Calls Tryz.prog 6 #[ndV x A3 c3 A4 c4, ndV y B3 d3 B4 d4, .string name] w fun e w' => YesQ w e w' := by
  have HL0 := Lib.hid (show LB w #[.int .i64 x.f0, .string x.f1, .string x.f2, .slice A3 x.f3.length c3, .slice A4 x.f4.length c4] #[.int .i64 y.f0, .string y.f1, .string y.f2, .slice B3 y.f3.length d3, .slice B4 y.f4.length d4] ((w.alloc (.cells #[.int .i64 x.f0, .string x.f1, .string x.f2, .slice A3 x.f3.length c3, .slice A4 x.f4.length c4] 25)).alloc (.cells #[.int .i64 y.f0, .string y.f1, .string y.f2, .slice B3 y.f3.length d3, .slice B4 y.f4.length d4] 25)) from ⟨below_alloc (below_alloc (Below.refl _ _) _) _, blk_old _ (blk_new rfl _), blk_new (by simp) _⟩)
  have H := Lib.hid (And.intro hbx (And.intro hby (And.intro hx hy)))
  have HN := Lib.hid hnm
  clear hbx hby hx hy hnm
  go_enter Tryz.func6, Tryz.ntmps6
  go_wp2_with fail
  obtain ⟨r1, hc1⟩ := fits7 _ x A3 A4 c3 c4 (H.out.2.2.1.below HL0.out.below)
  refine hc1.mono ?_
  clear hc1
  rintro e w1 ⟨rfl, hb⟩
  have HL1 := Lib.hid (HL0.out.under hb)
  clear hb
  have x0 : w1.cell? ⟨w.heap.size, 0, none⟩ = some (.int .i64 x.f0) := (blk_cell HL1.out.bx 0).trans rfl
  have x1 : w1.cell? ⟨w.heap.size, 1, none⟩ = some (.string x.f1) := (blk_cell HL1.out.bx 1).trans rfl
  have x2 : w1.cell? ⟨w.heap.size, 2, none⟩ = some (.string x.f2) := (blk_cell HL1.out.bx 2).trans rfl
  have x3 : w1.cell? ⟨w.heap.size, 3, none⟩ = some (.slice A3 x.f3.length c3) := (blk_cell HL1.out.bx 3).trans rfl
  have x4 : w1.cell? ⟨w.heap.size, 4, none⟩ = some (.slice A4 x.f4.length c4) := (blk_cell HL1.out.bx 4).trans rfl
  have y0 : w1.cell? ⟨w.heap.size + 1, 0, none⟩ = some (.int .i64 y.f0) := (blk_cell HL1.out.by_ 0).trans rfl
  have y1 : w1.cell? ⟨w.heap.size + 1, 1, none⟩ = some (.string y.f1) := (blk_cell HL1.out.by_ 1).trans rfl
  have y2 : w1.cell? ⟨w.heap.size + 1, 2, none⟩ = some (.string y.f2) := (blk_cell HL1.out.by_ 2).trans rfl
  have y3 : w1.cell? ⟨w.heap.size + 1, 3, none⟩ = some (.slice B3 y.f3.length d3) := (blk_cell HL1.out.by_ 3).trans rfl
  have y4 : w1.cell? ⟨w.heap.size + 1, 4, none⟩ = some (.slice B4 y.f4.length d4) := (blk_cell HL1.out.by_ 4).trans rfl
  cases r1 with
  | false =>
    go_wp2_with fail
    exact bodyPost_ret (v := .bool true) (by simp [results, Tryz.results6, go_sem]) rfl ⟨rfl, HL1.out.below⟩
  | true =>
    go_wp2_with fail
    clear x0 x1 x2 x3 x4 y0 y1 y2 y3 y4
    obtain ⟨r2, hc2⟩ := fits7 w1 y B3 B4 d3 d4 (H.out.2.2.2.below HL1.out.below)
    refine hc2.mono ?_
    clear hc2
    rintro e w2 ⟨rfl, hb⟩
    have HL2 := Lib.hid (HL1.out.under hb)
    clear hb
    have x0 : w2.cell? ⟨w.heap.size, 0, none⟩ = some (.int .i64 x.f0) := (blk_cell HL2.out.bx 0).trans rfl
    have x1 : w2.cell? ⟨w.heap.size, 1, none⟩ = some (.string x.f1) := (blk_cell HL2.out.bx 1).trans rfl
    have x2 : w2.cell? ⟨w.heap.size, 2, none⟩ = some (.string x.f2) := (blk_cell HL2.out.bx 2).trans rfl
    have x3 : w2.cell? ⟨w.heap.size, 3, none⟩ = some (.slice A3 x.f3.length c3) := (blk_cell HL2.out.bx 3).trans rfl
    have x4 : w2.cell? ⟨w.heap.size, 4, none⟩ = some (.slice A4 x.f4.length c4) := (blk_cell HL2.out.bx 4).trans rfl
    have y0 : w2.cell? ⟨w.heap.size + 1, 0, none⟩ = some (.int .i64 y.f0) := (blk_cell HL2.out.by_ 0).trans rfl
    have y1 : w2.cell? ⟨w.heap.size + 1, 1, none⟩ = some (.string y.f1) := (blk_cell HL2.out.by_ 1).trans rfl
    have y2 : w2.cell? ⟨w.heap.size + 1, 2, none⟩ = some (.string y.f2) := (blk_cell HL2.out.by_ 2).trans rfl
    have y3 : w2.cell? ⟨w.heap.size + 1, 3, none⟩ = some (.slice B3 y.f3.length d3) := (blk_cell HL2.out.by_ 3).trans rfl
    have y4 : w2.cell? ⟨w.heap.size + 1, 4, none⟩ = some (.slice B4 y.f4.length d4) := (blk_cell HL2.out.by_ 4).trans rfl
    cases r2 with
    | false =>
      go_wp2_with fail
      exact bodyPost_ret (v := .bool true) (by simp [results, Tryz.results6, go_sem]) rfl ⟨rfl, HL2.out.below⟩
    | true =>
      by_cases hlen : (2147483647 : Int) < (name.size : Int)
      · go_wp2_with fail
        exact bodyPost_ret (v := .bool true) (by simp [results, Tryz.results6, go_sem]) rfl ⟨rfl, HL2.out.below⟩
      go_wp2_with fail
      clear x0 x1 x2 x3 x4 y0 y1 y2 y3 y4
      refine (isMap8 w2 x A3 A4 c3 c4 (H.out.2.2.1.below HL2.out.below) H.out.1).mono ?_
      rintro e w3 ⟨b3, rfl, ht3, hb⟩
      have HL3 := Lib.hid (HL2.out.under hb)
      have HT3 := Lib.hid ht3
      clear hb ht3
      have x0 : w3.cell? ⟨w.heap.size, 0, none⟩ = some (.int .i64 x.f0) := (blk_cell HL3.out.bx 0).trans rfl
      have x1 : w3.cell? ⟨w.heap.size, 1, none⟩ = some (.string x.f1) := (blk_cell HL3.out.bx 1).trans rfl
      have x2 : w3.cell? ⟨w.heap.size, 2, none⟩ = some (.string x.f2) := (blk_cell HL3.out.bx 2).trans rfl
      have x3 : w3.cell? ⟨w.heap.size, 3, none⟩ = some (.slice A3 x.f3.length c3) := (blk_cell HL3.out.bx 3).trans rfl
      have x4 : w3.cell? ⟨w.heap.size, 4, none⟩ = some (.slice A4 x.f4.length c4) := (blk_cell HL3.out.bx 4).trans rfl
      have y0 : w3.cell? ⟨w.heap.size + 1, 0, none⟩ = some (.int .i64 y.f0) := (blk_cell HL3.out.by_ 0).trans rfl
      have y1 : w3.cell? ⟨w.heap.size + 1, 1, none⟩ = some (.string y.f1) := (blk_cell HL3.out.by_ 1).trans rfl
      have y2 : w3.cell? ⟨w.heap.size + 1, 2, none⟩ = some (.string y.f2) := (blk_cell HL3.out.by_ 2).trans rfl
      have y3 : w3.cell? ⟨w.heap.size + 1, 3, none⟩ = some (.slice B3 y.f3.length d3) := (blk_cell HL3.out.by_ 3).trans rfl
      have y4 : w3.cell? ⟨w.heap.size + 1, 4, none⟩ = some (.slice B4 y.f4.length d4) := (blk_cell HL3.out.by_ 4).trans rfl
      cases b3 with
      | false =>
        go_wp2_with fail
        exact bodyPost_ret (v := .bool true) (by simp [results, Tryz.results6, go_sem]) rfl ⟨rfl, HL3.out.below⟩
      | true =>
        have HTX := Lib.hid (HT3.out rfl)
        go_wp2_with fail
        clear x0 x1 x2 x3 x4 y0 y1 y2 y3 y4
        refine (isMap8 w3 y B3 B4 d3 d4 (H.out.2.2.2.below HL3.out.below) H.out.2.1).mono ?_
        rintro e w4 ⟨b4, rfl, ht4, hb⟩
        have HL4 := Lib.hid (HL3.out.under hb)
        have HT4 := Lib.hid ht4
        clear hb ht4
        have x0 : w4.cell? ⟨w.heap.size, 0, none⟩ = some (.int .i64 x.f0) := (blk_cell HL4.out.bx 0).trans rfl
        have x1 : w4.cell? ⟨w.heap.size, 1, none⟩ = some (.string x.f1) := (blk_cell HL4.out.bx 1).trans rfl
        have x2 : w4.cell? ⟨w.heap.size, 2, none⟩ = some (.string x.f2) := (blk_cell HL4.out.bx 2).trans rfl
        have x3 : w4.cell? ⟨w.heap.size, 3, none⟩ = some (.slice A3 x.f3.length c3) := (blk_cell HL4.out.bx 3).trans rfl
        have x4 : w4.cell? ⟨w.heap.size, 4, none⟩ = some (.slice A4 x.f4.length c4) := (blk_cell HL4.out.bx 4).trans rfl
        have y0 : w4.cell? ⟨w.heap.size + 1, 0, none⟩ = some (.int .i64 y.f0) := (blk_cell HL4.out.by_ 0).trans rfl
        have y1 : w4.cell? ⟨w.heap.size + 1, 1, none⟩ = some (.string y.f1) := (blk_cell HL4.out.by_ 1).trans rfl
        have y2 : w4.cell? ⟨w.heap.size + 1, 2, none⟩ = some (.string y.f2) := (blk_cell HL4.out.by_ 2).trans rfl
        have y3 : w4.cell? ⟨w.heap.size + 1, 3, none⟩ = some (.slice B3 y.f3.length d3) := (blk_cell HL4.out.by_ 3).trans rfl
        have y4 : w4.cell? ⟨w.heap.size + 1, 4, none⟩ = some (.slice B4 y.f4.length d4) := (blk_cell HL4.out.by_ 4).trans rfl
        cases b4 with
        | false =>
          go_wp2_with fail
          exact bodyPost_ret (v := .bool true) (by simp [results, Tryz.results6, go_sem]) rfl ⟨rfl, HL4.out.below⟩
        | true =>
          have HTY := Lib.hid (HT4.out rfl)
          go_wp2_with fail
          clear x0 x1 x2 x3 x4 y0 y1 y2 y3 y4
          have hlit := blk_new rfl (w := w4) (.cells #[.int .i64 x.f0, .string x.f1, .string x.f2, .slice A3 x.f3.length c3, .slice A4 x.f4.length c4, .int .i64 y.f0, .string y.f1, .string y.f2, .slice B3 y.f3.length d3, .slice B4 y.f4.length d4] 25)
          have HL5 := Lib.hid (HL4.out.under (below_alloc (Below.refl _ _) (.cells #[.int .i64 x.f0, .string x.f1, .string x.f2, .slice A3 x.f3.length c3, .slice A4 x.f4.length c4, .int .i64 y.f0, .string y.f1, .string y.f2, .slice B3 y.f3.length d3, .slice B4 y.f4.length d4] 25)))
          have HLIT := Lib.hid hlit
          clear hlit
          refine (areAlike10 6 x y HTX.out.2 HTY.out.2 _ (some ⟨w4.heap.size, 0, none⟩) 2 (reads_two HLIT.out (H.out.2.2.1.below HL5.out.below) (H.out.2.2.2.below HL5.out.below)) (by omega)).mono ?_
          rintro e w6 ⟨b6, rfl, hal, hb⟩
          have HL6 := Lib.hid (HL5.out.under hb)
          have HA6 := Lib.hid hal
          clear hb hal
          have x0 : w6.cell? ⟨w.heap.size, 0, none⟩ = some (.int .i64 x.f0) := (blk_cell HL6.out.bx 0).trans rfl
          have x1 : w6.cell? ⟨w.heap.size, 1, none⟩ = some (.string x.f1) := (blk_cell HL6.out.bx 1).trans rfl
          have x2 : w6.cell? ⟨w.heap.size, 2, none⟩ = some (.string x.f2) := (blk_cell HL6.out.bx 2).trans rfl
          have x3 : w6.cell? ⟨w.heap.size, 3, none⟩ = some (.slice A3 x.f3.length c3) := (blk_cell HL6.out.bx 3).trans rfl
          have x4 : w6.cell? ⟨w.heap.size, 4, none⟩ = some (.slice A4 x.f4.length c4) := (blk_cell HL6.out.bx 4).trans rfl
          have y0 : w6.cell? ⟨w.heap.size + 1, 0, none⟩ = some (.int .i64 y.f0) := (blk_cell HL6.out.by_ 0).trans rfl
          have y1 : w6.cell? ⟨w.heap.size + 1, 1, none⟩ = some (.string y.f1) := (blk_cell HL6.out.by_ 1).trans rfl
          have y2 : w6.cell? ⟨w.heap.size + 1, 2, none⟩ = some (.string y.f2) := (blk_cell HL6.out.by_ 2).trans rfl
          have y3 : w6.cell? ⟨w.heap.size + 1, 3, none⟩ = some (.slice B3 y.f3.length d3) := (blk_cell HL6.out.by_ 3).trans rfl
          have y4 : w6.cell? ⟨w.heap.size + 1, 4, none⟩ = some (.slice B4 y.f4.length d4) := (blk_cell HL6.out.by_ 4).trans rfl
          cases b6 with
          | false =>
            go_wp2_with fail
            exact bodyPost_ret (v := .bool true) (by simp [results, Tryz.results6, go_sem]) rfl ⟨rfl, HL6.out.below⟩
          | true =>
            have HAL := Lib.hid (HA6.out rfl)
            go_wp2_with fail
            clear x0 x1 x2 x3 x4 y0 y1 y2 y3 y4
            obtain ⟨k7, r7, hk7, hr7⟩ := word_some name HN.out
            refine (spec_IsWord.calls k7 name r7 _ hk7).mono ?_
            rintro e w7 ⟨rfl, nd7, rfl⟩
            have HR7 := Lib.hid hr7
            have HL7 := Lib.hid (HL6.out.under (pw_below_drewN (Below.refl _ _) nd7))
            clear hk7 hr7
            obtain ⟨W7, hW7⟩ : ∃ W7, W7 = w6.drewN nd7 := ⟨_, rfl⟩
            rw [← hW7] at HL7
            rw [← hW7]
            clear hW7
            have x0 : W7.cell? ⟨w.heap.size, 0, none⟩ = some (.int .i64 x.f0) := (blk_cell HL7.out.bx 0).trans rfl
            have x1 : W7.cell? ⟨w.heap.size, 1, none⟩ = some (.string x.f1) := (blk_cell HL7.out.bx 1).trans rfl
            have x2 : W7.cell? ⟨w.heap.size, 2, none⟩ = some (.string x.f2) := (blk_cell HL7.out.bx 2).trans rfl
            have x3 : W7.cell? ⟨w.heap.size, 3, none⟩ = some (.slice A3 x.f3.length c3) := (blk_cell HL7.out.bx 3).trans rfl
            have x4 : W7.cell? ⟨w.heap.size, 4, none⟩ = some (.slice A4 x.f4.length c4) := (blk_cell HL7.out.bx 4).trans rfl
            have y0 : W7.cell? ⟨w.heap.size + 1, 0, none⟩ = some (.int .i64 y.f0) := (blk_cell HL7.out.by_ 0).trans rfl
            have y1 : W7.cell? ⟨w.heap.size + 1, 1, none⟩ = some (.string y.f1) := (blk_cell HL7.out.by_ 1).trans rfl
            have y2 : W7.cell? ⟨w.heap.size + 1, 2, none⟩ = some (.string y.f2) := (blk_cell HL7.out.by_ 2).trans rfl
            have y3 : W7.cell? ⟨w.heap.size + 1, 3, none⟩ = some (.slice B3 y.f3.length d3) := (blk_cell HL7.out.by_ 3).trans rfl
            have y4 : W7.cell? ⟨w.heap.size + 1, 4, none⟩ = some (.slice B4 y.f4.length d4) := (blk_cell HL7.out.by_ 4).trans rfl
            cases r7 with
            | false =>
              go_wp2_with fail
              exact bodyPost_ret (v := .bool true) (by simp [results, Tryz.results6, go_sem]) rfl ⟨rfl, HL7.out.below⟩
            | true =>
              have HW7 := Lib.hid (HR7.out rfl)
              go_wp2_with fail
              clear HL0 HL1 HL2 HL3 HL4 HL5 HL6 HLIT HT3 HT4 HA6 HR7
              rename_i K hKK
              have HKK := Lib.hid hKK
              clear hKK
              have REST : ∀ (nb : Nat) (m : S25) (M3 M4 : Option Addr) (m3 m4 : Nat) (t11 t12 t13 t14 t15 t16 t17 t18 t19 t20 t21 t22 t23 t24 t25 t26 t27 t28 t29 t30 t31 t32 t33 t34 t35 t36 t37 t38 t39 t40 t41 t42 t43 t44 t45 t46 t47 : Value) (W : World), LB w #[.int .i64 x.f0, .string x.f1, .string x.f2, .slice A3 x.f3.length c3, .slice A4 x.f4.length c4] #[.int .i64 y.f0, .string y.f1, .string y.f2, .slice B3 y.f3.length d3, .slice B4 y.f4.length d4] W → W.heap[nb]? = some (.cells #[.int .i64 m.f0, .string m.f1, .string m.f2, .slice M3 m.f3.length m3, .slice M4 m.f4.length m4] 25 (0, 0)) → WithP x name nullN m → NdR W m M3 m3 M4 m4 → K { tmps := ((ndV x A3 c3 A4 c4) :: (ndV y B3 d3 B4 d4) :: (.string name) :: (.pointer (some ⟨w.heap.size, 0, none⟩)) :: (.pointer (some ⟨w.heap.size + 1, 0, none⟩)) :: undef :: (.bool false) :: (.pointer (some ⟨nb, 0, none⟩)) :: undef :: undef :: undef :: t11 :: t12 :: t13 :: t14 :: t15 :: t16 :: t17 :: t18 :: t19 :: t20 :: t21 :: t22 :: t23 :: t24 :: t25 :: t26 :: t27 :: t28 :: t29 :: t30 :: t31 :: t32 :: t33 :: t34 :: t35 :: t36 :: t37 :: t38 :: t39 :: t40 :: t41 :: t42 :: t43 :: t44 :: t45 :: t46 :: t47 :: undef :: undef :: undef :: undef :: undef :: undef :: undef :: undef :: undef :: undef :: undef :: undef :: undef :: undef :: undef :: undef :: undef :: undef :: undef :: undef :: undef :: []).toArray, defers := [] } W := by
                intro nb m M3 M4 m3 m4 t11 t12 t13 t14 t15 t16 t17 t18 t19 t20 t21 t22 t23 t24 t25 t26 t27 t28 t29 t30 t31 t32 t33 t34 t35 t36 t37 t38 t39 t40 t41 t42 t43 t44 t45 t46 t47 W hlb hnb hwp hmr
                have hX := withX (d := 4) HTX.out.2 HTX.out.1 HW7.out hwp
                have HX := Lib.hid (And.intro hX.1 (And.intro (Bnd.withP H.out.1 nullBnd HN.out hwp) (show ∀ key a b, key ≠ name → fld y key a → fld m key b → AlikeN 5 a b from fun key a b hn ha hb => HAL.out.2 HTY.out.1 key a b ha (hX.2 key b hn hb))))
                have HM := Lib.hid (And.intro hlb (And.intro hnb hmr))
                clear hX hwp hlb hnb hmr
                refine HKK.out _ _ ?_
                clear HL7
                have n0 : W.cell? ⟨nb, 0, none⟩ = some (.int .i64 m.f0) := (blk_cell HM.out.2.1 0).trans rfl
                have n1 : W.cell? ⟨nb, 1, none⟩ = some (.string m.f1) := (blk_cell HM.out.2.1 1).trans rfl
                have n2 : W.cell? ⟨nb, 2, none⟩ = some (.string m.f2) := (blk_cell HM.out.2.1 2).trans rfl
                have n3 : W.cell? ⟨nb, 3, none⟩ = some (.slice M3 m.f3.length m3) := (blk_cell HM.out.2.1 3).trans rfl
                have n4 : W.cell? ⟨nb, 4, none⟩ = some (.slice M4 m.f4.length m4) := (blk_cell HM.out.2.1 4).trans rfl
                have y0 : W.cell? ⟨w.heap.size + 1, 0, none⟩ = some (.int .i64 y.f0) := (blk_cell HM.out.1.by_ 0).trans rfl
                have y1 : W.cell? ⟨w.heap.size + 1, 1, none⟩ = some (.string y.f1) := (blk_cell HM.out.1.by_ 1).trans rfl
                have y2 : W.cell? ⟨w.heap.size + 1, 2, none⟩ = some (.string y.f2) := (blk_cell HM.out.1.by_ 2).trans rfl
                have y3 : W.cell? ⟨w.heap.size + 1, 3, none⟩ = some (.slice B3 y.f3.length d3) := (blk_cell HM.out.1.by_ 3).trans rfl
                have y4 : W.cell? ⟨w.heap.size + 1, 4, none⟩ = some (.slice B4 y.f4.length d4) := (blk_cell HM.out.1.by_ 4).trans rfl
                go_wp2_with fail
                clear n0 n1 n2 n3 n4 y0 y1 y2 y3 y4
                refine (merged12x 5 name (fun k => k < W.heap.size) m y HX.out.1 HTY.out.2 HTY.out.1 HX.out.2.2 HX.out.2.1 H.out.2.1 W M3 M4 B3 B4 m3 m4 d3 d4 HM.out.2.2.frame.g ((H.out.2.2.2.below HM.out.1.below).frame.g)).mono ?_
                rintro e w8 ⟨z, Z3, z3, Z4, z4, rfl, hmr, hbz, hng, hb⟩
                have HZ := Lib.hid (And.intro hmr (And.intro hbz (And.intro hng.now hb)))
                clear hmr hbz hng hb
                go_wp2_with fail
                obtain ⟨w9, hw9⟩ : ∃ w9, w9 = w8.alloc (.cells #[.int .i64 z.f0, .string z.f1, .string z.f2, .slice Z3 z.f3.length z3, .slice Z4 z.f4.length z4] 25) := ⟨_, rfl⟩
                obtain ⟨zb, hzb⟩ : ∃ zb, zb = w8.heap.size := ⟨_, rfl⟩
                have HL9 := Lib.hid (show (LB w #[.int .i64 x.f0, .string x.f1, .string x.f2, .slice A3 x.f3.length c3, .slice A4 x.f4.length c4] #[.int .i64 y.f0, .string y.f1, .string y.f2, .slice B3 y.f3.length d3, .slice B4 y.f4.length d4] w9 ∧ w9.heap[nb]? = some (.cells #[.int .i64 m.f0, .string m.f1, .string m.f2, .slice M3 m.f3.length m3, .slice M4 m.f4.length m4] 25 (0, 0)) ∧ NdR w9 m M3 m3 M4 m4) ∧ w9.heap[zb]? = some (.cells #[.int .i64 z.f0, .string z.f1, .string z.f2, .slice Z3 z.f3.length z3, .slice Z4 z.f4.length z4] 25 (0, 0)) ∧ NdR w9 z Z3 z3 Z4 z4 from by
                  have hb := HZ.out.2.2.2.trans ((below_alloc (Below.refl w8.heap.size w8) (.cells #[.int .i64 z.f0, .string z.f1, .string z.f2, .slice Z3 z.f3.length z3, .slice Z4 z.f4.length z4] 25)).mono HZ.out.2.2.2.size)
                  rw [← hw9] at hb
                  exact ⟨⟨HM.out.1.under hb, (hb.block _ (lt_of_block HM.out.2.1)).trans HM.out.2.1, HM.out.2.2.below hb⟩, hzb ▸ hw9 ▸ blk_new rfl _, hw9 ▸ HZ.out.2.2.1.below (below_alloc (Below.refl _ _) _)⟩)
                rw [← hw9, ← hzb]
                clear hw9 hzb
                refine (isTree11 w9 z Z3 Z4 z3 z4 HL9.out.2.2 HZ.out.2.1).mono ?_
                rintro e wa ⟨ba, rfl, _, hb⟩
                have HLA := Lib.hid (show (LB w #[.int .i64 x.f0, .string x.f1, .string x.f2, .slice A3 x.f3.length c3, .slice A4 x.f4.length c4] #[.int .i64 y.f0, .string y.f1, .string y.f2, .slice B3 y.f3.length d3, .slice B4 y.f4.length d4] wa ∧ wa.heap[nb]? = some (.cells #[.int .i64 m.f0, .string m.f1, .string m.f2, .slice M3 m.f3.length m3, .slice M4 m.f4.length m4] 25 (0, 0)) ∧ NdR wa m M3 m3 M4 m4) ∧ wa.heap[zb]? = some (.cells #[.int .i64 z.f0, .string z.f1, .string z.f2, .slice Z3 z.f3.length z3, .slice Z4 z.f4.length z4] 25 (0, 0)) ∧ NdR wa z Z3 z3 Z4 z4 from ⟨⟨HL9.out.1.1.under hb, (hb.block _ (lt_of_block HL9.out.1.2.1)).trans HL9.out.1.2.1, HL9.out.1.2.2.below hb⟩, (hb.block _ (lt_of_block HL9.out.2.1)).trans HL9.out.2.1, HL9.out.2.2.below hb⟩)
                clear hb
                cases ba with
                | false =>
                  go_wp2_with fail
                  exact bodyPost_ret (v := .bool true) (by simp [results, Tryz.results6, go_sem]) rfl ⟨rfl, HLA.out.1.1.below⟩
                | true =>
                  have n0 : wa.cell? ⟨nb, 0, none⟩ = some (.int .i64 m.f0) := (blk_cell HLA.out.1.2.1 0).trans rfl
                  have n1 : wa.cell? ⟨nb, 1, none⟩ = some (.string m.f1) := (blk_cell HLA.out.1.2.1 1).trans rfl
                  have n2 : wa.cell? ⟨nb, 2, none⟩ = some (.string m.f2) := (blk_cell HLA.out.1.2.1 2).trans rfl
                  have n3 : wa.cell? ⟨nb, 3, none⟩ = some (.slice M3 m.f3.length m3) := (blk_cell HLA.out.1.2.1 3).trans rfl
                  have n4 : wa.cell? ⟨nb, 4, none⟩ = some (.slice M4 m.f4.length m4) := (blk_cell HLA.out.1.2.1 4).trans rfl
                  have y0 : wa.cell? ⟨w.heap.size + 1, 0, none⟩ = some (.int .i64 y.f0) := (blk_cell HLA.out.1.1.by_ 0).trans rfl
                  have y1 : wa.cell? ⟨w.heap.size + 1, 1, none⟩ = some (.string y.f1) := (blk_cell HLA.out.1.1.by_ 1).trans rfl
                  have y2 : wa.cell? ⟨w.heap.size + 1, 2, none⟩ = some (.string y.f2) := (blk_cell HLA.out.1.1.by_ 2).trans rfl
                  have y3 : wa.cell? ⟨w.heap.size + 1, 3, none⟩ = some (.slice B3 y.f3.length d3) := (blk_cell HLA.out.1.1.by_ 3).trans rfl
                  have y4 : wa.cell? ⟨w.heap.size + 1, 4, none⟩ = some (.slice B4 y.f4.length d4) := (blk_cell HLA.out.1.1.by_ 4).trans rfl
                  go_wp2_with fail
                  clear n0 n1 n2 n3 n4 y0 y1 y2 y3 y4
                  refine (merge2_take wa m y HX.out.1 HTY.out.2 HTY.out.1 HX.out.2.2 M3 M4 B3 B4 m3 m4 d3 d4 HLA.out.1.2.2 (H.out.2.2.2.below HLA.out.1.1.below) false).mono ?_
                  rintro e wc ⟨ym, G3, g3, G4, g4, rfl, hmr, hng, hb⟩
                  have HG := Lib.hid (And.intro hmr (And.intro hng hb))
                  clear hmr hng hb
                  have hbz : (wc.alloc (.cells #[.int .i64 ym.f0, .string ym.f1, .string ym.f2, .slice G3 ym.f3.length g3, .slice G4 ym.f4.length g4] 25)).heap[zb]? = some (.cells #[.int .i64 z.f0, .string z.f1, .string z.f2, .slice Z3 z.f3.length z3, .slice Z4 z.f4.length z4] 25 (0, 0)) := blk_old _ ((HG.out.2.2.block _ (lt_of_block HLA.out.2.1)).trans HLA.out.2.1)
                  have z0 : (wc.alloc (.cells #[.int .i64 ym.f0, .string ym.f1, .string ym.f2, .slice G3 ym.f3.length g3, .slice G4 ym.f4.length g4] 25)).cell? ⟨zb, 0, none⟩ = some (.int .i64 z.f0) := (blk_cell hbz 0).trans rfl
                  have z1 : (wc.alloc (.cells #[.int .i64 ym.f0, .string ym.f1, .string ym.f2, .slice G3 ym.f3.length g3, .slice G4 ym.f4.length g4] 25)).cell? ⟨zb, 1, none⟩ = some (.string z.f1) := (blk_cell hbz 1).trans rfl
                  have z2 : (wc.alloc (.cells #[.int .i64 ym.f0, .string ym.f1, .string ym.f2, .slice G3 ym.f3.length g3, .slice G4 ym.f4.length g4] 25)).cell? ⟨zb, 2, none⟩ = some (.string z.f2) := (blk_cell hbz 2).trans rfl
                  have z3' : (wc.alloc (.cells #[.int .i64 ym.f0, .string ym.f1, .string ym.f2, .slice G3 ym.f3.length g3, .slice G4 ym.f4.length g4] 25)).cell? ⟨zb, 3, none⟩ = some (.slice Z3 z.f3.length z3) := (blk_cell hbz 3).trans rfl
                  have z4' : (wc.alloc (.cells #[.int .i64 ym.f0, .string ym.f1, .string ym.f2, .slice G3 ym.f3.length g3, .slice G4 ym.f4.length g4] 25)).cell? ⟨zb, 4, none⟩ = some (.slice Z4 z.f4.length z4) := (blk_cell hbz 4).trans rfl
                  go_wp2_with fail
                  clear z0 z1 z2 z3' z4' hbz
                  obtain ⟨gb, hgb⟩ : ∃ gb, gb = wc.heap.size := ⟨_, rfl⟩
                  obtain ⟨wd, hwd⟩ : ∃ wd, wd = wc.alloc (.cells #[.int .i64 ym.f0, .string ym.f1, .string ym.f2, .slice G3 ym.f3.length g3, .slice G4 ym.f4.length g4] 25) := ⟨_, rfl⟩
                  have HLD := Lib.hid (show LB w #[.int .i64 x.f0, .string x.f1, .string x.f2, .slice A3 x.f3.length c3, .slice A4 x.f4.length c4] #[.int .i64 y.f0, .string y.f1, .string y.f2, .slice B3 y.f3.length d3, .slice B4 y.f4.length d4] wd ∧ wd.heap[gb]? = some (.cells #[.int .i64 ym.f0, .string ym.f1, .string ym.f2, .slice G3 ym.f3.length g3, .slice G4 ym.f4.length g4] 25 (0, 0)) ∧ NdR wd ym G3 g3 G4 g4 ∧ wd.heap[zb]? = some (.cells #[.int .i64 z.f0, .string z.f1, .string z.f2, .slice Z3 z.f3.length z3, .slice Z4 z.f4.length z4] 25 (0, 0)) ∧ NdR wd z Z3 z3 Z4 z4 from by
                    have hb := HG.out.2.2.trans ((below_alloc (Below.refl wc.heap.size wc) (.cells #[.int .i64 ym.f0, .string ym.f1, .string ym.f2, .slice G3 ym.f3.length g3, .slice G4 ym.f4.length g4] 25)).mono HG.out.2.2.size)
                    rw [← hwd] at hb
                    exact ⟨HLA.out.1.1.under hb, hgb ▸ hwd ▸ blk_new rfl _, hwd ▸ HG.out.2.1.below (below_alloc (Below.refl _ _) _), (hb.block _ (lt_of_block HLA.out.2.1)).trans HLA.out.2.1, HLA.out.2.2.below hb⟩)
                  rw [← hwd, ← hgb]
                  clear hwd hgb
                  refine (same14 6 ym z (mrel_same (TreeB.cutTree HTY.out.2 HTY.out.1) HX.out.1.cutTree (alike_cut HX.out.2.2) HG.out.1 HZ.out.1) (mrel_size (TreeB.cutTree HTY.out.2 HTY.out.1) HX.out.1.cutTree (alike_cut HX.out.2.2) HG.out.1) wd G3 G4 Z3 Z4 g3 g4 z3 z4 HLD.out.2.2.1 HLD.out.2.2.2.2).mono ?_
                  rintro e we ⟨rfl, hb⟩
                  have HLE := Lib.hid (HLD.out.1.under hb)
                  clear hb
                  go_wp2_with fail
                  refine (merges15 we).mono ?_
                  rintro e wf ⟨rfl, hb⟩
                  have HLF := Lib.hid (HLE.out.under hb)
                  clear hb
                  go_wp2_with fail
                  exact bodyPost_ret (v := .bool true) (by simp [results, Tryz.results6, go_sem]) rfl ⟨rfl, HLF.out.below⟩
              have HREST := Lib.hid REST
              clear REST HKK
              have HXL := Lib.hid (show x.f3.length = x.f4.length ∧ x.f4.length ≤ 1000000 from by
                have h1 := TreeB.len HTX.out.2
                refine ⟨?_, by omega⟩
                rcases HTX.out.2.1 with ⟨h, _⟩ | ⟨_, _, _, h, _⟩ | ⟨h, _⟩
                · rw [HTX.out.1] at h; cases h
                · exact h
                · rw [HTX.out.1] at h; cases h)
              have HX7 := Lib.hid ((H.out.2.2.1.below HL7.out.below).frame.g)
              have x0 : W7.cell? ⟨w.heap.size, 0, none⟩ = some (.int .i64 x.f0) := (blk_cell HL7.out.bx 0).trans rfl
              have x1 : W7.cell? ⟨w.heap.size, 1, none⟩ = some (.string x.f1) := (blk_cell HL7.out.bx 1).trans rfl
              have x2 : W7.cell? ⟨w.heap.size, 2, none⟩ = some (.string x.f2) := (blk_cell HL7.out.bx 2).trans rfl
              have x3 : W7.cell? ⟨w.heap.size, 3, none⟩ = some (.slice A3 x.f3.length c3) := (blk_cell HL7.out.bx 3).trans rfl
              have x4 : W7.cell? ⟨w.heap.size, 4, none⟩ = some (.slice A4 x.f4.length c4) := (blk_cell HL7.out.bx 4).trans rfl
              refine start_ (n := 6) (S := fun w' => w'.cell? ⟨w.heap.size, 0, none⟩ = some (.int .i64 x.f0) ∧ w'.cell? ⟨w.heap.size, 1, none⟩ = some (.string x.f1) ∧ w'.cell? ⟨w.heap.size, 2, none⟩ = some (.string x.f2) ∧ w'.cell? ⟨w.heap.size, 3, none⟩ = some (.slice A3 x.f3.length c3) ∧ w'.cell? ⟨w.heap.size, 4, none⟩ = some (.slice A4 x.f4.length c4)) (ds := [5]) #[false, false, false, false, false, false] (by kernel_rfl) rfl rfl ⟨x0, x1, x2, x3, x4⟩ (fun hHeld => ?_)
              have HW := Lib.hid (show TS w W7 #[.int .i64 x.f0, .string x.f1, .string x.f2, .slice A3 x.f3.length c3, .slice A4 x.f4.length c4] #[.int .i64 y.f0, .string y.f1, .string y.f2, .slice B3 y.f3.length d3, .slice B4 y.f4.length d4] W7.drew from ⟨HL7.out.under (below_drew (Below.refl _ _)), below_drew (Below.refl _ _), lt_of_block HL7.out.by_⟩)
              refine pure_ (i := 1) (N := some 45) (v := ?_) (a' := ?_) (bl 6 2) rfl rfl (by kernel_rfl) (fun _ _ _ h => h) (Or.inl ⟨by rfl, ?_⟩) ?_ ?_; rotate_left; (· (intro w'; go_simp; with_reducible rfl)); rotate_left; (· (simp only [np]; rfl))
              refine take_ (i := 0) (N := some 44) (v := ?_) (a' := ?_) (bl 6 3) rfl rfl (by kernel_rfl) (fun _ _ _ h => h) (Or.inl ⟨by rfl, ?_⟩) hHeld ?_ ?_; rotate_left; (· (rintro w' ⟨s0, s1, s2, s3, s4⟩; go_simp; with_reducible rfl)); rotate_left; (· (simp only [np]; rfl))
              refine two_ (i := 2) (j := 4) (Ni := some 46) (Nj := some 7) (bl 6 7) (bl 6 19) rfl rfl rfl rfl (by kernel_rfl) (by decide) (by decide) (fun K hK => ?_) (fun K hK => ?_)
              · skip
                refine goes_ Tryz.func18 (by kernel_rfl) rfl #[] (by rfl) rfl rfl (by simp only [List.map_toArray, List.map_cons, List.map_nil]) ?_
                refine (null18 _).mono ?_
                rintro e wn ⟨rfl, hb⟩
                have HW := Lib.hid (HW.out.under hb)
                clear hb
                refine ⟨_, rfl, ?_⟩
                refine hK.out _ _ ⟨(blk_cell HW.out.lb.bx 0).trans rfl, (blk_cell HW.out.lb.bx 1).trans rfl, (blk_cell HW.out.lb.bx 2).trans rfl, (blk_cell HW.out.lb.bx 3).trans rfl, (blk_cell HW.out.lb.bx 4).trans rfl⟩ (fun hHeld => ?_)
                clear hK K
                refine norm_ (a' := ?_) ?_ ?_; rotate_left; (· (show Act.put _ (some 46) _ = _; simp only [np]; rfl))
                refine two_ (i := 3) (j := 4) (Ni := some 47) (Nj := some 7) (bl 6 15) (bl 6 23) rfl rfl rfl rfl (by kernel_rfl) (by decide) (by decide) (fun K hK => ?_) (fun K hK => ?_)
                · skip
                  refine goes_ Tryz.func17 (by kernel_rfl) rfl #[ndV x A3 c3 A4 c4, .string name, ndV nullN none 0 none 0] (by rfl) rfl rfl (by simp only [List.map_toArray, List.map_cons, List.map_nil]; rfl) ?_
                  refine (with17 _ (fun k => k < W7.heap.size) x nullN name A3 A4 none none c3 c4 0 0 (HX7.out.below HW.out.b7) ((nullG _).mono fun _ h => h.elim) HXL.out.1 HXL.out.2).mono ?_
                  rintro e wt ⟨m, M3, m3, M4, m4, rfl, hwp, hng, hb⟩
                  have HMW := Lib.hid (And.intro hwp hng.now)
                  have HW := Lib.hid (HW.out.under hb)
                  clear hwp hng hb
                  refine ⟨_, rfl, ?_⟩
                  refine hK.out _ _ ⟨(blk_cell HW.out.lb.bx 0).trans rfl, (blk_cell HW.out.lb.bx 1).trans rfl, (blk_cell HW.out.lb.bx 2).trans rfl, (blk_cell HW.out.lb.bx 3).trans rfl, (blk_cell HW.out.lb.bx 4).trans rfl⟩ (fun hHeld => ?_)
                  clear hK K
                  refine norm_ (a' := ?_) ?_ ?_; rotate_left; (· (show Act.put _ (some 47) _ = _; simp only [np]; rfl))
                  refine one_ (i := 4) (N := some 7) (bl 6 31) rfl rfl (by kernel_rfl) (by decide) (fun K hK => ?_)
                  have HWP := HW
                  have HMP := HMW
                  refine value_ (w1 := ?_) (v := ?_) (by rfl) rfl ?_ ?_
                  rotate_left 2
                  · go_simp
                    constructor
                    · rfl
                    · rfl
                  obtain ⟨gg, hgg, hw, hab, hbl⟩ := HW.out.addg
                  have hmw := HMW.out.2.frame.g.mono (Q := fun k => k ≠ gg) fun k hk => by omega
                  have HMW := Lib.hid (And.intro HMW.out.1 (hmw.below hbl))
                  clear hmw
                  try simp at hgg
                  subst hgg
                  have HW := Lib.hid hw
                  have HAB := Lib.hid hab
                  clear hw hab hbl
                  refine hK.out _ _ ⟨(blk_cell HW.out.lb.bx 0).trans rfl, (blk_cell HW.out.lb.bx 1).trans rfl, (blk_cell HW.out.lb.bx 2).trans rfl, (blk_cell HW.out.lb.bx 3).trans rfl, (blk_cell HW.out.lb.bx 4).trans rfl⟩ (fun hHeld => ?_)
                  clear hK K
                  refine norm_ (a' := ?_) ?_ ?_; rotate_left; (· (show Act.put _ (some 7) _ = _; simp only [np]; rfl))
                  refine last_ (i := 5) (N := none) (bl 6 63) rfl rfl (by kernel_rfl) (by decide) (fun K hK => ?_)
                  have hgb := HAB.out.1
                  have z0 := blk_frozen hgb 0
                  have z1 := blk_frozen hgb 1
                  have z2 := blk_frozen hgb 2
                  have z3 := blk_frozen hgb 3
                  have z4 := blk_frozen hgb 4
                  have k0 := blk_cell hgb 0
                  have k1 := blk_cell hgb 1
                  have k2 := blk_cell hgb 2
                  have k3 := blk_cell hgb 3
                  have k4 := blk_cell hgb 4
                  clear hgb
                  refine skip_ (w1 := ?_) (by rfl) rfl ?_ ?_
                  rotate_left
                  · go_simp
                    rfl
                  have HMX := Lib.hid (And.intro HMP.out.1 (HMP.out.2.below (below_alloc (Below.refl _ _) (.cells #[.int .i64 m.f0, .string m.f1, .string m.f2, .slice M3 m.f3.length m3, .slice M4 m.f4.length m4] 25))))
                  have HWB := Lib.hid (show LB w #[.int .i64 x.f0, .string x.f1, .string x.f2, .slice A3 x.f3.length c3, .slice A4 x.f4.length c4] #[.int .i64 y.f0, .string y.f1, .string y.f2, .slice B3 y.f3.length d3, .slice B4 y.f4.length d4] (wt.alloc (.cells #[.int .i64 m.f0, .string m.f1, .string m.f2, .slice M3 m.f3.length m3, .slice M4 m.f4.length m4] 25)) ∧ (wt.alloc (.cells #[.int .i64 m.f0, .string m.f1, .string m.f2, .slice M3 m.f3.length m3, .slice M4 m.f4.length m4] 25)).heap[wt.heap.size]? = some (.cells #[.int .i64 m.f0, .string m.f1, .string m.f2, .slice M3 m.f3.length m3, .slice M4 m.f4.length m4] 25 (0, 0)) from ⟨HWP.out.lb.under (below_alloc (Below.refl _ _) _), blk_new rfl _⟩)
                  clear z0 z1 z2 z3 z4 k0 k1 k2 k3 k4
                  refine hK.out _ _ ?_
                  clear hK K
                  refine done_ (by kernel_rfl) ?_
                  exact HREST.out _ _ _ _ _ _ _ _ _ _ _ _ _ _ _ _ _ _ _ _ _ _ _ _ _ _ _ _ _ _ _ _ _ _ _ _ _ _ _ _ _ _ _ _ HWB.out.1 HWB.out.2 HMX.out.1 HMX.out.2
                · skip
                  have HWP := HW
                  refine value_ (w1 := ?_) (v := ?_) (by rfl) rfl ?_ ?_
                  rotate_left 2
                  · go_simp
                    constructor
                    · rfl
                    · rfl
                  obtain ⟨gg, hgg, hw, hab, hbl⟩ := HW.out.addg
                  try simp at hgg
                  subst hgg
                  have HW := Lib.hid hw
                  have HAB := Lib.hid hab
                  clear hw hab hbl
                  refine hK.out _ _ ⟨(blk_cell HW.out.lb.bx 0).trans rfl, (blk_cell HW.out.lb.bx 1).trans rfl, (blk_cell HW.out.lb.bx 2).trans rfl, (blk_cell HW.out.lb.bx 3).trans rfl, (blk_cell HW.out.lb.bx 4).trans rfl⟩ (fun hHeld => ?_)
                  clear hK K
                  refine norm_ (a' := ?_) ?_ ?_; rotate_left; (· (show Act.put _ (some 7) _ = _; simp only [np]; rfl))
                  refine one_ (i := 3) (N := some 47) (bl 6 31) rfl rfl (by kernel_rfl) (by decide) (fun K hK => ?_)
                  refine goes_ Tryz.func17 (by kernel_rfl) rfl #[ndV x A3 c3 A4 c4, .string name, ndV nullN none 0 none 0] (by rfl) rfl rfl (by simp only [List.map_toArray, List.map_cons, List.map_nil]; rfl) ?_
                  refine (with17 _ (fun k => k < W7.heap.size) x nullN name A3 A4 none none c3 c4 0 0 (HX7.out.below HW.out.b7) ((nullG _).mono fun _ h => h.elim) HXL.out.1 HXL.out.2).mono ?_
                  rintro e wt ⟨m, M3, m3, M4, m4, rfl, hwp, hng, hb⟩
                  have HMW := Lib.hid (And.intro hwp (hng.mono (Q := fun k => k ≠ _) fun k hk => HAB.out.ne hk))
                  have HW := Lib.hid (HW.out.under hb)
                  have HAB := Lib.hid (HAB.out.under hb)
                  clear hwp hng hb
                  refine ⟨_, rfl, ?_⟩
                  refine hK.out _ _ ⟨(blk_cell HW.out.lb.bx 0).trans rfl, (blk_cell HW.out.lb.bx 1).trans rfl, (blk_cell HW.out.lb.bx 2).trans rfl, (blk_cell HW.out.lb.bx 3).trans rfl, (blk_cell HW.out.lb.bx 4).trans rfl⟩ (fun hHeld => ?_)
                  clear hK K
                  refine norm_ (a' := ?_) ?_ ?_; rotate_left; (· (show Act.put _ (some 47) _ = _; simp only [np]; rfl))
                  refine last_ (i := 5) (N := none) (bl 6 63) rfl rfl (by kernel_rfl) (by decide) (fun K hK => ?_)
                  have hgb := HAB.out.1
                  have z0 := blk_frozen hgb 0
                  have z1 := blk_frozen hgb 1
                  have z2 := blk_frozen hgb 2
                  have z3 := blk_frozen hgb 3
                  have z4 := blk_frozen hgb 4
                  have k0 := blk_cell hgb 0
                  have k1 := blk_cell hgb 1
                  have k2 := blk_cell hgb 2
                  have k3 := blk_cell hgb 3
                  have k4 := blk_cell hgb 4
                  clear hgb
                  refine skip_ (w1 := ?_) (by rfl) rfl ?_ ?_
                  rotate_left
                  · go_simp
                    rfl
                  have HMX := Lib.hid (And.intro HMW.out.1 (HMW.out.2.keep (keep_put5 _ _ (.int .i64 m.f0) (.string m.f1) (.string m.f2) (.slice M3 m.f3.length m3) (.slice M4 m.f4.length m4)) fun k hk e => hk e).now)
                  have HWB := Lib.hid (HW.out.put HAB.out (.int .i64 m.f0) (.string m.f1) (.string m.f2) (.slice M3 m.f3.length m3) (.slice M4 m.f4.length m4))
                  clear z0 z1 z2 z3 z4 k0 k1 k2 k3 k4
                  refine hK.out _ _ ?_
                  clear hK K
                  refine done_ (by kernel_rfl) ?_
                  exact HREST.out _ _ _ _ _ _ _ _ _ _ _ _ _ _ _ _ _ _ _ _ _ _ _ _ _ _ _ _ _ _ _ _ _ _ _ _ _ _ _ _ _ _ _ _ HWB.out.1 HWB.out.2 HMX.out.1 HMX.out.2
              · skip
                have HWP := HW
                refine value_ (w1 := ?_) (v := ?_) (by rfl) rfl ?_ ?_
                rotate_left 2
                · go_simp
                  constructor
                  · rfl
                  · rfl
                obtain ⟨gg, hgg, hw, hab, hbl⟩ := HW.out.addg
                try simp at hgg
                subst hgg
                have HW := Lib.hid hw
                have HAB := Lib.hid hab
                clear hw hab hbl
                refine hK.out _ _ ⟨(blk_cell HW.out.lb.bx 0).trans rfl, (blk_cell HW.out.lb.bx 1).trans rfl, (blk_cell HW.out.lb.bx 2).trans rfl, (blk_cell HW.out.lb.bx 3).trans rfl, (blk_cell HW.out.lb.bx 4).trans rfl⟩ (fun hHeld => ?_)
                clear hK K
                refine norm_ (a' := ?_) ?_ ?_; rotate_left; (· (show Act.put _ (some 7) _ = _; simp only [np]; rfl))
                refine one_ (i := 2) (N := some 46) (bl 6 23) rfl rfl (by kernel_rfl) (by decide) (fun K hK => ?_)
                refine goes_ Tryz.func18 (by kernel_rfl) rfl #[] (by rfl) rfl rfl (by simp only [List.map_toArray, List.map_cons, List.map_nil]) ?_
                refine (null18 _).mono ?_
                rintro e wn ⟨rfl, hb⟩
                have HW := Lib.hid (HW.out.under hb)
                have HAB := Lib.hid (HAB.out.under hb)
                clear hb
                refine ⟨_, rfl, ?_⟩
                refine hK.out _ _ ⟨(blk_cell HW.out.lb.bx 0).trans rfl, (blk_cell HW.out.lb.bx 1).trans rfl, (blk_cell HW.out.lb.bx 2).trans rfl, (blk_cell HW.out.lb.bx 3).trans rfl, (blk_cell HW.out.lb.bx 4).trans rfl⟩ (fun hHeld => ?_)
                clear hK K
                refine norm_ (a' := ?_) ?_ ?_; rotate_left; (· (show Act.put _ (some 46) _ = _; simp only [np]; rfl))
                refine one_ (i := 3) (N := some 47) (bl 6 31) rfl rfl (by kernel_rfl) (by decide) (fun K hK => ?_)
                refine goes_ Tryz.func17 (by kernel_rfl) rfl #[ndV x A3 c3 A4 c4, .string name, ndV nullN none 0 none 0] (by rfl) rfl rfl (by simp only [List.map_toArray, List.map_cons, List.map_nil]; rfl) ?_
                refine (with17 _ (fun k => k < W7.heap.size) x nullN name A3 A4 none none c3 c4 0 0 (HX7.out.below HW.out.b7) ((nullG _).mono fun _ h => h.elim) HXL.out.1 HXL.out.2).mono ?_
                rintro e wt ⟨m, M3, m3, M4, m4, rfl, hwp, hng, hb⟩
                have HMW := Lib.hid (And.intro hwp (hng.mono (Q := fun k => k ≠ _) fun k hk => HAB.out.ne hk))
                have HW := Lib.hid (HW.out.under hb)
                have HAB := Lib.hid (HAB.out.under hb)
                clear hwp hng hb
                refine ⟨_, rfl, ?_⟩
                refine hK.out _ _ ⟨(blk_cell HW.out.lb.bx 0).trans rfl, (blk_cell HW.out.lb.bx 1).trans rfl, (blk_cell HW.out.lb.bx 2).trans rfl, (blk_cell HW.out.lb.bx 3).trans rfl, (blk_cell HW.out.lb.bx 4).trans rfl⟩ (fun hHeld => ?_)
                clear hK K
                refine norm_ (a' := ?_) ?_ ?_; rotate_left; (· (show Act.put _ (some 47) _ = _; simp only [np]; rfl))
                refine last_ (i := 5) (N := none) (bl 6 63) rfl rfl (by kernel_rfl) (by decide) (fun K hK => ?_)
                have hgb := HAB.out.1
                have z0 := blk_frozen hgb 0
                have z1 := blk_frozen hgb 1
                have z2 := blk_frozen hgb 2
                have z3 := blk_frozen hgb 3
                have z4 := blk_frozen hgb 4
                have k0 := blk_cell hgb 0
                have k1 := blk_cell hgb 1
                have k2 := blk_cell hgb 2
                have k3 := blk_cell hgb 3
                have k4 := blk_cell hgb 4
                clear hgb
                refine skip_ (w1 := ?_) (by rfl) rfl ?_ ?_
                rotate_left
                · go_simp
                  rfl
                have HMX := Lib.hid (And.intro HMW.out.1 (HMW.out.2.keep (keep_put5 _ _ (.int .i64 m.f0) (.string m.f1) (.string m.f2) (.slice M3 m.f3.length m3) (.slice M4 m.f4.length m4)) fun k hk e => hk e).now)
                have HWB := Lib.hid (HW.out.put HAB.out (.int .i64 m.f0) (.string m.f1) (.string m.f2) (.slice M3 m.f3.length m3) (.slice M4 m.f4.length m4))
                clear z0 z1 z2 z3 z4 k0 k1 k2 k3 k4
                refine hK.out _ _ ?_
                clear hK K
                refine done_ (by kernel_rfl) ?_
                exact HREST.out _ _ _ _ _ _ _ _ _ _ _ _ _ _ _ _ _ _ _ _ _ _ _ _ _ _ _ _ _ _ _ _ _ _ _ _ _ _ _ _ _ _ _ _ HWB.out.1 HWB.out.2 HMX.out.1 HMX.out.2
end Go.Proofs.YtghmajlfmoggfaaGreat
namespace Go.Proofs.YtghmajlfmoggfaaGreat
open Go.ChangeShapes Go.WideShapes Go.Deep Go.RowKit Go.Proofs.YtghmajlfmoggfaaGreatW.PrintWords Go.Proofs.YtghmajlfmoggfaaGreatW.PrintLast PFnMerge
section
variable {H : Type} {enc : TypeId × Value → H} {w : World} {base : Nat} {spare : Nat → Bool} {held : Bool}
theorem cells_get {a : Addr} {n : Nat} {cs : List Value} (h : w.cells? base a n = some cs) : cs.length = n ∧ ∀ i, i < n → w.cell? (a.add i) = cs[i]? := by
  unfold World.cells? at h
  split at h
  · refine ⟨by simpa using mapM_some_length h, fun i hi => ?_⟩
    exact mapM_some_get h i i (by simp [hi])
  · cases h
theorem add_add' (a : Addr) (m n : Nat) : (a.add m).add n = a.add (m + n) := by
  by_cases h1 : m = 0
  · subst h1; simp [Addr.add]
  · by_cases h2 : n = 0
    · subst h2; simp [Addr.add]
    · simp [Addr.add, h1, h2, Nat.add_assoc]
theorem open_keys {fuel : Nat} {v : Value} {x : DataW H × List MemPlace} (h : DataW.trod enc Tryz.prog w base spare held fuel 22 [v] = some x) :
    ∃ (l : List ByteArray) (A : Option Addr) (c : Nat), v = .slice A l.length c ∧ l.length ≤ c ∧ Kd.C Kd.string w A l.length l ∧ ∀ k ∈ l, k.size ≤ 9223372036854775807 := by
  rcases open_strs Tryz.underlying22 Tryz.underlying9 (by kernel_rfl) h with ⟨hv, _⟩ | ⟨a, len, cap, m, Sx, hv, _, hl, hm, hmm, _, hx⟩
  · injection hv with hv _
    subst hv
    exact ⟨[], none, 0, rfl, Nat.le_refl _, Kd.C_nil _ _, fun k hk => by cases hk⟩
  · injection hv with hv _
    subst hv
    have hlm : len ≤ m := by rw [hmm]; split <;> omega
    have hmx : maxLen = 9223372036854775807 := rfl
    refine ⟨(List.range len).map Sx, some a, cap, by simp, by simpa using hl, ⟨rfl, by simp; omega, fun _ => ⟨a, rfl, fun j p hj => ?_⟩⟩, fun k hk => ?_⟩
    · obtain ⟨hj1, rfl⟩ : j < len ∧ Sx j = p := by
        have hlt := (List.getElem?_eq_some_iff.1 hj).1
        simp only [List.length_map, List.length_range] at hlt
        rw [List.getElem?_map, List.getElem?_eq_getElem (by simpa using hlt)] at hj
        simp only [List.getElem_range, Option.map_some, Option.some.injEq] at hj
        exact ⟨hlt, hj⟩
      refine ⟨[.string (Sx j)], rfl, rfl, fun i u hu => ?_⟩
      match i, hu with
      | 0, hu =>
        simp only [List.getElem?_cons_zero, Option.some.injEq] at hu
        subst hu
        have := (hx j (by omega)).1
        have es : Kd.string.sz = 1 := rfl
        rw [es, Nat.mul_one, Nat.add_zero]
        exact this
    · obtain ⟨j, hj, rfl⟩ := List.mem_map.1 hk
      have := (hx j (by have := List.mem_range.1 hj; omega)).2
      omega
theorem open_items {n : Nat} (ih : ∀ m, m < n → ∀ {cs : List Value} {x : DataW H × List MemPlace}, DataW.trod enc Tryz.prog w base spare held m 25 cs = some x → ∃ (y : S25) (A3 : Option Addr) (c3 : Nat) (A4 : Option Addr) (c4 : Nat), cs = [.int .i64 y.f0, .string y.f1, .string y.f2, .slice A3 y.f3.length c3, .slice A4 y.f4.length c4] ∧ NdR w y A3 c3 A4 c4 ∧ Bnd y)
    {fuel : Nat} (hf : fuel ≤ n) {v : Value} {x : DataW H × List MemPlace} (h : DataW.trod enc Tryz.prog w base spare held fuel 23 [v] = some x) :
    ∃ (l : List S25) (A : Option Addr) (c : Nat), v = .slice A l.length c ∧ l.length ≤ c ∧ Kd.C k25 w A l.length l ∧ ∀ z ∈ l, Bnd z := by
  have hc5 : Tryz.prog.cellsOf 25 = 5 := by kernel_rfl
  rcases DataW.trod_slice Tryz.underlying23 h with ⟨hv, _⟩ | ⟨a, len, cap, elems, rest, m, hfm, hv, _, _, hl, hm, hlen, hel, _, _⟩
  · injection hv with hv _
    subst hv
    exact ⟨[], none, 0, rfl, Nat.le_refl _, Kd.C_nil _ _, fun k hk => by cases hk⟩
  · injection hv with hv _
    subst hv
    haveI : Inhabited S25 := ⟨z25⟩
    have each : ∀ i, i < len → ∃ y : S25, Bnd y ∧ ∃ (A3 : Option Addr) (c3 : Nat) (A4 : Option Addr) (c4 : Nat), NdR w y A3 c3 A4 c4 ∧ ∀ j, j < 5 → w.cell? (a.add (i * 5 + j)) = [Value.int .i64 y.f0, .string y.f1, .string y.f2, .slice A3 y.f3.length c3, .slice A4 y.f4.length c4][j]? := by
      intro i hi
      have hb := hel i hi
      rw [List.getElem?_eq_getElem (by omega), Option.bind_eq_some_iff, hc5] at hb
      obtain ⟨cs', h1, h2⟩ := hb
      obtain ⟨y, A3, c3, A4, c4, rfl, h3, h4⟩ := ih m (by omega) h2
      refine ⟨y, h4, A3, c3, A4, c4, h3, fun j hj => ?_⟩
      have := (cells_get h1).2 j hj
      rwa [add_add'] at this
    obtain ⟨Y, hY⟩ := choose_lt each
    have hmx : maxLen = 9223372036854775807 := rfl
    refine ⟨(List.range len).map Y, some a, cap, by simp, by simpa using hl, ⟨rfl, by simp; omega, fun _ => ⟨a, rfl, fun j p hj => ?_⟩⟩, fun k hk => ?_⟩
    · obtain ⟨hj1, rfl⟩ : j < len ∧ Y j = p := by
        have hlt := (List.getElem?_eq_some_iff.1 hj).1
        simp only [List.length_map, List.length_range] at hlt
        rw [List.getElem?_map, List.getElem?_eq_getElem (by simpa using hlt)] at hj
        simp only [List.getElem_range, Option.map_some, Option.some.injEq] at hj
        exact ⟨hlt, hj⟩
      obtain ⟨_, A3, c3, A4, c4, h3, h4⟩ := hY j hj1
      refine ⟨[.int .i64 (Y j).f0, .string (Y j).f1, .string (Y j).f2, .slice A3 (Y j).f3.length c3, .slice A4 (Y j).f4.length c4], rfl, k25_mk w (Y j) h3.kcap h3.keys h3.icap h3.items, fun i u hu => ?_⟩
      have es : k25.sz = 5 := rfl
      rw [es, h4 i (by have := (List.getElem?_eq_some_iff.1 hu).1; simpa using this)]
      exact hu
    · obtain ⟨j, hj, rfl⟩ := List.mem_map.1 hk
      exact (hY j (by simpa using hj)).1
set_option maxRecDepth 20000 in
theorem open25 : ∀ (n : Nat) {cs : List Value} {x : DataW H × List MemPlace}, DataW.trod enc Tryz.prog w base spare held n 25 cs = some x → ∃ (y : S25) (A3 : Option Addr) (c3 : Nat) (A4 : Option Addr) (c4 : Nat), cs = [.int .i64 y.f0, .string y.f1, .string y.f2, .slice A3 y.f3.length c3, .slice A4 y.f4.length c4] ∧ NdR w y A3 c3 A4 c4 ∧ Bnd y := by
  intro n
  induction n using Nat.strongRecOn with
  | _ n ih =>
    intro cs x h
    have hc5 : Tryz.prog.cellsOf 25 = 5 := by kernel_rfl
    have e3 : Tryz.prog.cellsOf 3 = 1 := by kernel_rfl
    have e9 : Tryz.prog.cellsOf 9 = 1 := by kernel_rfl
    have e22 : Tryz.prog.cellsOf 22 = 1 := by kernel_rfl
    have e23 : Tryz.prog.cellsOf 23 = 1 := by kernel_rfl
    obtain ⟨xs, m, hnm, _, hl, hlen, hf⟩ := DataW.trod_struct Tryz.underlying25 h
    rw [hc5] at hl
    have hlen5 : xs.length = 5 := hlen
    match xs, hlen5 with
    | [x0, x1, x2, x3, x4], _ =>
      match cs, hl with
      | [v0, v1, v2, v3, v4], _ =>
        have h0 : DataW.trod enc Tryz.prog w base spare held m 3 [v0] = some x0 := by have := (show DataW.trod enc Tryz.prog w base spare held m 3 (([v0, v1, v2, v3, v4].drop 0).take (Tryz.prog.cellsOf 3)) = some x0 from hf 0 _ rfl); rw [e3] at this; exact this
        have h1 : DataW.trod enc Tryz.prog w base spare held m 9 [v1] = some x1 := by have := (show DataW.trod enc Tryz.prog w base spare held m 9 (([v0, v1, v2, v3, v4].drop 1).take (Tryz.prog.cellsOf 9)) = some x1 from hf 1 _ rfl); rw [e9] at this; exact this
        have h2 : DataW.trod enc Tryz.prog w base spare held m 9 [v2] = some x2 := by have := (show DataW.trod enc Tryz.prog w base spare held m 9 (([v0, v1, v2, v3, v4].drop 2).take (Tryz.prog.cellsOf 9)) = some x2 from hf 2 _ rfl); rw [e9] at this; exact this
        have h3 : DataW.trod enc Tryz.prog w base spare held m 22 [v3] = some x3 := by have := (show DataW.trod enc Tryz.prog w base spare held m 22 (([v0, v1, v2, v3, v4].drop 3).take (Tryz.prog.cellsOf 22)) = some x3 from hf 3 _ rfl); rw [e22] at this; exact this
        have h4 : DataW.trod enc Tryz.prog w base spare held m 23 [v4] = some x4 := by have := (show DataW.trod enc Tryz.prog w base spare held m 23 (([v0, v1, v2, v3, v4].drop 4).take (Tryz.prog.cellsOf 23)) = some x4 from hf 4 _ rfl); rw [e23] at this; exact this
        obtain ⟨k, hk, _, _⟩ := DataW.trod_int Tryz.underlying3 h0
        obtain ⟨s1, hs1, _, hb1⟩ := DataW.trod_string Tryz.underlying9 h1
        obtain ⟨s2, hs2, _, hb2⟩ := DataW.trod_string Tryz.underlying9 h2
        obtain ⟨l3, A3, c3, rfl, g3, g3', g3''⟩ := open_keys h3
        obtain ⟨l4, A4, c4, rfl, g4, g4', g4''⟩ := open_items (n := n) (fun m hm => @ih m hm) (by omega) h4
        injection hk with hk _
        injection hs1 with hs1 _
        injection hs2 with hs2 _
        subst hk; subst hs1; subst hs2
        have hmx : maxLen = 9223372036854775807 := rfl
        exact ⟨⟨k, s1, s2, l3, l4⟩, A3, c3, A4, c4, rfl, ⟨g3', g3, g4', g4⟩, .mk _ (by show s1.size ≤ _; omega) (by show s2.size ≤ _; omega) g3'' g4''⟩
end
end Go.Proofs.YtghmajlfmoggfaaGreat
