import Derived.Test.YtghmajlfmoggfaaGreatMD
import Derived.Test.YtghmajlfmoggfaaGreatMJ3
import Derived.Test.YtghmajlfmoggfaaGreatME9
import Derived.Test.YtghmajlfmoggfaaGreatME4
set_option linter.unusedSimpArgs false
set_option linter.unusedVariables false
namespace Go.Proofs.YtghmajlfmoggfaaGreat
open Go.RowKit Go.Proofs.YtghmajlfmoggfaaGreatW.PrintWords Go.Proofs.YtghmajlfmoggfaaGreatW.PrintLast PFnMerge
variable {V path mo : Value} {infer : Bool} {sb c : Nat} {dp sp : Option Addr}
set_option maxRecDepth 20000 in
set_option maxHeartbeats 4000000 in
theorem fieldValue61c {kd ks : List Kid} {name : ByteArray} (w : World) (hs : SrcAt w sb dp sp) (hd : KidsQ w dp kd) (ho : KidsQ w sp ks) :
  Calls Tryz.prog 61 #[.agg #[V, .pointer none, .slice (some ⟨sb, 0, none⟩) 2 c, path, .bool infer, .bool false, mo], .string name] w fun e w' => ∃ (g cap m : Nat) (d s : Option Addr),
   e = .returned (.tuple #[.slice (some ⟨g, 0, none⟩) 2 cap, .pointer none, .map (some m)]) ∧ (2 ≤ cap ∧ w.heap.size ≤ g) ∧ Below w.heap.size w w' ∧ SrcAt w' g d s ∧ StyM w' m ∧ Found kd name d w' ∧ Found ks name s w' := by
 have hb0 := below_alloc (Below.refl w.heap.size w) (.cells #[V, .pointer none, .slice (some ⟨sb, 0, none⟩) 2 c, path, .bool infer, .bool false, mo] 66)
 have HS := Lib.hid hs
 have HD := Lib.hid hd
 have HO := Lib.hid ho
 clear hs hd ho
 obtain ⟨wb, hwb⟩ : ∃ wb, wb = w.heap.size := ⟨_, rfl⟩
 go_enter Tryz.func61, Tryz.ntmps61
 have hmm := run_make98
 go_wp2_with fail
 rw [← hwb]
 have HW := Lib.hid hwb
 have hst0 : FV w wb #[V, .pointer none, .slice (some ⟨sb, 0, none⟩) 2 c, path, .bool infer, .bool false, mo] kd ks name 0 [] (.slice none 0 0) ((w.alloc (.cells #[V, .pointer none, .slice (some ⟨sb, 0, none⟩) 2 c, path, .bool infer, .bool false, mo] 66)).alloc (.map #[] 0)) :=
  ⟨by rw [hwb]; exact below_alloc hb0 (.map #[] 0), by rw [hwb]; simp; omega, ⟨#[], 0, blk_new (by rw [hwb]; simp) _, by simp⟩, blk_old (.map #[] 0) (blk_new hwb (w := w) _), rfl, own_nil _ _ _ _, ⟨fun d hd => by simp at hd, fun d hd => by simp at hd⟩⟩
 have H0 := Lib.hid hst0
 clear hst0 hb0 hmm hwb
 go_loopg [21, 7, 8] 2 (fun k i v sch wr => ∃ j : Nat, j + k = 2 ∧ i = .int .i64 (j : Int) ∧ sch = .pointer none ∧ Hid (∃ ds : List (Option Addr), FV w wb #[V, .pointer none, .slice (some ⟨sb, 0, none⟩) 2 c, path, .bool infer, .bool false, mo] kd ks name j ds v wr))
 case atStart =>
  exact ⟨0, by omega, rfl, rfl, Lib.hid ⟨[], H0.out⟩⟩
 case round =>
  obtain ⟨j, hj, rfl, rfl, hI⟩ := hrel
  by_cases hlt : 1 ≤ gk
  ·obtain ⟨ds, hfv⟩ := hI.out
   obtain ⟨A, ca, rfl⟩ := own_slice hfv.row
   have hdl := hfv.len
   obtain ⟨q, kq, hcell, hq, hkq⟩ : ∃ q kq, wr.cell? ⟨sb, j, none⟩ = some (.pointer q) ∧ KidsQ wr q kq ∧ (ds.length = 0 ∧ kq = kd ∨ ds.length = 1 ∧ kq = ks) := by
    have hb := hfv.below
    rw [HW.out] at hb
    have hj2 : j = 0 ∨ j = 1 := by omega
    rcases hj2 with rfl | rfl
    ·exact ⟨dp, kd, (HS.out.under hb).c0, HD.out.under hb, .inl ⟨hdl, rfl⟩⟩
    ·exact ⟨sp, ks, (HS.out.under hb).c1, HO.out.under hb, .inr ⟨hdl, rfl⟩⟩
   have hj1 : (j : Int) < 2 := by omega
   have hjn := Lib.hid (show j < 2 by omega)
   have h66 := hfv.box
   have HC := Lib.hid hfv
   have HKQ := Lib.hid hkq
   have g2 : wr.cell? ⟨wb, 2, none⟩ = some (.slice (some ⟨sb, 0, none⟩) 2 c) := (blk_cell h66 2).trans rfl
   clear hfv hkq hI hdl h66
   rcases hq with ⟨rfl, hkq⟩ | ⟨r, b, C, rfl, hr, hm⟩
   ·have HKN := Lib.hid hkq
    clear hkq
    go_wp2_with (at_builtin; refine list_app (base := wb) (by exact HC.out.wz) 58 47 (.pointer none) 8 [.pointer none] 1 rfl rfl rfl Tryz.underlying58 info47 rfl (by omega) (.slice A j ca) j _ (by rfl) (by rfl) (by simp [Value.oneCell']) HC.out.row (by have := hjn.out; omega) ?_; intro v1 w1 hown1 hg1 hat1; have HO1 := Lib.hid hown1; have HG1 := Lib.hid hg1; clear hown1 hg1 hat1)
    go_roundg (gk - 1)
    case measure => omega
    case rel =>
     exact ⟨j + 1, by omega, by go_num, rfl, Lib.hid ⟨_, HC.out.append HO1.out HG1.out HKQ.out ⟨fun _ => rfl, fun kid hk => by rw [HKN.out] at hk; cases hk⟩⟩⟩
   ·have HF := Lib.hid (field_some (name := name) wr hr hm)
    have HKEYS := Lib.hid hm.keys
    clear hr hm
    go_wp2_with fail
    refine Calls.mono HF.out ?_
    rintro e w2 ⟨hb2, hmiss, hhit⟩
    have HV2 := Lib.hid (HC.out.under hb2)
    have h662 := HV2.out.box
    have p0 : w2.cell? ⟨wb, 0, none⟩ = some (V) := (blk_cell h662 0).trans rfl
    have p1 : w2.cell? ⟨wb, 1, none⟩ = some (.pointer none) := (blk_cell h662 1).trans rfl
    have p2 : w2.cell? ⟨wb, 2, none⟩ = some (.slice (some ⟨sb, 0, none⟩) 2 c) := (blk_cell h662 2).trans rfl
    have p3 : w2.cell? ⟨wb, 3, none⟩ = some (path) := (blk_cell h662 3).trans rfl
    have p4 : w2.cell? ⟨wb, 4, none⟩ = some (.bool infer) := (blk_cell h662 4).trans rfl
    have p5 : w2.cell? ⟨wb, 5, none⟩ = some (.bool false) := (blk_cell h662 5).trans rfl
    have p6 : w2.cell? ⟨wb, 6, none⟩ = some (mo) := (blk_cell h662 6).trans rfl
    have HKE := Lib.hid (show ∀ c ∈ kq, NodeB w2 c.kb 8 noStr c.key nilS from fun c hc => (HKEYS.out c hc).under hb2)
    clear hb2 h662 g2 hcell HF HKEYS
    cases hfind : kq.find? (hasKey name) with
    | none =>
     obtain rfl := hmiss hfind
     have HFN := Lib.hid hfind
     clear hmiss hhit hfind
     go_wp2_with fail
     refine Calls.mono (present81_nil w2) ?_
     rintro e w3 ⟨rfl, hb3⟩
     have HV3 := Lib.hid (HV2.out.under hb3)
     clear hb3 p0 p1 p2 p3 p4 p5 p6
     go_wp2_with (at_builtin; refine list_app (base := wb) (by exact HV3.out.wz) 58 47 (.pointer none) 8 [.pointer none] 1 rfl rfl rfl Tryz.underlying58 info47 rfl (by omega) (.slice A j ca) j _ (by rfl) (by rfl) (by simp [Value.oneCell']) HV3.out.row (by have := hjn.out; omega) ?_; intro v1 w1 hown1 hg1 hat1; have HO1 := Lib.hid hown1; have HG1 := Lib.hid hg1; clear hown1 hg1 hat1)
     refine Calls.mono (schema82 _) ?_
     rintro e w5 ⟨rfl, rfl⟩
     go_wp2_with fail
     go_roundg (gk - 1)
     case measure => omega
     case rel =>
      exact ⟨j + 1, by omega, by go_num, rfl, Lib.hid ⟨_, HV3.out.append HO1.out HG1.out HKQ.out ⟨fun _ => rfl, fun kid hk => by rw [HFN.out] at hk; cases hk⟩⟩⟩
    | some kid =>
     obtain ⟨mb, kr, vr, rfl, hmn, hkr, hvr⟩ := hhit kid hfind
     have HFN := Lib.hid hfind
     have HM2 := Lib.hid hmn
     have HP := Lib.hid (present81_some (V := V) (path := path) (mo := mo) (infer := infer) (sb := sb) (c := c) w2 hmn)
     have HKR := Lib.hid (And.intro hkr (HKE.out kid (List.mem_of_find?_eq_some hfind)))
     have HVR := Lib.hid hvr
     clear hmiss hhit hfind hmn hkr hvr
     go_wp2_with fail
     refine Calls.mono HP.out ?_
     rintro e w3 ⟨rfl, hb3⟩
     have HV3 := Lib.hid (HV2.out.under hb3)
     have HMN3 := Lib.hid (show MNB w3 mb kr vr from (hb3.block _ (lt_of_block HM2.out)).trans HM2.out)
     have HKR3 := Lib.hid (And.intro (HKR.out.1.under hb3) (HKR.out.2.under hb3))
     have HVR3 := Lib.hid (HVR.out.under hb3)
     clear hb3 p0 p1 p2 p3 p4 p5 p6 HP
     go_wp2_with (at_builtin; refine list_app (base := wb) (by exact HV3.out.wz) 58 47 (.pointer none) 8 [.pointer (some ⟨vr, 0, none⟩)] 1 rfl rfl rfl Tryz.underlying58 info47 rfl (by omega) (.slice A j ca) j _ (by rfl) (by rfl) (by simp [Value.oneCell']) HV3.out.row (by have := hjn.out; omega) ?_; intro v1 w1 hown1 hg1 hat1; have HO1 := Lib.hid hown1; have HG1 := Lib.hid hg1; clear hown1 hg1 hat1; obtain ⟨q1, q2, q3, w5, q5, q6, q7⟩ := HV3.out.after HMN3.out HKR3.out HVR3.out HG1.out; have HY := Lib.hid q2; have HU := Lib.hid (And.intro q6 q7); clear q2 q6 q7)
     refine Calls.mono HY.out ?_
     rintro e w6 ⟨rfl, rfl⟩
     go_wp2_with fail
     refine Calls.mono HY.out ?_
     rintro e w6 ⟨rfl, rfl⟩
     go_wp2_with fail
     refine Calls.mono (schema82 _) ?_
     rintro e w6 ⟨rfl, rfl⟩
     go_wp2_with fail
     go_roundg (gk - 1)
     case measure => omega
     case rel =>
      exact ⟨j + 1, by omega, by go_num, rfl, Lib.hid ⟨_, (HV3.out.append HO1.out HG1.out HKQ.out ⟨fun hn => by { rw [HFN.out] at hn; cases hn }, fun kid' hk => by { rw [HFN.out] at hk; injection hk with hk; subst hk; exact ⟨vr, rfl, HVR3.out⟩ }⟩).style HU.out.1 HU.out.2⟩⟩
  ·have hj2 : j = 2 := by omega
   subst hj2
   have HI := hI
   clear hI
   have hx : ¬ ((2 : Nat) : Int) < 2 := by omega
   obtain ⟨ds, hfv⟩ := HI.out
   obtain ⟨A, ca, rfl⟩ := own_slice hfv.row
   have HV := Lib.hid hfv
   clear hfv HI
   go_wp2_with fail
   obtain ⟨d, s, rfl⟩ : ∃ d s, ds = [d, s] := by
    have := HV.out.len
    rcases ds with _ | ⟨d, _ | ⟨s, _ | _⟩⟩ <;> simp at this
    exact ⟨d, s, rfl⟩
   rcases HV.out.row.2 with ⟨hn, h0⟩ | ⟨g, cap, cur, he, hbase, hblk, h1, h2, h3, h4⟩
   ·simp at h0
   ·injection he with e1 e2 e3
    subst e1
    refine bodyPost_ret (v := .tuple #[.slice (some ⟨g, 0, none⟩) 2 ca, .pointer none, .map (some (wb + 1))]) (by simp [results, Tryz.results61, go_sem]) rfl ⟨g, ca, wb + 1, rfl, ⟨by rw [e3]; exact h1, by rw [← HW.out]; exact hbase⟩, by rw [← HW.out]; exact HV.out.below, d, s, ⟨cur, hblk, ?_, ?_⟩, HV.out.sty, HV.out.vals.1 d rfl, HV.out.vals.2 s rfl⟩
    ·have := congrArg (fun l => l[0]?) h4
     simpa [List.getElem?_take] using this
    ·have := congrArg (fun l => l[1]?) h4
     simpa [List.getElem?_take] using this
end Go.Proofs.YtghmajlfmoggfaaGreat
namespace Go.Proofs.YtghmajlfmoggfaaGreat
open Go.RowKit Go.Proofs.YtghmajlfmoggfaaGreatW.PrintWords Go.Proofs.YtghmajlfmoggfaaGreatW.PrintLast PFnMerge
def hasNm (z : S25) : Prop := z.f0 = 2 ∧ nmKey ∈ z.f3
def NamedB (z : S25) (s : ByteArray) : Prop := z.f0 = 2 ∧ ∃ tag, fld z nmKey ⟨1, s, tag, [], []⟩
def NamesL (l : List S25) (ns : List ByteArray) : Prop := ns.length = l.length ∧ ns.Nodup ∧ (∀ s ∈ ns, s.toList.isEmpty = false) ∧ ∀ (i : Nat) z s, l[i]? = some z → ns[i]? = some s → NamedB z s
def GoodI (inf : Bool) : Nat → S25 → Prop
 | 0, _ => False
 | n + 1, y => (y.f0 = 1 ∧ (y.f2.toList == [33, 33, 110, 117, 108, 108]) = false) ∨
  (y.f0 = 3 ∧ y.f4 ≠ [] ∧ y.f4.length ≤ 250 ∧ (inf = true → (∃ z ∈ y.f4, ¬ hasNm z) ∨ (∃ ns, NamesL y.f4 ns) ∧ ∀ z ∈ y.f4, GoodI inf n z)) ∨
  (y.f0 = 2 ∧ y.f3 ≠ [] ∧ y.f3.length ≤ 1000 ∧ y.f3.Nodup ∧ (∀ k ∈ y.f3, k.toList.isEmpty = false ∧ k.size ≤ 1000000 ∧ (patchKey.toList == k.toList) = false) ∧ ∀ z ∈ y.f4, GoodI inf n z)
theorem GoodI.good {inf : Bool} : ∀ {n : Nat} {y : S25}, GoodI inf n y → Good n y
 | 0, _, h => h.elim
 | n + 1, y, h => by
  rcases h with h | ⟨h1, h2, h3, _⟩ | ⟨h1, h2, h3, h4, h5, h6⟩
  ·exact .inl h
  ·exact .inr (.inl ⟨h1, h2, by omega⟩)
  ·exact .inr (.inr ⟨h1, h2, h3, h4, h5, fun z hz => (h6 z hz).good⟩)
theorem find_of_nodup {kids : List Kid} (hn : (kids.map (·.key)).Nodup) {c : Kid} (hc : c ∈ kids) : kids.find? (hasKey c.key) = some c := by
 obtain ⟨kid, hf, hm, hk⟩ := find_key ⟨c, hc, rfl⟩
 rw [hf, kid_unique hn hm hc hk]
theorem GoodI.nm {inf : Bool} {n : Nat} {y : S25} (hg : GoodI inf n y) {s : ByteArray} (hs : NamedB y s) {w : World} {b : Nat} {F : Nat → Prop} (hr : Rep w b y F) : NmB w b s := by
 obtain ⟨h0, tag, hf⟩ := hs
 cases n with
 | zero => exact hg.elim
 | succ n =>
  cases hr with
  | sc _ text tag _ h hF => simp at h0
  | sq _ C kids _ h hF hr hd hk hc => simp at h0
  | mp _ C kids _ h hF hr hd hk hc =>
   rcases hg with ⟨h1, _⟩ | ⟨h1, _⟩ | ⟨_, _, _, hn, _, hi⟩
   ·simp at h1
   ·simp at h1
   ·obtain ⟨c, hcm, hck, hcy⟩ := zip_kid.1 hf
    have hfi := find_of_nodup hn hcm
    rw [hck] at hfi
    have hrc := hc c hcm
    have hgc := hi c.y (List.mem_map_of_mem hcm)
    rw [hcy] at hrc hgc
    refine ⟨C, kids, c, tag, ⟨h, ⟨_, hr⟩, fun c hc => (hk c hc).1⟩, hfi, ?_, ?_⟩
    ·cases hrc with
     | sc _ _ _ _ h _ => exact h
    ·cases n with
     | zero => exact hgc.elim
     | succ n =>
      rcases hgc with ⟨_, h2⟩ | ⟨h1, _⟩ | ⟨h1, _⟩
      ·exact h2
      ·simp at h1
      ·simp at h1
theorem Rep.el {w : World} {b : Nat} {y : S25} {F : Nat → Prop} (hr : Rep w b y F) : (hasNm y → ElQ w b true) ∧ (¬ hasNm y → ElQ w b false) := by
 cases hr with
 | sc _ text tag _ h hF => exact ⟨fun h0 => by simp [hasNm] at h0, fun _ => .inr ⟨rfl, 8, tag, text, nilS, h, rfl, rfl⟩⟩
 | sq _ C kids _ h hF hr hd hk hc => exact ⟨fun h0 => by simp [hasNm] at h0, fun _ => .inr ⟨rfl, 2, noStr, noStr, C, h, rfl, rfl⟩⟩
 | mp _ C kids _ h hF hr hd hk hc =>
  have hm : MapAt w b C kids := ⟨h, ⟨_, hr⟩, fun c hc => (hk c hc).1⟩
  refine ⟨fun ⟨_, h1⟩ => .inl ⟨C, kids, hm, ?_⟩, fun h1 => .inl ⟨C, kids, hm, ?_⟩⟩
  ·obtain ⟨c, hc, hk⟩ := List.mem_map.1 h1
   obtain ⟨kid, hf, _⟩ := find_key ⟨c, hc, hk⟩
   rw [hf]
   rfl
  ·have : nmKey ∉ kids.map (·.key) := fun h => h1 ⟨rfl, h⟩
   rw [find_none_key this]
   rfl
theorem NamedB.has {z : S25} {s : ByteArray} (h : NamedB z s) : hasNm z := by
 obtain ⟨h0, tag, h1⟩ := h
 exact ⟨h0, (List.of_mem_zip h1).1⟩
theorem kid_cb_inj {kids : List Kid} (hd : kids.Pairwise fun c d => ∀ k, c.F k → d.F k → False) (hr : ∀ c ∈ kids, c.F c.cb) {c c' : Kid} (hc : c ∈ kids) (hc' : c' ∈ kids) (he : c.cb = c'.cb) : c = c' := by
 obtain ⟨i, hi, rfl⟩ := List.getElem_of_mem hc
 obtain ⟨j, hj, rfl⟩ := List.getElem_of_mem hc'
 rw [List.pairwise_iff_getElem] at hd
 rcases Nat.lt_trichotomy i j with h | h | h
 ·exact (hd i j hi hj h _ (hr _ hc) (by rw [he]; exact hr _ hc')).elim
 ·subst h; rfl
 ·exact (hd j i hj hi h _ (hr _ hc') (by rw [← he]; exact hr _ hc)).elim
theorem plain_LQ {w : World} {r b : Nat} {C : Value} {kids : List Kid} {F : Nat → Prop} (hrn : RNB w r b) (h : NodeB w b 2 noStr noStr C) (hr : PRow w F C (kids.map (·.cb))) (hd : kids.Pairwise fun c d => ∀ k, c.F k → d.F k → False) (hc : ∀ c ∈ kids, Rep w c.cb c.y c.F) (hne : kids ≠ []) (hlen : kids.length ≤ 1000) (hp : ∃ z ∈ kids.map (·.y), ¬ hasNm z) : LQ w r false := by
 have hinj : ∀ {c c' : Kid}, c ∈ kids → c' ∈ kids → c.cb = c'.cb → c = c' := fun h1 h2 => kid_cb_inj hd (fun c hm => (hc c hm).root) h1 h2
 classical
 refine ⟨b, C, kids.map (·.cb), fun x => decide (∃ c ∈ kids, c.cb = x ∧ hasNm c.y), hrn, ⟨h, F, hr⟩, by simpa using hne, by simpa using hlen, ?_, ?_⟩
 ·intro x hx
  obtain ⟨c, hcm, rfl⟩ := List.mem_map.1 hx
  show ElQ w c.cb (decide (∃ c', c' ∈ kids ∧ c'.cb = c.cb ∧ hasNm c'.y))
  by_cases hn : hasNm c.y
  ·rw [decide_eq_true ⟨c, hcm, rfl, hn⟩]
   exact (hc c hcm).el.1 hn
  ·rw [decide_eq_false (by rintro ⟨c', hm', he, hn'⟩; rw [hinj hm' hcm he] at hn'; exact hn hn')]
   exact (hc c hcm).el.2 hn
 ·obtain ⟨z, hz, hn⟩ := hp
  obtain ⟨c, hcm, rfl⟩ := List.mem_map.1 hz
  unfold allB
  refine decide_eq_false fun he => ?_
  have := (List.filter_eq_self.1 (List.filter_sublist.eq_of_length he)) c.cb (List.mem_map_of_mem hcm)
  obtain ⟨c', hm', he', hn'⟩ := of_decide_eq_true this
  rw [hinj hm' hcm he'] at hn'
  exact hn hn'
theorem GoodI.nop {inf : Bool} {n : Nat} {y : S25} (hg : GoodI inf n y) (h0 : y.f0 = 2) {w : World} {b : Nat} {F : Nat → Prop} (hr : Rep w b y F) : NoP w b := by
 cases n with
 | zero => exact hg.elim
 | succ n =>
  cases hr with
  | sc _ text tag _ h hF => simp at h0
  | sq _ C kids _ h hF hr hd hk hc => simp at h0
  | mp _ C kids _ h hF hr hd hk hc =>
   rcases hg with ⟨h1, _⟩ | ⟨h1, _⟩ | ⟨_, _, _, hn, hkk, hi⟩
   ·simp at h1
   ·simp at h1
   ·refine ⟨C, kids, ⟨h, ⟨_, hr⟩, fun c hc => (hk c hc).1⟩, ?_⟩
    rw [List.find?_eq_none]
    intro x hx
    have := (hkk x.key (List.mem_map_of_mem hx)).2.2
    simpa [hasKey] using this
theorem NamesL.lq {l : List S25} {ns : List ByteArray} (h : NamesL l ns) {z : S25} (hz : z ∈ l) : z.f0 = 2 := by
 obtain ⟨i, hi, rfl⟩ := List.getElem_of_mem hz
 have hi2 : i < ns.length := by have := h.1; omega
 exact (h.2.2.2 i _ ns[i] (List.getElem?_eq_getElem hi) (List.getElem?_eq_getElem hi2)).1
theorem named_nms {inf : Bool} {n : Nat} {w : World} {kids : List Kid} {ns : List ByteArray} (hg : ∀ z ∈ kids.map (·.y), GoodI inf n z) (hn : NamesL (kids.map (·.y)) ns) {G : Nat → Nat → Prop} (hr : ∀ (i : Nat) c, kids[i]? = some c → Rep w c.cb c.y (G i)) : Nms w (kids.map (·.cb)) ns := by
 intro i e s h1 h2
 rw [List.getElem?_map] at h1
 cases hc : kids[i]? with
 | none => rw [hc] at h1; cases h1
 | some c =>
  rw [hc] at h1
  injection h1 with h1
  subst h1
  exact (hg c.y (List.mem_map_of_mem (List.mem_of_getElem? hc))).nm (hn.2.2.2 i c.y s (by rw [List.getElem?_map, hc]; rfl) h2) (hr i c hc)
theorem named_list {inf : Bool} {n : Nat} {w : World} {r b : Nat} {C : Value} {kids : List Kid} {F : Nat → Prop} {ns : List ByteArray} {G : Nat → Nat → Prop} (hrn : RNB w r b) (h : NodeB w b 2 noStr noStr C) (hrow : PRow w F C (kids.map (·.cb))) (hg : ∀ z ∈ kids.map (·.y), GoodI inf n z) (hn : NamesL (kids.map (·.y)) ns) (hr : ∀ (i : Nat) c, kids[i]? = some c → Rep w c.cb c.y (G i)) (hne : kids ≠ []) (hlen : kids.length ≤ 1000) :
  NLb w (some ⟨r, 0, none⟩) (kids.map (·.cb)) ns ∧ ListQ w (some ⟨r, 0, none⟩) := by
 have hl : ListAt w b C (kids.map (·.cb)) := ⟨h, F, hrow⟩
 have hlk : ns.length = kids.length := by have := hn.1; simpa using this
 have hpos : 0 < kids.length := List.length_pos_iff.2 hne
 refine ⟨.inr ⟨r, b, C, rfl, hrn, hl, by simp [hlk], by simpa using hlen, named_nms hg hn hr, hn.2.1, by omega⟩, r, b, C, _, rfl, hrn, hl, by simpa using hne, by simpa using hlen, ?_⟩
 intro e he
 obtain ⟨c, hcm, rfl⟩ := List.mem_map.1 he
 obtain ⟨i, hi⟩ := List.getElem?_of_mem hcm
 exact (hg c.y (List.mem_map_of_mem hcm)).nop (hn.lq (List.mem_map_of_mem hcm)) (hr i c hi)
theorem addN_sub {l acc : List ByteArray} (h : ∀ s ∈ l, s ∈ acc) : addN acc l = acc := by
 unfold addN
 induction l with
 | nil => rfl
 | cons a r ih =>
  simp only [List.foldl_cons]
  rw [if_pos (hasB_yes (h a (by simp)))]
  exact ih fun s hs => h s (by simp [hs])
theorem addN_new {l acc : List ByteArray} (h : (acc ++ l).Nodup) : addN acc l = acc ++ l := by
 unfold addN
 induction l generalizing acc with
 | nil => simp
 | cons a r ih =>
  simp only [List.foldl_cons]
  have hn : a ∉ acc := fun hm => by
   rw [List.nodup_append] at h
   exact h.2.2 a hm a (by simp) rfl
  rw [hasB_no hn, if_neg (by decide), ih (by simpa using h)]
  simp
theorem addN_nil {l : List ByteArray} (h : l.Nodup) : addN [] l = l := by
 have := addN_new (acc := []) (l := l) (by simpa using h)
 simpa using this
theorem nodup_idx {l : List ByteArray} (h : l.Nodup) {i j : Nat} {s : ByteArray} (hi : l[i]? = some s) (hj : l[j]? = some s) : i = j := by
 obtain ⟨h1, h2⟩ := List.getElem?_eq_some_iff.1 hi
 obtain ⟨h3, h4⟩ := List.getElem?_eq_some_iff.1 hj
 rw [List.nodup_iff_pairwise_ne, List.pairwise_iff_getElem] at h
 rcases Nat.lt_trichotomy i j with hl | hl | hl
 ·exact (h i j h1 h3 hl (h2.trans h4.symm)).elim
 ·exact hl
 ·exact (h j i h3 h1 hl (h4.trans h2.symm)).elim
theorem setN_same {bs : List Nat} {ns : List ByteArray} (hl : bs.length = ns.length) (hn : ns.Nodup) {i x : Nat} {s : ByteArray} (h1 : bs[i]? = some x) (h2 : ns[i]? = some s) : setN bs ns s x = bs := by
 refine List.ext_getElem? fun j => ?_
 by_cases hj : j < bs.length
 ·have hb := List.getElem?_eq_getElem hj
  have hs := List.getElem?_eq_getElem (show j < ns.length by omega)
  rw [setN_get hb hs, hb]
  by_cases he : (ns[j].toList == s.toList) = true
  ·rw [if_pos he]
   have := toList_inj (beq_iff_eq.1 he)
   rw [this] at hs
   have := nodup_idx hn hs h2
   subst this
   rw [hb] at h1
   rw [h1]
  ·rw [if_neg he]
 ·have h3 : (setN bs ns s x).length = bs.length := setN_len hl
  rw [List.getElem?_eq_none (by omega), List.getElem?_eq_none (by omega)]
theorem putAll_same {bs : List Nat} {ns : List ByteArray} (hl : bs.length = ns.length) (hn : ns.Nodup) : (bs.zip ns).foldl putL (bs, ns) = (bs, ns) := by
 have key : ∀ l : List (Nat × ByteArray), (∀ x ∈ l, ∃ i : Nat, bs[i]? = some x.1 ∧ ns[i]? = some x.2) → l.foldl putL (bs, ns) = (bs, ns) := by
  intro l
  induction l with
  | nil => intro _; rfl
  | cons a r ih =>
   intro h
   obtain ⟨i, h1, h2⟩ := h a (by simp)
   have : putL (bs, ns) a = (bs, ns) := by
    unfold putL
    rw [if_pos (hasB_yes (List.mem_of_getElem? h2))]
    simp only [setN_same hl hn h1 h2]
   rw [List.foldl_cons, this]
   exact ih fun x hx => h x (by simp [hx])
 refine key _ fun x hx => ?_
 obtain ⟨i, hi⟩ := List.getElem?_of_mem hx
 exact ⟨i, List.getElem?_zip_eq_some.1 hi⟩
structure GI (lim : Nat) (X : Nat → Prop) (kd : List Kid) (BF SF : Nat → Nat → Prop) (done : Nat → Prop) (G : Nat → Nat → Prop) (w : World) : Prop where
 rep : ∀ (i : Nat) c, kd[i]? = some c → Rep w c.cb c.y (G i)
 foot : ∀ i, i < kd.length → ∀ k, G i k → (BF i k ∨ SF i k ∨ lim ≤ k) ∧ k < w.heap.size ∧ ¬ X k
 old : ∀ i, i < kd.length → ¬ done i → ∀ k, G i k → BF i k
 dis : ∀ i i', i < kd.length → i' < kd.length → i ≠ i' → ∀ k, G i k → G i' k → False
variable {lim : Nat} {X : Nat → Prop} {kd : List Kid} {BF SF : Nat → Nat → Prop} {done : Nat → Prop} {G : Nat → Nat → Prop} {w w' : World}
theorem GI.frame (h : GI lim X kd BF SF done G w) (hs : w.heap.size ≤ w'.heap.size) (hm : ∀ i, i < kd.length → ∀ k, G i k → TB w k → w'.heap[k]? = w.heap[k]?) : GI lim X kd BF SF done G w' :=
 ⟨fun i c hc => (h.rep i c hc).step (hm i (List.getElem?_eq_some_iff.1 hc).1), fun i hi k hk => by obtain ⟨h1, h2, h3⟩ := h.foot i hi k hk; exact ⟨h1, by omega, h3⟩, h.old, h.dis⟩
theorem GI.under (h : GI lim X kd BF SF done G w) (hb : Below w.heap.size w w') : GI lim X kd BF SF done G w' :=
 h.frame hb.size fun i hi k hk _ => hb.block k (h.foot i hi k hk).2.1
theorem GI.keep (h : GI lim X kd BF SF done G w) {T : Nat → Prop} (hk : Keep T w w') (hT : ∀ i, i < kd.length → ∀ k, G i k → TB w k → ¬ T k) : GI lim X kd BF SF done G w' :=
 h.frame hk.size fun i hi k hG ht => hk.block k ht.lt (hT i hi k hG ht)
structure GS (lim : Nat) (X : Nat → Prop) (kd : List Kid) (BF SF : Nat → Nat → Prop) : Prop where
 bs : ∀ i i' k, BF i k → SF i' k → False
 ss : ∀ i i' k, i ≠ i' → SF i k → SF i' k → False
 slt : ∀ i k, SF i k → k < lim ∧ ¬ X k
 blt : ∀ i k, BF i k → k < lim
theorem GI.step (h : GI lim X kd BF SF done G w) (hS : GS lim X kd BF SF) {j : Nat} {c : Kid} (hj : kd[j]? = some c) (hnd : ¬ done j) (hlim : lim ≤ w.heap.size) (hX : ∀ k, w.heap.size ≤ k → ¬ X k) {T : Nat → Prop} (hk : Keep (fun k => G j k ∨ T k) w w') (hT : ∀ k, T k → ¬ TB w k) (hr : Rep w' c.cb c.y (fun k => G j k ∨ SF j k ∨ (w.heap.size ≤ k ∧ k < w'.heap.size))) :
  GI lim X kd BF SF (fun i => done i ∨ i = j) (fun i k => G i k ∨ i = j ∧ (SF j k ∨ (w.heap.size ≤ k ∧ k < w'.heap.size))) w' := by
 have hjl : j < kd.length := (List.getElem?_eq_some_iff.1 hj).1
 have hsz := hk.size
 have hno : ∀ i, i < kd.length → i ≠ j → ∀ k, G i k → (SF j k ∨ (w.heap.size ≤ k ∧ k < w'.heap.size)) → False := by
  intro i hi hij k hG hq
  obtain ⟨h1, h2, _⟩ := h.foot i hi k hG
  rcases hq with hq | hq
  ·rcases h1 with h1 | h1 | h1
   ·exact hS.bs _ _ _ h1 hq
   ·exact hS.ss _ _ _ hij h1 hq
   ·have := (hS.slt _ _ hq).1; omega
  ·omega
 refine ⟨fun i c' hc' => ?_, fun i hi k hk' => ?_, fun i hi hn k hk' => ?_, fun i i' hi hi' hne k h1 h2 => ?_⟩
 ·by_cases hij : i = j
  ·subst hij
   rw [hj] at hc'
   injection hc' with hc'
   subst hc'
   exact hr.mono fun k hk => hk.imp id fun hk => ⟨rfl, hk⟩
  ·have hil := (List.getElem?_eq_some_iff.1 hc').1
   refine ((h.rep i c' hc').step fun k hG ht => hk.block k ht.lt ?_).mono fun k hk => .inl hk
   rintro (h1 | h1)
   ·exact h.dis i j hil hjl hij k hG h1
   ·exact hT k h1 ht
 ·rcases hk' with hk' | ⟨rfl, hk' | hk'⟩
  ·obtain ⟨h1, h2, h3⟩ := h.foot i hi k hk'
   exact ⟨h1, by omega, h3⟩
  ·obtain ⟨h1, h2⟩ := hS.slt _ _ hk'
   exact ⟨.inr (.inl hk'), by omega, h2⟩
  ·exact ⟨.inr (.inr (by omega)), hk'.2, hX k hk'.1⟩
 ·rcases hk' with hk' | ⟨rfl, _⟩
  ·exact h.old i hi (fun hd => hn (.inl hd)) k hk'
  ·exact absurd (.inr rfl) hn
 ·rcases h1 with h1 | ⟨rfl, h1⟩
  ·rcases h2 with h2 | ⟨rfl, h2⟩
   ·exact h.dis i i' hi hi' hne k h1 h2
   ·exact hno i hi hne k h1 h2
  ·rcases h2 with h2 | ⟨rfl, h2⟩
   ·exact hno i' hi' (fun e => hne e.symm) k h2 h1
   ·exact hne rfl
def kidsG (f : Kid → (Nat → Prop) → Nat → Prop) (kd : List Kid) (G : Nat → Nat → Prop) : List Kid := kd.mapIdx fun i c => ⟨c.key, c.kb, c.cb, c.y, f c (G i)⟩
theorem kidsG_map {α : Type} {f : Kid → (Nat → Prop) → Nat → Prop} {kd : List Kid} {G : Nat → Nat → Prop} (g : Kid → α) (hg : ∀ c F, g ⟨c.key, c.kb, c.cb, c.y, F⟩ = g c) : (kidsG f kd G).map g = kd.map g := by
 refine List.ext_getElem? fun i => ?_
 unfold kidsG
 rw [List.getElem?_map, List.getElem?_map, List.getElem?_mapIdx]
 cases kd[i]? with
 | none => rfl
 | some c => exact congrArg some (hg c _)
theorem kidsG_two {f : Kid → (Nat → Prop) → Nat → Prop} {kd : List Kid} {G : Nat → Nat → Prop} : (kidsG f kd G).flatMap Kid.two = kd.flatMap Kid.two := by
 rw [List.flatMap_def, List.flatMap_def, kidsG_map Kid.two fun c F => rfl]
theorem kidsG_mem {f : Kid → (Nat → Prop) → Nat → Prop} {kd : List Kid} {G : Nat → Nat → Prop} {c : Kid} (h : c ∈ kidsG f kd G) : ∃ (i : Nat) (c0 : Kid), kd[i]? = some c0 ∧ c = ⟨c0.key, c0.kb, c0.cb, c0.y, f c0 (G i)⟩ := by
 obtain ⟨i, hi⟩ := List.getElem?_of_mem h
 unfold kidsG at hi
 rw [List.getElem?_mapIdx] at hi
 cases hk : kd[i]? with
 | none => rw [hk] at hi; cases hi
 | some c0 =>
  rw [hk] at hi
  injection hi with hi
  exact ⟨i, c0, hk, hi.symm⟩
theorem kidsG_pair {f : Kid → (Nat → Prop) → Nat → Prop} {kd : List Kid} {G : Nat → Nat → Prop} (h : ∀ (i i' : Nat) c c', i < i' → kd[i]? = some c → kd[i']? = some c' → ∀ k, f c (G i) k → f c' (G i') k → False) : (kidsG f kd G).Pairwise fun c d => ∀ k, c.F k → d.F k → False := by
 rw [List.pairwise_iff_getElem]
 intro i i' hi hi' hlt k h1 h2
 have hi0 : i < kd.length := by unfold kidsG at hi; simpa using hi
 have hi1 : i' < kd.length := by unfold kidsG at hi'; simpa using hi'
 simp only [kidsG, List.getElem_mapIdx] at h1 h2
 exact h i i' _ _ hlt (List.getElem?_eq_getElem hi0) (List.getElem?_eq_getElem hi1) k h1 h2
end Go.Proofs.YtghmajlfmoggfaaGreat
namespace Go.Proofs.YtghmajlfmoggfaaGreat
open Go.RowKit Go.Proofs.YtghmajlfmoggfaaGreatW.PrintWords Go.Proofs.YtghmajlfmoggfaaGreatW.PrintLast PFnMerge
def AtQ (w : World) (q : Option Addr) (b : Nat) : Prop := ∃ r, q = some ⟨r, 0, none⟩ ∧ RNB w r b
theorem AtQ.under {w w' : World} {q : Option Addr} {b : Nat} (h : AtQ w q b) (hb : Below w.heap.size w w') : AtQ w' q b := by
 obtain ⟨r, h1, h2⟩ := h
 exact ⟨r, h1, h2.under hb⟩
def YQ (w : World) (y : S25) (dp sp : Option Addr) (b : Nat) (F : Nat → Prop) (bs : Nat) (Fs : Nat → Prop) : Prop :=
 (bs = b ∧ (∀ k, ¬ Fs k) ∧ SelfQ w dp sp b) ∨ (AtQ w dp b ∧ AtQ w sp bs ∧ Rep w bs y Fs ∧ (∀ k, Fs k → TB w k) ∧ ∀ k, F k → Fs k → False)
def YR (w : World) (sb : Nat) (path : Value) (b bs : Nat) (y : S25) (F Fs : Nat → Prop) (q : Option Addr) (w' : World) : Prop :=
 ∃ r b', q = some ⟨r, 0, none⟩ ∧ RNB w' r b' ∧ Rep w' b' y (fun k => F k ∨ Fs k ∨ (w.heap.size ≤ k ∧ k < w'.heap.size)) ∧ Shape9 w w' ∧
  (b' = b ∧ Keep (fun k => F k ∨ k = sb ∨ path.ownBlock = some k) w w' ∨ b' = bs ∧ y.f0 ≠ 2 ∧ Rep w' bs y Fs ∧ Keep (fun k => k = sb ∨ path.ownBlock = some k) w w')
def YC (inf : Bool) (d : Nat) : Prop := ∀ (y : S25), GoodI inf d y → ∀ (w : World) (b : Nat) (F : Nat → Prop) (bs : Nat) (Fs : Nat → Prop), Rep w b y F → (∀ k, F k → TB w k) → ∀ (dp sp : Option Addr), YQ w y dp sp b F bs Fs → ∀ (V path : Value) (sb c n m : Nat), SrcAt w sb dp sp → 2 ≤ c → VisW w m V → m + d ≤ 300 → PathOk w path n → n + d ≤ 1000 →
 Calls Tryz.prog 38 #[wkV V path (.int .i64 0) sb c inf] w fun e w' => ∃ q, e = .returned (.tuple #[.pointer q, .nilIface]) ∧ YR w sb path b bs y F Fs q w'
theorem YQ.kind {w : World} {y : S25} {dp sp : Option Addr} {b bs : Nat} {F Fs : Nat → Prop} (h : YQ w y dp sp b F bs Fs) {n : Nat} (hg : Good n y) (hr : Rep w b y F) {sb c : Nat} {V path mo : Value} {infer : Bool} (hs : SrcAt w sb dp sp) :
  (∀ w', Below w.heap.size w w' → Calls Tryz.prog 45 #[wkV V path mo sb c infer] w' fun e w'' => e = .returned (.int .u32 (kindN y.f0)) ∧ Below w'.heap.size w' w'') ∧
  (∀ w', Below w.heap.size w w' → Calls Tryz.prog 46 #[.int .u32 (kindN y.f0), .slice (some ⟨sb, 0, none⟩) 2 c] w' fun e w'' => e = .returned .nilIface ∧ w' = w'') ∧ NodeQ w dp ∧ NodeQ w sp := by
 rcases h with ⟨_, _, h⟩ | ⟨⟨rd, rfl, h1⟩, ⟨rs, rfl, h2⟩, h3, _, _⟩
 ·exact h.kind hg hr hs
 ·obtain ⟨d1, d2⟩ := hg.live hr h1
  obtain ⟨s1, s2⟩ := hg.live h3 h2
  exact ⟨fun w' hb => kind45_d w' (hs.under hb) (d1.under hb), fun w' hb => any46 w' (hs.under hb) (.inr (d1.under hb)) (.inr (s1.under hb)), d2, s2⟩
def KidSrc (w : World) (ks : List Kid) (name : ByteArray) (kid : Kid) (Fc : Nat → Prop) (vb : Nat) (Fs : Nat → Prop) : Prop :=
 (vb = kid.cb ∧ (∀ k, ¬ Fs k) ∧ (ks.find? (hasKey name) = none ∨ ∃ s, ks.find? (hasKey name) = some s ∧ s.cb = kid.cb)) ∨
  ∃ s, ks.find? (hasKey name) = some s ∧ s.cb = vb ∧ Rep w vb kid.y Fs ∧ (∀ k, Fs k → TB w k) ∧ ∀ k, Fc k → Fs k → False
theorem y_step {inf : Bool} {d : Nat} (ih : YC inf d) {w' : World} {b r0 sb c n m vb : Nat} {C : Value} {kids ks : List Kid} {kid : Kid} {sp : Option Addr} {V path : Value} {name : List UInt8} {wb : Nat} {Fc Fs : Nat → Prop}
  (hs : SrcAt w' sb (some ⟨r0, 0, none⟩) sp) (hr : RNB w' r0 b) (hm : MapAt w' b C kids) (hks : KidsQ w' sp ks) (hbox : w'.heap[wb]? = some (.cells #[V, .pointer none, .slice (some ⟨sb, 0, none⟩) 2 c, path, .bool inf, .bool false, .int .i64 0] 66 (0, 0)))
  (hf : kids.find? (hasKey ⟨name.toArray⟩) = some kid) (hsrc : KidSrc w' ks ⟨name.toArray⟩ kid Fc vb Fs) (hne : (⟨name.toArray⟩ : ByteArray).toList.isEmpty = false) (hg : GoodI inf d kid.y) (hrd : Rep w' kid.cb kid.y Fc)
  (hFc : ∀ k, Fc k → TB w' k) (hb : ¬ Fc b) (hC : ∀ k, C.ownBlock = some k → ¬ Fc k) (hkb : ∀ c' ∈ kids, ¬ Fc c'.kb)
  (hV : VisW w' m V) (hmd : m + d + 1 ≤ 300) (hp : PathOk w' path n) (hnd : n + d + 1 ≤ 1000) :
  Calls Tryz.prog 61 #[wkV V path (.int .i64 0) sb c inf, .string ⟨name.toArray⟩] w' fun e w1 => ∃ g cap sm, e = .returned (.tuple #[.slice (some ⟨g, 0, none⟩) 2 cap, .pointer none, .map (some sm)]) ∧ PathOk w1 path n ∧
   w1.heap[wb]? = some (.cells #[V, .pointer none, .slice (some ⟨sb, 0, none⟩) 2 c, path, .bool inf, .bool false, .int .i64 0] 66 (0, 0)) ∧ ∀ path' w2, PathApp w1 w2 path path' n → Calls Tryz.prog 38 #[wkV (.iface 66 (wkV V path (.int .i64 0) sb c inf)) path' (.int .i64 0) g cap inf] w2 fun e w3 => ∃ q, e = .returned (.tuple #[.pointer q, .nilIface]) ∧ StyM w3 sm ∧ PtrQ w3 q ∧
    ∀ fb w4, Below w3.heap.size w3 w4 → w4.cell? ⟨fb, 0, none⟩ = some (.iface 104 (fsV ⟨name.toArray⟩ q)) → Calls Tryz.prog 62 #[.pointer (some ⟨r0, 0, none⟩), .slice (some ⟨fb, 0, none⟩) 1 1] w4 fun e w5 => ∃ q', e = .returned (.tuple #[.pointer q', .nilIface]) ∧
     Rep w5 kid.cb kid.y (fun k => Fc k ∨ Fs k ∨ (w'.heap.size ≤ k ∧ k < w5.heap.size)) ∧ Keep (fun k => Fc k ∨ path.ownBlock = some k) w' w5 ∧ Shape9 w' w5 := by
 refine (fieldValue61c w' hs (.inr ⟨r0, b, C, rfl, hr, hm⟩) hks).mono ?_
 rintro e w1 ⟨g, cap, sm, dv, sv, rfl, ⟨hcap, hge⟩, hB1, hs1, hst1, hfd, hfs⟩
 have hp1 := hp.shape (Shape9.of_below hB1)
 refine ⟨g, cap, sm, rfl, hp1, (hB1.block _ (lt_of_block hbox)).trans hbox, ?_⟩
 intro path' w2 happ
 have sf2 := hp1.soft
 have hs2 : SrcAt w2 g dv sv := happ.keep.src hs1 (src_ne_path hs1 hp1)
 have hrd2 := hp1.spares.rep happ.keep (hrd.under hB1)
 have hm2 := hp1.spares.map happ.keep (hm.under hB1)
 have hFc2 : ∀ k, Fc k → TB w2 k := fun k hk => ((hFc k hk).under hB1).keep happ.keep (hp1.spares k ((hFc k hk).under hB1))
 obtain ⟨vr, rfl, hvr⟩ := hfd.2 kid hf
 have hq2 : YQ w2 kid.y (some ⟨vr, 0, none⟩) sv kid.cb Fc vb Fs := by
  rcases hsrc with ⟨e1, e2, h⟩ | ⟨s, h1, h2, h3, h4, h5⟩
  ·refine .inl ⟨e1, e2, .inr ⟨vr, rfl, sf2.rnb happ.keep hvr⟩, ?_, by rintro ⟨h, _⟩; cases h⟩
   rcases h with hn | ⟨s, hs', hcb⟩
   ·exact .inl (hfs.1 hn)
   ·obtain ⟨vs, h1, h2⟩ := hfs.2 s hs'
    rw [hcb] at h2
    exact .inr ⟨vs, h1, sf2.rnb happ.keep h2⟩
  ·obtain ⟨vs, rfl, hvs⟩ := hfs.2 s h1
   rw [h2] at hvs
   exact .inr ⟨⟨vr, rfl, sf2.rnb happ.keep hvr⟩, ⟨vs, rfl, sf2.rnb happ.keep hvs⟩, hp1.spares.rep happ.keep (h3.under hB1), fun k hk => ((h4 k hk).under hB1).keep happ.keep (hp1.spares k ((h4 k hk).under hB1)), h5⟩
 have hV2 : VisW w2 m V := (hV.mono (K66.of_below hB1)).mono (K66.of_keep happ.keep fun k hk cs he => by
  obtain ⟨xs, h⟩ := hp1
  obtain ⟨cells, hc⟩ := own_typed h k hk
  rw [hc] at he
  injection he with he
  injection he with _ he
  cases he)
 have hFs2 := hq2
 refine (ih kid.y hg w2 kid.cb Fc vb Fs hrd2 hFc2 _ _ hq2 (.iface 66 (wkV V path (.int .i64 0) sb c inf)) path' g cap (n + 1) (m + 1) hs2 hcap hV2.nest (by omega) happ.ok (by omega)).mono ?_
 rintro e w3 ⟨q, rfl, r', b', rfl, hr3, hrep3, hsh3, halt⟩
 have sfp : Soft w2 fun k => k = g ∨ path'.ownBlock = some k := hs2.soft.or happ.ok.soft
 have spp : Spares w2 fun k => k = g ∨ path'.ownBlock = some k := hs2.spares.or happ.ok.spares
 have sf3 : Soft w2 fun k => Fc k ∨ k = g ∨ path'.ownBlock = some k := (tb_soft hFc2).or sfp
 have hk3 : Keep (fun k => Fc k ∨ k = g ∨ path'.ownBlock = some k) w2 w3 := by
  rcases halt with ⟨_, h⟩ | ⟨_, _, _, h⟩
  ·exact h
  ·exact h.mono fun k _ h => .inr h
 refine ⟨_, rfl, sf3.sty hk3 (sf2.sty happ.keep hst1), .inr ⟨r', _, _, rfl, hr3⟩, ?_⟩
 intro fb w4 hB4 hcell
 have hr4 : RNB w4 r0 b := (sf3.rnb hk3 (sf2.rnb happ.keep (hr.under hB1))).under hB4
 have hnp : ∀ k, TB w2 k → ¬ Fc k → ¬ (Fc k ∨ k = g ∨ path'.ownBlock = some k) := fun k ht hn h => h.elim hn (spp k ht)
 obtain ⟨Fr, hrow2⟩ := hm2.row
 have hm3 : MapAt w3 b C kids := hm2.keepx hk3 (hnp b hm2.node.tb hb) (fun k hk => hnp k (hrow2.bound.1 k hk).2 (hC k hk)) fun c' hc' => hnp _ (hm2.keys c' hc').tb (hkb c' hc')
 have hm4 := hm3.under hB4
 have k1 : Keep (fun k => Fc k ∨ path.ownBlock = some k) w' w2 := (Keep.of_below hB1 (fun k => Fc k ∨ path.ownBlock = some k)).trans happ.keep fun k _ hk => .inr hk
 have k2 : Keep (fun k => Fc k ∨ path.ownBlock = some k) w' w3 := k1.trans hk3 fun k hk hT => by
  rcases hT with hT | rfl | hT
  ·exact .inl hT
  ·omega
  ·rcases happ.at_ with h | ⟨k', h, hk'⟩
   ·rw [← h]; exact .inr hT
   ·rw [h] at hT; injection hT with hT; subst hT
    have := hB1.size
    omega
 have k4 := k2.then hB4
 have hsz := k4.size
 have hsz1 : w'.heap.size ≤ w2.heap.size := k1.size
 have hsh4 := ((((Shape9.of_below hB1).trans happ.shape).trans hsh3).trans (Shape9.of_below hB4))
 have hrep4 := hrep3.under hB4
 have hB4s := hB4.size
 obtain ⟨k, tag, val, A, l, c', hn1, hn2, hn3, _⟩ := hg.good.node hrep4
 have hsame : b' = kid.cb → Calls Tryz.prog 62 #[.pointer (some ⟨r0, 0, none⟩), .slice (some ⟨fb, 0, none⟩) 1 1] w4 fun e w5 => ∃ q', e = .returned (.tuple #[.pointer q', .nilIface]) ∧ Rep w5 kid.cb kid.y (fun k => Fc k ∨ Fs k ∨ (w'.heap.size ≤ k ∧ k < w5.heap.size)) ∧ Keep (fun k => Fc k ∨ path.ownBlock = some k) w' w5 ∧ Shape9 w' w5 := by
  rintro rfl
  have hset := set_found (kd := noStr) (c1 := noStr) (c2 := noStr) (c3 := noStr) w4 hr4 hm4 hne hf hn1 hn2 (hr3.under hB4) hn1 hn2 hn3
  refine (pipe1 (fun q' w5 => _) w4 hr4 hm4.node rfl hcell (meth187 _ _ _ _ _ _ _ _ _) enter187 (hset.mono ?_))
  rintro e w5 ⟨q', rfl, hn5, hk5⟩
  have hk5' := hk5.same (hn5.trans hn1.symm)
  have hs5 := hk5'.size
  refine ⟨q', rfl, ((Spares.none w4).rep hk5' hrep4).mono fun k hk => hk.imp id fun hk => hk.imp id fun hk => ⟨by omega, by omega⟩, k4.trans hk5' fun k _ h => h.elim, hsh4.trans (Shape9.of_keep hk5' fun _ _ h => h.elim)⟩
 rcases halt with ⟨e1, _⟩ | ⟨e1, _, hrb3, hk3'⟩
 ·exact hsame e1
 ·rcases hFs2 with ⟨e2, _, _⟩ | ⟨_, _, hrs2, hFs2, hdis⟩
  ·exact hsame (e1.trans e2)
  subst e1
  have hrd4 := (spp.rep hk3' hrd2).under hB4
  have hrs4 := hrb3.under hB4
  have hFs4 : ∀ k, Fs k → TB w4 k := fun k hk => ((hFs2 k hk).keep hk3' (spp k (hFs2 k hk))).under hB4
  obtain ⟨k0, tag0, val0, A0, l0, c0, hd1, hd2, hd3, _⟩ := hg.good.node hrd4
  have hset := set_found (kd := noStr) (c1 := noStr) (c2 := noStr) (c3 := noStr) w4 hr4 hm4 hne hf hd1 hd2 (hr3.under hB4) hn1 hn2 hn3
  refine (pipe1 (fun q' w5 => _) w4 hr4 hm4.node rfl hcell (meth187 _ _ _ _ _ _ _ _ _) enter187 (hset.mono ?_))
  rintro e w5 ⟨q', rfl, hn5, hk5⟩
  have hrc := hrd.root
  refine ⟨q', rfl, ?_, k4.trans hk5 fun k _ h => .inl (by rw [h]; exact hrc), hsh4.trans (Shape9.of_keep hk5 ?_)⟩
  ·have hcp := hrs4.copy (b := kid.cb) (hn5.trans hn1.symm) fun k hk hne => by
    have hkc : k ≠ kid.cb := by rintro rfl; exact hdis _ hrc hk
    exact ⟨hkc, hk5.block k (hFs4 k hk).lt hkc⟩
   refine hcp.mono fun k hk => ?_
   rcases hk with rfl | hk
   ·exact .inl hrc
   ·exact .inr (.inl hk.1)
  ·rintro k cur rfl hc
   have := hd1
   rw [NodeB, hc] at this
   injection this with this
   injection this with _ this
   cases this
theorem RNB.spare {w w' : World} {r b : Nat} {T : Nat → Prop} (h : RNB w r b) (hk : Keep T w w') (hT : ∀ k, T k → TB w k ∨ ∃ cs, w.heap[k]? = some (.cells cs 47 (0, 0))) : RNB w' r b := by
 refine hk.at_ h fun hT' => ?_
 rcases hT _ hT' with h1 | ⟨cs, h1⟩
 ·exact tb_ne h1 (by decide) h
 ·unfold RNB at h
  rw [h1] at h
  injection h with h
  injection h with _ h
  cases h
structure SrcD (inf : Bool) (d : Nat) (w : World) (sb b : Nat) (kids : List Kid) (ns : List ByteArray) (F Fs : Nat → Prop) (sp : Option Addr) (sl : List Nat) (sn : List ByteArray) (SF : Nat → Nat → Prop) (vb : Nat → Nat) : Prop where
 names : sn = [] ∨ sn = ns
 nl : ∀ w' C, Keep (fun k => F k ∨ k = sb) w w' → NodeB w' b 2 noStr noStr C → (∃ F, PRow w' F C (kids.map (·.cb))) → (∃ G : Nat → Nat → Prop, ∀ (i : Nat) c, kids[i]? = some c → Rep w' c.cb c.y (G i)) → NLb w' sp sl sn ∧ (sp = none ∨ ListQ w' sp)
 elem : ∀ w' (j : Nat) c s q1 q2 (G : Nat → Prop), Keep (fun k => F k ∨ k = sb) w w' → kids[j]? = some c → ns[j]? = some s → (∀ k, G k → F k) → EQ (kids.map (·.cb)) ns s q1 w' → EQ sl sn s q2 w' → YQ w' c.y q1 q2 c.cb G (vb j) (SF j)
 sf : ∀ i k, SF i k → Fs k ∧ k < w.heap.size ∧ ¬ F k
 ss : ∀ i i' k, i ≠ i' → SF i k → SF i' k → False
theorem EQ.at {bs : List Nat} {ns : List ByteArray} {s : ByteArray} {q : Option Addr} {w : World} (h : EQ bs ns s q w) {j b : Nat} (h1 : bs[j]? = some b) (h2 : ns[j]? = some s) : AtQ w q b := by
 obtain ⟨r, h3, h4⟩ := h.1 j b h1 h2
 exact ⟨r, h3, h4⟩
theorem src3 {inf : Bool} {d : Nat} {w : World} {sb b bs : Nat} {kids : List Kid} {ns : List ByteArray} {F Fs : Nat → Prop} {dp sp : Option Addr} (hs : SrcAt w sb dp sp) (htb : ∀ k, F k → TB w k) (hne : kids ≠ []) (hlen : kids.length ≤ 250) (hn : NamesL (kids.map (·.y)) ns) (hg : ∀ z ∈ kids.map (·.y), GoodI inf d z)
  (hq : YQ w ⟨3, noStr, noStr, [], kids.map (·.y)⟩ dp sp b F bs Fs) : ∃ sl sn SF vb, SrcD inf d w sb b kids ns F Fs sp sl sn SF vb := by
 have h47 : ∀ k, (F k ∨ k = sb) → TB w k ∨ ∃ cs, w.heap[k]? = some (.cells cs 47 (0, 0)) := by
  rintro k (h | rfl)
  ·exact .inl (htb k h)
  ·obtain ⟨cur, h, _⟩ := hs
   exact .inr ⟨cur, h⟩
 have hat : ∀ {w' q x}, Keep (fun k => F k ∨ k = sb) w w' → AtQ w q x → AtQ w' q x := by
  rintro w' q x hk ⟨r, h1, h2⟩
  exact ⟨r, h1, h2.spare hk h47⟩
 have hcb : ∀ {j : Nat} {c : Kid}, kids[j]? = some c → (kids.map (·.cb))[j]? = some c.cb := fun h => by rw [List.getElem?_map, h]; rfl
 rcases hq with ⟨rfl, hF0, _, h2, _⟩ | ⟨h1, h2, h3, h4, h5⟩
 ·rcases h2 with rfl | ⟨r, rfl, h2⟩
  ·refine ⟨[], [], fun _ _ => False, fun j => ((kids.map (·.cb))[j]?).getD 0, .inl rfl, fun _ _ _ _ _ _ => ⟨.inl ⟨rfl, rfl, rfl⟩, .inl rfl⟩, ?_, fun _ _ h => h.elim, fun _ _ _ _ h => h.elim⟩
   intro w' j c s q1 q2 G hk hj hs' hG e1 e2
   obtain ⟨r', h3, h4⟩ := e1.at (hcb hj) hs'
   refine .inl ⟨by rw [hcb hj]; rfl, fun _ h => h, .inr ⟨r', h3, h4⟩, .inl (e2.2 (by simp)), ?_⟩
   rintro ⟨h5, _⟩
   rw [h3] at h5
   cases h5
  ·refine ⟨kids.map (·.cb), ns, fun _ _ => False, fun j => ((kids.map (·.cb))[j]?).getD 0, .inr rfl, ?_, ?_, fun _ _ h => h.elim, fun _ _ _ _ h => h.elim⟩
   ·rintro w' C hk hn' ⟨F', hrow⟩ ⟨G, hG⟩
    obtain ⟨h3, h4⟩ := named_list (h2.spare hk h47) hn' hrow hg hn hG hne (by omega)
    exact ⟨h3, .inr h4⟩
   ·intro w' j c s q1 q2 G hk hj hs' hG e1 e2
    obtain ⟨r', h3, h4⟩ := e1.at (hcb hj) hs'
    obtain ⟨r2, h5, h6⟩ := e2.at (hcb hj) hs'
    refine .inl ⟨by rw [hcb hj]; rfl, fun _ h => h, .inr ⟨r', h3, h4⟩, .inr ⟨r2, h5, h6⟩, ?_⟩
    rintro ⟨h7, _⟩
    rw [h3] at h7
    cases h7
 ·obtain ⟨rs, rfl, hrs⟩ := h2
  generalize hy : (⟨3, noStr, noStr, [], kids.map (·.y)⟩ : S25) = y at h3
  cases h3 with
  | sc _ text tag _ h hF => cases hy
  | mp _ C ks _ h hF hr hd hk hc => cases hy
  | sq _ Cs ks _ h hF hr hd hk hc =>
   injection hy with _ _ _ _ hy
   have hkl : ks.length = kids.length := by
    have := congrArg List.length hy
    simpa using this.symm
   have hS : Spares w fun k => k = sb := hs.spares
   have hst : ∀ {w'}, Keep (fun k => F k ∨ k = sb) w w' → ∀ k, Fs k → w'.heap[k]? = w.heap[k]? := fun hk k hF => hk.block k (h4 k hF).lt fun hT => hT.elim (fun h => h5 k h hF) (hS k (h4 k hF))
   have hrep : ∀ {w'}, Keep (fun k => F k ∨ k = sb) w w' → ∀ c ∈ ks, Rep w' c.cb c.y c.F := fun hk c hcm => (hc c hcm).move fun k hF => hst hk k (by have := hk; exact (‹∀ c ∈ ks, ∀ k, c.F k → Fs k ∧ k ≠ bs ∧ Cs.ownBlock ≠ some k› c hcm k hF).1)
   refine ⟨ks.map (·.cb), ns, fun i k => ∃ s, ks[i]? = some s ∧ s.F k, fun j => ((ks.map (·.cb))[j]?).getD 0, .inr rfl, ?_, ?_, ?_, ?_⟩
   ·rintro w' C hk' _ _ _
    have hrow' : PRow w' (fun k => Fs k ∧ k ≠ bs) Cs (ks.map (·.cb)) := hr.move fun k hF => hst hk' k hF.1
    obtain ⟨h6, h7⟩ := named_list (G := fun i k => ∃ s, ks[i]? = some s ∧ s.F k) (hrs.spare hk' h47) (h.move (hst hk' bs hF)) hrow' (hy ▸ hg) (hy ▸ hn) (fun i c hi => (hrep hk' c (List.mem_of_getElem? hi)).mono fun k hF => ⟨c, hi, hF⟩) (by rintro rfl; simp at hkl; exact hne (List.length_eq_zero_iff.1 hkl.symm)) (by omega)
    exact ⟨h6, .inr h7⟩
   ·intro w' j c s q1 q2 G hk' hj hs' hG e1 e2
    have hj2 : j < ks.length := by have := (List.getElem?_eq_some_iff.1 hj).1; omega
    have hjs := List.getElem?_eq_getElem hj2
    have hcy : c.y = ks[j].y := by
     have h6 := congrArg (fun l => l[j]?) hy
     simp only [List.getElem?_map, hj, hjs, Option.map_some] at h6
     injection h6
    have hcb2 : (ks.map (·.cb))[j]? = some ks[j].cb := by rw [List.getElem?_map, hjs]; rfl
    refine .inr ⟨e1.at (hcb hj) hs', ?_, ?_, ?_, ?_⟩
    ·rw [hcb2]
     exact e2.at hcb2 hs'
    ·rw [hcb2, hcy]
     exact (hrep hk' _ (List.getElem_mem hj2)).mono fun k hF => ⟨_, hjs, hF⟩
    ·rintro k ⟨s', h6, h7⟩
     have h8 := (hk s' (List.mem_of_getElem? h6) k h7).1
     obtain ⟨cs, t, h9, h10⟩ := h4 k h8
     exact ⟨cs, t, (hst hk' k h8).trans h9, h10⟩
    ·rintro k hGk ⟨s', h6, h7⟩
     exact h5 k (hG k hGk) (hk s' (List.mem_of_getElem? h6) k h7).1
   ·rintro i k ⟨s', h6, h7⟩
    have h8 := (hk s' (List.mem_of_getElem? h6) k h7).1
    exact ⟨h8, (h4 k h8).lt, fun h => h5 k h h8⟩
   ·rintro i i' k hii ⟨s1, h6, h7⟩ ⟨s2, h8, h9⟩
    obtain ⟨l1, e1⟩ := List.getElem?_eq_some_iff.1 h6
    obtain ⟨l2, e2⟩ := List.getElem?_eq_some_iff.1 h8
    rw [List.pairwise_iff_getElem] at hd
    rw [← e1] at h7
    rw [← e2] at h9
    rcases Nat.lt_trichotomy i i' with h | h | h
    ·exact hd i i' l1 l2 h k h7 h9
    ·exact hii h
    ·exact hd i' i l2 l1 h k h9 h7
structure ListR (w : World) (b : Nat) (C : Value) (kids : List Kid) (F : Nat → Prop) : Prop where
 node : NodeB w b 2 noStr noStr C
 root : F b
 row : PRow w (fun k => F k ∧ k ≠ b) C (kids.map (·.cb))
 dis : kids.Pairwise fun c d => ∀ k, c.F k → d.F k → False
 kid : ∀ c ∈ kids, ∀ k, c.F k → F k ∧ k ≠ b ∧ C.ownBlock ≠ some k
 rep : ∀ c ∈ kids, Rep w c.cb c.y c.F
theorem ListR.step {w w' : World} {b : Nat} {C : Value} {kids : List Kid} {F : Nat → Prop} (h : ListR w b C kids F) (hm : ∀ k, F k → w'.heap[k]? = w.heap[k]?) : ListR w' b C kids F :=
 ⟨h.node.move (hm b h.root), h.root, h.row.move fun k hk => hm k hk.1, h.dis, h.kid, fun c hc => (h.rep c hc).move fun k hk => hm k (h.kid c hc k hk).1⟩
theorem ListR.idx {w : World} {b : Nat} {C : Value} {kids : List Kid} {F : Nat → Prop} (h : ListR w b C kids F) {i i' : Nat} {c c' : Kid} (h1 : kids[i]? = some c) (h2 : kids[i']? = some c') (hne : i ≠ i') : ∀ k, c.F k → c'.F k → False := by
 obtain ⟨l1, e1⟩ := List.getElem?_eq_some_iff.1 h1
 obtain ⟨l2, e2⟩ := List.getElem?_eq_some_iff.1 h2
 have hd := h.dis
 rw [List.pairwise_iff_getElem] at hd
 subst e1
 subst e2
 intro k h3 h4
 rcases Nat.lt_trichotomy i i' with h | h | h
 ·exact hd i i' l1 l2 h k h3 h4
 ·exact hne h
 ·exact hd i' i l2 l1 h k h4 h3
def BFk (kids : List Kid) (i k : Nat) : Prop := ∃ c, kids[i]? = some c ∧ c.F k
structure InvL (W : World) (b : Nat) (C : Value) (kids : List Kid) (ns : List ByteArray) (F : Nat → Prop) (SF : Nat → Nat → Prop) (bi : Nat) (P : List ByteArray) (E : List Nat) (w' : World) : Prop where
 p : P = ns.take P.length
 e : E = (kids.map (·.cb)).take P.length
 pl : P.length ≤ ns.length
 lo : W.heap.size ≤ bi
 hi : bi < w'.heap.size
 keep : Keep (fun k => F k ∧ k ≠ b ∧ C.ownBlock ≠ some k) W w'
 gi : ∃ G, GI W.heap.size (fun k => k = bi) kids (BFk kids) SF (fun i => i < P.length) G w'
theorem same68 {d : Nat} (ih : YC true d) {W : World} {b c m lb sb rd : Nat} {C V path : Value} {kids : List Kid} {F Fs : Nat → Prop} {ns : List ByteArray} {sp : Option Addr} {sl : List Nat} {sn : List ByteArray} {SF : Nat → Nat → Prop} {vb : Nat → Nat}
  (hL : ListR W b C kids F) (htb : ∀ k, F k → TB W k) (hne : kids ≠ []) (hlen : kids.length ≤ 250) (hn : NamesL (kids.map (·.y)) ns) (hg : ∀ z ∈ kids.map (·.y), GoodI true d z) (hD : SrcD true d W sb b kids ns F Fs sp sl sn SF vb)
  (hrd : RNB W rd b) (hs : SrcAt W sb (some ⟨rd, 0, none⟩) sp) (hV : VisW W m V) (hm : m + d + 1 ≤ 300) (hd : d ≤ 1000) (hbx : W.heap[lb]? = some (.cells #[V, .pointer none, .slice (some ⟨sb, 0, none⟩) 2 c, path, .bool true, .bool false, .int .i64 0] 66 (0, 0))) :
  H68 W (fun k => F k ∧ k ≠ b ∧ C.ownBlock ≠ some k) lb sb c rd b V path C true sp (kids.map (·.cb)) sl ns sn ns (InvL W b C kids ns F SF) ∧
   ∀ e w', Set68 (InvL W b C kids ns F SF) rd b C (kids.map (·.cb)) ns ns e w' → RNB w' rd b ∧ Rep w' b ⟨3, noStr, noStr, [], kids.map (·.y)⟩ (fun k => F k ∨ Fs k ∨ (W.heap.size ≤ k ∧ k < w'.heap.size)) ∧ Keep F W w' := by
 have hnl : ns.length = kids.length := by have := hn.1; simpa using this
 have hFlt : ∀ k, F k → k < W.heap.size := fun k hk => (htb k hk).lt
 have hcidx : ∀ {i : Nat} {c : Kid}, kids[i]? = some c → c ∈ kids := fun h => List.mem_of_getElem? h
 have hGS : ∀ bi, W.heap.size ≤ bi → GS W.heap.size (fun k => k = bi) kids (BFk kids) SF := fun bi hbi =>
  ⟨fun i i' k ⟨c, h1, h2⟩ h3 => (hD.sf i' k h3).2.2 (hL.kid c (hcidx h1) k h2).1, hD.ss, fun i k h => ⟨(hD.sf i k h).2.1, fun e => by have := (hD.sf i k h).2.1; omega⟩, fun i k ⟨c, h1, h2⟩ => hFlt k (hL.kid c (hcidx h1) k h2).1⟩
 have hsbF : ∀ k, (F k ∧ k ≠ b ∧ C.ownBlock ≠ some k) → k ≠ sb := fun k h e => hs.spares k (htb k h.1) e
 have h47 : ∀ k, (F k ∧ k ≠ b ∧ C.ownBlock ≠ some k) → TB W k ∨ ∃ cs, W.heap[k]? = some (.cells cs 47 (0, 0)) := fun k h => .inl (htb k h.1)
 have hknode : ∀ {w'}, Keep (fun k => F k ∧ k ≠ b ∧ C.ownBlock ≠ some k) W w' → NodeB w' b 2 noStr noStr C ∧ PRow w' (fun k => F k ∧ k ≠ b) C (kids.map (·.cb)) := fun hk =>
  ⟨hL.node.move (hk.block b hL.node.lt fun h => h.2.1 rfl), hL.row.1, own_move hL.row.2 fun k e => hk.block k (own_lt hL.row.2 k e) fun h => h.2.2 e⟩
 have hkF : ∀ {w'}, Keep (fun k => F k ∧ k ≠ b ∧ C.ownBlock ≠ some k) W w' → Keep (fun k => F k ∨ k = sb) W w' := fun hk => hk.mono fun k _ h => .inl h.1
 refine ⟨⟨hbx, fun k h => htb k h.1, hL.node.lt, hn.2.2.1, hn.2.1, by rw [List.length_map]; omega, by rw [List.length_map]; omega, ?_, ?_, ?_, ?_, ?_, ?_⟩, ?_⟩
 ·rintro bi P E w' w'' h hb
  obtain ⟨G, hG⟩ := h.gi
  exact ⟨h.p, h.e, h.pl, h.lo, Nat.lt_of_lt_of_le h.hi hb.size, h.keep.then hb, G, hG.under hb⟩
 ·rintro bi P E w' h
  obtain ⟨G, hG⟩ := h.gi
  refine ⟨h.keep, ?_, ?_⟩
  ·have h1 := h.pl
   rw [h.e, List.length_take, List.length_map]
   omega
  ·have h0 := named_nms hg hn hG.rep
   intro i x s h1 h2
   rw [h.e] at h1
   rw [h.p] at h2
   have h3 := (List.getElem?_eq_some_iff.1 h1).1
   rw [List.length_take] at h3
   rw [List.getElem?_take_of_lt (by omega)] at h1 h2
   exact h0 i x s h1 h2
 ·rintro bi P E w' w'' h hlo hk _
  obtain ⟨G, hG⟩ := h.gi
  refine ⟨h.p, h.e, h.pl, h.lo, Nat.lt_of_lt_of_le h.hi hk.size, h.keep.trans hk fun k hl e => by omega, G, hG.keep hk fun i hi k hGk _ e => (hG.foot i hi k hGk).2.2 e⟩
 ·rintro bi w1 hb hlo hhi
  refine ⟨rfl, rfl, Nat.zero_le _, hlo, hhi, Keep.of_below hb _, BFk kids, ?_, ?_, fun i hi _ k h => h, ?_⟩
  ·intro i c hc
   exact ((hL.rep c (hcidx hc)).mono fun k hk => ⟨c, hc, hk⟩).move fun k ⟨c', h1, h2⟩ => hb.block k (hFlt k (hL.kid c' (hcidx h1) k h2).1)
  ·rintro i hi k ⟨c, h1, h2⟩
   have := hFlt k (hL.kid c (hcidx h1) k h2).1
   have := hb.size
   exact ⟨.inl ⟨c, h1, h2⟩, by omega, by omega⟩
  ·rintro i i' hi hi' hne k ⟨c, h1, h2⟩ ⟨c', h3, h4⟩
   exact hL.idx h1 h3 hne k h2 h4
 ·rintro bi P E w' h
  obtain ⟨G, hG⟩ := h.gi
  obtain ⟨hnb, hrow⟩ := hknode h.keep
  have hrd' := hrd.spare h.keep h47
  refine ⟨h.keep.src hs fun e => hsbF sb e rfl, (named_list hrd' hnb hrow hg hn hG.rep hne (by omega)).1, (hD.nl w' C (hkF h.keep) hnb ⟨_, hrow⟩ ⟨G, hG.rep⟩).1, hrd', ⟨hnb, _, hrow⟩, named_nms hg hn hG.rep⟩
 ·rintro bi P s rest E w' hP h hlo hhi w3 g cap q1 q2 hb3 hs3 hcap hg3 e1 e2
  obtain ⟨G, hG⟩ := h.gi
  have hk3 := h.keep.then hb3
  have hG3 := hG.under hb3
  have hPl : P.length < ns.length := by rw [← hP]; simp
  obtain ⟨cd, hcd⟩ : ∃ cd, kids[P.length]? = some cd := ⟨_, List.getElem?_eq_getElem (by omega)⟩
  have hsn : ns[P.length]? = some s := by rw [← hP]; simp
  have hcb : (kids.map (·.cb))[P.length]? = some cd.cb := by rw [List.getElem?_map, hcd]; rfl
  have hcdm := hcidx hcd
  have hgc := hg cd.y (List.mem_map_of_mem hcdm)
  have h0 := hn.lq (List.mem_map_of_mem hcdm)
  have hjl : P.length < kids.length := by omega
  have hGF : ∀ k, G P.length k → cd.F k := fun k hk => by
   obtain ⟨c', h1, h2⟩ := hG.old P.length hjl (by omega) k hk
   rw [hcd] at h1
   injection h1 with h1
   subst h1
   exact h2
  have hGF2 : ∀ k, G P.length k → F k ∧ k ≠ b ∧ C.ownBlock ≠ some k := fun k hk => hL.kid cd hcdm k (hGF k hk)
  have hyq := hD.elem w3 P.length cd s q1 q2 (fun k => G P.length k ∧ TB w3 k) (hkF hk3) hcd hsn (fun k hk => (hGF2 k hk.1).1) e1 e2
  have hV3 : VisW w3 m V := hV.mono (K66.of_keep hk3 fun k hk cs => tb_ne (htb k hk.1) (by decide))
  have hbx3 := hk3.at_ hbx fun hT => tb_ne (htb _ hT.1) (by decide) hbx
  refine (ih cd.y hgc w3 cd.cb _ (vb P.length) (SF P.length) (hG3.rep P.length cd hcd).bound (fun k hk => hk.2) q1 q2 hyq (.iface 107 (.pointer (some ⟨lb, 0, none⟩))) (.slice none 0 0) g cap 0 (m + 1) hs3 hcap (hV3.ptr hbx3) (by omega) (PathOk.nil w3) (by omega)).mono ?_
  rintro e w4 ⟨q, rfl, r, b', rfl, hr4, hrep4, hsh4, halt⟩
  obtain ⟨rfl, hk4⟩ : b' = cd.cb ∧ Keep (fun k => (G P.length k ∧ TB w3 k) ∨ k = g ∨ (Value.slice none 0 0).ownBlock = some k) w3 w4 := by
   rcases halt with h | ⟨_, h, _⟩
   ·exact h
   ·exact absurd h0 h
  have hno : ∀ k, (Value.slice none 0 0).ownBlock ≠ some k := fun k => by simp [Value.ownBlock]
  have hk4' : Keep (fun k => G P.length k ∨ k = g) w3 w4 := hk4.mono fun k _ h => h.elim (fun h => .inl h.1) fun h => h.elim .inr fun h => absurd h (hno k)
  have hGI4 := hG3.step (hGS bi h.lo) hcd (by omega) (Nat.le_trans h.keep.size hb3.size) (fun k hk e => by have := h.hi; have := hb3.size; omega) hk4' (fun k hk ht => hs3.spares k ht hk) (hrep4.mono fun k hk => hk.imp (fun h => h.1) id)
  have hgw : W.heap.size ≤ g := Nat.le_trans h.keep.size hg3
  refine ⟨r, cd.cb, rfl, hr4, ?_, ⟨?_, ?_, ?_, h.lo, ?_, ?_, ?_⟩, ?_⟩
  ·obtain ⟨k, tag, val, A, l, c', hn1, _, _, _, hn5⟩ := hgc.good.node hrep4
   generalize hy : cd.y = y at hrep4 h0
   cases hrep4 with
   | sc _ _ _ _ h _ => simp at h0
   | sq _ _ _ _ h _ _ _ _ _ => simp at h0
   | mp _ C' _ _ h _ _ _ _ _ => exact ⟨C', h⟩
  ·have h1 : (P ++ [s]).length = P.length + 1 := by simp
   rw [h1, List.take_add_one, hsn, ← h.p]
   rfl
  ·have h1 : (P ++ [s]).length = P.length + 1 := by simp
   rw [h1, List.take_add_one, hcb, ← h.e]
   rfl
  ·simp
   omega
  ·exact Nat.lt_of_lt_of_le h.hi (Nat.le_trans hb3.size hk4.size)
  ·exact hk3.trans hk4' fun k hl hk => hk.elim (fun hk => hGF2 k hk) fun e => by omega
  ·refine ⟨_, hGI4.rep, hGI4.foot, fun i hi hnd => hGI4.old i hi fun hd => hnd ?_, hGI4.dis⟩
   simp only [List.length_append, List.length_singleton]
   omega
  ·refine hk4.mono fun k _ h => ?_
   rcases h with h | h | h
   ·exact .inl ⟨hFlt k (hGF2 k h.1).1, h.2⟩
   ·exact .inr h
   ·exact absurd h (hno k)
 ·rintro e w' ⟨_, bi, E, w1, hI, hP⟩
  obtain ⟨G, hG⟩ := hI.gi
  have hE : E = kids.map (·.cb) := by rw [hI.e, List.take_of_length_le (by rw [List.length_map]; omega)]
  have hlk : (kids.map (·.cb)).length = ns.length := by rw [List.length_map]; omega
  rw [hE, putAll_same hlk hn.2.1] at hP
  obtain ⟨C', hl', hown⟩ := hP.list
  have hbW : b < W.heap.size := hL.node.lt
  have hsz1 := hI.keep.size
  have hszP := hP.keep.size
  have hcls : ∀ i, i < kids.length → ∀ k, G i k → (F k ∧ k ≠ b ∧ C.ownBlock ≠ some k ∨ SF i k ∨ W.heap.size ≤ k) ∧ k < w1.heap.size := fun i hi k hk => by
   obtain ⟨h1, h2, _⟩ := hG.foot i hi k hk
   refine ⟨h1.imp ?_ id, h2⟩
   rintro ⟨c, h3, h4⟩
   exact hL.kid c (hcidx h3) k h4
  have hGb : ∀ i, i < kids.length → ∀ k, G i k → k ≠ b := fun i hi k hk e => by
   subst e
   rcases (hcls i hi _ hk).1 with h | h | h
   ·exact h.2.1 rfl
   ·exact (hD.sf i _ h).2.2 hL.root
   ·omega
  have hG' := hG.keep hP.keep fun i hi k hk _ => hGb i hi k hk
  have hCown : ∀ k, C.ownBlock = some k → F k ∧ k ≠ b := hL.row.1
  obtain ⟨F0, hrow'⟩ := hl'.row
  have hG4 : ∀ (i : Nat) c, kids[i]? = some c → Rep w' c.cb c.y (G i) := hG'.rep
  have hm1 : (kidsG (fun _ G => G) kids G).map (·.cb) = kids.map (·.cb) := kidsG_map (fun c => c.cb) fun c F => rfl
  have hm2 : (kidsG (fun _ G => G) kids G).map (·.y) = kids.map (·.y) := kidsG_map (fun c => c.y) fun c F => rfl
  have hCnew : ∀ k, C'.ownBlock = some k → (F k ∨ Fs k ∨ (W.heap.size ≤ k ∧ k < w'.heap.size)) ∧ k ≠ b := fun k e => by
   have hlt := own_lt hrow'.2 k e
   rcases hown with h | h
   ·rw [h] at e
    exact ⟨.inl (hCown k e).1, (hCown k e).2⟩
   ·have := h k e
    exact ⟨.inr (.inr ⟨by omega, hlt⟩), by omega⟩
  refine ⟨(hrd.spare hI.keep h47).spare hP.keep ?_, ?_, (hI.keep.mono fun k _ h => h.1).trans hP.keep fun k _ e => e ▸ hL.root⟩
  ·rintro k rfl
   exact .inl (hknode hI.keep).1.tb
  ·rw [← hm2]
   refine Rep.sq b C' _ _ hl'.node (.inl hL.root) ⟨fun k e => hCnew k e, by rw [hm1]; exact hrow'.2⟩ (kidsG_pair fun i i' c c' hlt hi hi' k h1 h2 => ?_) (fun c hc k hk => ?_) fun c hc => ?_
   ·exact hG.dis i i' (List.getElem?_eq_some_iff.1 hi).1 (List.getElem?_eq_some_iff.1 hi').1 (by omega) k h1 h2
   ·obtain ⟨i, c0, hi, rfl⟩ := kidsG_mem hc
    have hil := (List.getElem?_eq_some_iff.1 hi).1
    obtain ⟨h1, h2⟩ := hcls i hil k hk
    refine ⟨?_, hGb i hil k hk, fun e => ?_⟩
    ·rcases h1 with h | h | h
     ·exact .inl h.1
     ·exact .inr (.inl (hD.sf i k h).1)
     ·exact .inr (.inr ⟨h, by omega⟩)
    ·rcases hown with h | h
     ·rw [h] at e
      have h5 := (hCown k e).1
      rcases h1 with h3 | h3 | h3
      ·exact h3.2.2 e
      ·exact (hD.sf i k h3).2.2 h5
      ·have := hFlt k h5
       omega
     ·have := h k e
      omega
   ·obtain ⟨i, c0, hi, rfl⟩ := kidsG_mem hc
    exact hG4 i c0 hi
structure MapR (w : World) (b : Nat) (C : Value) (kids : List Kid) (F : Nat → Prop) : Prop where
 node : NodeB w b 4 noStr noStr C
 root : F b
 row : PRow w (fun k => F k ∧ k ≠ b) C (kids.flatMap Kid.two)
 dis : kids.Pairwise fun c d => ∀ k, c.F k → d.F k → False
 kid : ∀ c ∈ kids, NodeB w c.kb 8 noStr c.key nilS ∧ c.F c.kb ∧ ∀ k, c.F k → F k ∧ k ≠ b ∧ C.ownBlock ≠ some k
 rep : ∀ c ∈ kids, Rep w c.cb c.y (fun k => c.F k ∧ k ≠ c.kb)
theorem MapR.at {w : World} {b : Nat} {C : Value} {kids : List Kid} {F : Nat → Prop} (h : MapR w b C kids F) : MapAt w b C kids := ⟨h.node, ⟨_, h.row⟩, fun c hc => (h.kid c hc).1⟩
theorem MapR.idx {w : World} {b : Nat} {C : Value} {kids : List Kid} {F : Nat → Prop} (h : MapR w b C kids F) {i i' : Nat} {c c' : Kid} (h1 : kids[i]? = some c) (h2 : kids[i']? = some c') (hne : i ≠ i') : ∀ k, c.F k → c'.F k → False := by
 obtain ⟨l1, e1⟩ := List.getElem?_eq_some_iff.1 h1
 obtain ⟨l2, e2⟩ := List.getElem?_eq_some_iff.1 h2
 have hd := h.dis
 rw [List.pairwise_iff_getElem] at hd
 subst e1
 subst e2
 intro k h3 h4
 rcases Nat.lt_trichotomy i i' with h | h | h
 ·exact hd i i' l1 l2 h k h3 h4
 ·exact hne h
 ·exact hd i' i l2 l1 h k h4 h3
theorem MapR.kb_ne {w : World} {b : Nat} {C : Value} {kids : List Kid} {F : Nat → Prop} (h : MapR w b C kids F) {c c' : Kid} (hc : c ∈ kids) (hc' : c' ∈ kids) {k : Nat} (hk : c.F k ∧ k ≠ c.kb) : k ≠ c'.kb := by
 rintro rfl
 obtain ⟨i, hi⟩ := List.getElem?_of_mem hc
 obtain ⟨i', hi'⟩ := List.getElem?_of_mem hc'
 by_cases e : i = i'
 ·subst e
  rw [hi] at hi'
  injection hi' with hi'
  subst hi'
  exact hk.2 rfl
 ·exact h.idx hi hi' e _ hk.1 (h.kid c' hc').2.1
def TV (b : Nat) (C : Value) (kids : List Kid) (F : Nat → Prop) (k : Nat) : Prop := F k ∧ k ≠ b ∧ C.ownBlock ≠ some k ∧ ∀ c ∈ kids, k ≠ c.kb
def BMk (kids : List Kid) (i k : Nat) : Prop := ∃ c, kids[i]? = some c ∧ c.F k ∧ k ≠ c.kb
theorem MapR.tv {w : World} {b : Nat} {C : Value} {kids : List Kid} {F : Nat → Prop} (h : MapR w b C kids F) {i k : Nat} (hk : BMk kids i k) : TV b C kids F k := by
 obtain ⟨c, h1, h2, h3⟩ := hk
 have hm := List.mem_of_getElem? h1
 obtain ⟨h4, h5, h6⟩ := (h.kid c hm).2.2 k h2
 exact ⟨h4, h5, h6, fun c' hc' => h.kb_ne hm hc' ⟨h2, h3⟩⟩
theorem MapR.stay {w w' : World} {b sb : Nat} {C path : Value} {kids : List Kid} {F : Nat → Prop} (h : MapR w b C kids F) (hS : Spares w fun k => k = sb ∨ path.ownBlock = some k) (hk : Keep (fun k => TV b C kids F k ∨ k = sb ∨ path.ownBlock = some k) w w') : MapAt w' b C kids := by
 have hrb := h.row.bound
 refine h.at.keepx hk ?_ ?_ ?_
 ·rintro (h1 | h1)
  ·exact h1.2.1 rfl
  ·exact hS b h.node.tb h1
 ·rintro k e (h1 | h1)
  ·exact h1.2.2.1 e
  ·exact hS k (hrb.1 k e).2 h1
 ·rintro c hc (h1 | h1)
  ·exact h1.2.2.2 c hc rfl
  ·exact hS _ (h.kid c hc).1.tb h1
structure SrcM (w : World) (b sb : Nat) (C path : Value) (kids : List Kid) (F Fs : Nat → Prop) (sp : Option Addr) (ks : List Kid) (SF : Nat → Nat → Prop) (vb : Nat → Nat) : Prop where
 keys : ks = [] ∨ ks.map (·.key) = kids.map (·.key)
 kq : ∀ w', Keep (fun k => TV b C kids F k ∨ k = sb ∨ path.ownBlock = some k) w w' → MapAt w' b C kids → KidsQ w' sp ks ∧ SrcKeys w' sp (ks.map (·.key))
 src : ∀ w' (j : Nat) c (G : Nat → Prop), Keep (fun k => TV b C kids F k ∨ k = sb ∨ path.ownBlock = some k) w w' → kids[j]? = some c → (∀ k, G k → F k) → KidSrc w' ks c.key c G (vb j) (SF j)
 sf : ∀ i k, SF i k → Fs k ∧ k < w.heap.size ∧ ¬ F k
 ss : ∀ i i' k, i ≠ i' → SF i k → SF i' k → False
theorem srcM {w : World} {sb b bs n : Nat} {C path : Value} {kids : List Kid} {F Fs : Nat → Prop} {dp sp : Option Addr} (hs : SrcAt w sb dp sp) (hp : PathOk w path n) (htb : ∀ k, F k → TB w k) (hlen : kids.length ≤ 1000) (hn : (kids.map (·.key)).Nodup)
  (hq : YQ w ⟨2, noStr, noStr, kids.map (·.key), kids.map (·.y)⟩ dp sp b F bs Fs) : ∃ ks SF vb, SrcM w b sb C path kids F Fs sp ks SF vb := by
 have hS : Spares w fun k => k = sb ∨ path.ownBlock = some k := hs.spares.or hp.spares
 have hT : Soft w fun k => TV b C kids F k ∨ k = sb ∨ path.ownBlock = some k := (tb_soft (F := TV b C kids F) fun k h => htb k h.1).or (hs.soft.or hp.soft)
 have hcb : ∀ {j : Nat} {c : Kid}, kids[j]? = some c → (kids.map (·.cb))[j]? = some c.cb := fun h => by rw [List.getElem?_map, h]; rfl
 rcases hq with ⟨rfl, hF0, _, h2, _⟩ | ⟨h1, h2, h3, h4, h5⟩
 ·rcases h2 with rfl | ⟨r, rfl, h2⟩
  ·refine ⟨[], fun _ _ => False, fun j => ((kids.map (·.cb))[j]?).getD 0, .inl rfl, fun _ _ _ => ⟨.inl ⟨rfl, rfl⟩, .inl ⟨rfl, rfl⟩⟩, ?_, fun _ _ h => h.elim, fun _ _ _ _ h => h.elim⟩
   intro w' j c G hk hj hG
   exact .inl ⟨by rw [hcb hj]; rfl, fun _ h => h, .inl rfl⟩
  ·refine ⟨kids, fun _ _ => False, fun j => ((kids.map (·.cb))[j]?).getD 0, .inr rfl, ?_, ?_, fun _ _ h => h.elim, fun _ _ _ _ h => h.elim⟩
   ·intro w' hk hm
    exact ⟨.inr ⟨r, _, C, rfl, hT.rnb hk h2, hm⟩, SrcKeys.of_map (hT.rnb hk h2) hm (by omega)⟩
   ·intro w' j c G hk hj hG
    exact .inl ⟨by rw [hcb hj]; rfl, fun _ h => h, .inr ⟨c, find_of_nodup hn (List.mem_of_getElem? hj), rfl⟩⟩
 ·obtain ⟨rs, rfl, hrs⟩ := h2
  generalize hy : (⟨2, noStr, noStr, kids.map (·.key), kids.map (·.y)⟩ : S25) = y at h3
  cases h3 with
  | sc _ text tag _ h hF => cases hy
  | sq _ C ks _ h hF hr hd hk hc => cases hy
  | mp _ Cs ks _ h hF hr hd hk hc =>
   injection hy with _ _ _ hy3 hy
   have hkl : ks.length = kids.length := by
    have := congrArg List.length hy
    simpa using this.symm
   have hst : ∀ {w'}, Keep (fun k => TV b C kids F k ∨ k = sb ∨ path.ownBlock = some k) w w' → ∀ k, Fs k → w'.heap[k]? = w.heap[k]? := fun hk k hF => hk.block k (h4 k hF).lt fun hT => hT.elim (fun h => h5 k h.1 hF) (hS k (h4 k hF))
   have hFs : ∀ c ∈ ks, ∀ k, c.F k → Fs k := fun c hc k h => ((hk c hc).2.2 k h).1
   refine ⟨ks, fun i k => ∃ s, ks[i]? = some s ∧ s.F k ∧ k ≠ s.kb, fun j => ((ks.map (·.cb))[j]?).getD 0, .inr hy3.symm, ?_, ?_, ?_, ?_⟩
   ·intro w' hk' _
    have hm' : MapAt w' bs Cs ks := ⟨h.move (hst hk' bs hF), ⟨_, hr.move fun k hF => hst hk' k hF.1⟩, fun c hc => (hk c hc).1.move (hst hk' _ (hFs c hc _ (hk c hc).2.1))⟩
    exact ⟨.inr ⟨rs, bs, Cs, rfl, hT.rnb hk' hrs, hm'⟩, SrcKeys.of_map (hT.rnb hk' hrs) hm' (by omega)⟩
   ·intro w' j c G hk' hj hG
    have hj2 : j < ks.length := by have := (List.getElem?_eq_some_iff.1 hj).1; omega
    have hjs := List.getElem?_eq_getElem hj2
    have hcy : c.y = ks[j].y := by
     have h6 := congrArg (fun l => l[j]?) hy
     simp only [List.getElem?_map, hj, hjs, Option.map_some] at h6
     injection h6
    have hck : c.key = ks[j].key := by
     have h6 := congrArg (fun l => l[j]?) hy3
     simp only [List.getElem?_map, hj, hjs, Option.map_some] at h6
     injection h6
    have hcb2 : (ks.map (·.cb))[j]? = some ks[j].cb := by rw [List.getElem?_map, hjs]; rfl
    have hjm : ks[j] ∈ ks := List.getElem_mem hj2
    refine .inr ⟨ks[j], ?_, by rw [hcb2]; rfl, ?_, ?_, ?_⟩
    ·rw [hck]
     exact find_of_nodup (by rw [← hy3]; exact hn) hjm
    ·rw [hcb2, hcy]
     exact ((hc _ hjm).move fun k hF => hst hk' k (hFs _ hjm k hF.1)).mono fun k hF => ⟨_, hjs, hF⟩
    ·rintro k ⟨s', h6, h7, _⟩
     have h8 := hFs s' (List.mem_of_getElem? h6) k h7
     obtain ⟨cs, t, h9, h10⟩ := h4 k h8
     exact ⟨cs, t, (hst hk' k h8).trans h9, h10⟩
    ·rintro k hGk ⟨s', h6, h7, _⟩
     exact h5 k (hG k hGk) (hFs s' (List.mem_of_getElem? h6) k h7)
   ·rintro i k ⟨s', h6, h7, _⟩
    have h8 := hFs s' (List.mem_of_getElem? h6) k h7
    exact ⟨h8, (h4 k h8).lt, fun h => h5 k h h8⟩
   ·rintro i i' k hii ⟨s1, h6, h7, _⟩ ⟨s2, h8, h9, _⟩
    obtain ⟨l1, e1⟩ := List.getElem?_eq_some_iff.1 h6
    obtain ⟨l2, e2⟩ := List.getElem?_eq_some_iff.1 h8
    rw [List.pairwise_iff_getElem] at hd
    rw [← e1] at h7
    rw [← e2] at h9
    rcases Nat.lt_trichotomy i i' with h | h | h
    ·exact hd i i' l1 l2 h k h7 h9
    ·exact hii h
    ·exact hd i' i l2 l1 h k h9 h7
theorem same_map {inf : Bool} {d : Nat} (ih : YC inf d) {w : World} {b c m n sb r0 : Nat} {C V path : Value} {kids ks : List Kid} {F Fs : Nat → Prop} {dp sp : Option Addr} {SF : Nat → Nat → Prop} {vb : Nat → Nat}
  (hM : MapR w b C kids F) (htb : ∀ k, F k → TB w k) (hlen : kids.length ≤ 1000) (hnod : (kids.map (·.key)).Nodup) (hkeys : ∀ k ∈ kids.map (·.key), k.toList.isEmpty = false ∧ k.size ≤ 1000000 ∧ (patchKey.toList == k.toList) = false) (hitems : ∀ z ∈ kids.map (·.y), GoodI inf d z)
  (hsm : SrcM w b sb C path kids F Fs sp ks SF vb) (hr0 : RNB w r0 b) (hvis : ∀ w1, Below w.heap.size w w1 → Calls Tryz.prog 159 #[.agg #[], .slice (some ⟨sb, 0, none⟩) 2 c, .pointer none] w1 fun e w2 => e = .returned (.tuple #[.pointer (some ⟨r0, 0, none⟩), .nilIface]) ∧ Below w1.heap.size w1 w2)
  (hs : SrcAt w sb dp sp) (hV : VisW w m V) (hmd : m + d + 1 ≤ 300) (hp : PathOk w path n) (hnd : n + d + 1 ≤ 1000) (w0 : World) (hb0 : Below w.heap.size w w0) :
  Calls Tryz.prog 47 #[wkV V path (.int .i64 0) sb c inf] w0 fun e w' => ∃ q, e = .returned (.tuple #[.pointer q, .nilIface]) ∧ q = some ⟨r0, 0, none⟩ ∧ RNB w' r0 b ∧ Rep w' b ⟨2, noStr, noStr, kids.map (·.key), kids.map (·.y)⟩ (fun k => F k ∨ Fs k ∨ (w.heap.size ≤ k ∧ k < w'.heap.size)) ∧ Keep (fun k => F k ∨ k = sb ∨ path.ownBlock = some k) w w' ∧ Shape9 w w' := by
 have hS : Spares w fun k => k = sb ∨ path.ownBlock = some k := hs.spares.or hp.spares
 have hT : Soft w fun k => TV b C kids F k ∨ k = sb ∨ path.ownBlock = some k := (tb_soft (F := TV b C kids F) fun k h => htb k h.1).or (hs.soft.or hp.soft)
 have hFlt : ∀ k, F k → k < w.heap.size := fun k hk => (htb k hk).lt
 have hGS : GS w.heap.size (fun _ => False) kids (BMk kids) SF :=
  ⟨fun i i' k h1 h3 => (hsm.sf i' k h3).2.2 (hM.tv h1).1, hsm.ss, fun i k h => ⟨(hsm.sf i k h).2.1, fun e => e⟩, fun i k h => hFlt k (hM.tv h).1⟩
 have hkl : ks.length ≤ 1000 := by
  rcases hsm.keys with h | h
  ·rw [h]; simp
  ·have := congrArg List.length h
   simp only [List.length_map] at this
   omega
 have hpl : ∀ k, path.ownBlock = some k → k < w0.heap.size := fun k hk => by have := hp.lt k hk; have := hb0.size; omega
 refine (walkMap47w (r := r0) (m := m) w0 (hV.mono (K66.of_below hb0)) (by omega) (n := n) (by omega) (hp.shape (Shape9.of_below hb0))
  (fun P w' => (∃ G, GI w.heap.size (fun _ => False) kids (BMk kids) SF (fun i => ∃ c, kids[i]? = some c ∧ c.key.data.toList ∈ P) G w') ∧ Keep (fun k => TV b C kids F k ∨ k = sb ∨ path.ownBlock = some k) w w' ∧ Shape9 w w' ∧ SrcAt w' sb (some ⟨r0, 0, none⟩) sp ∧ w'.heap[w0.heap.size]? = some (.cells #[V, .pointer none, .slice (some ⟨sb, 0, none⟩) 2 c, path, .bool inf, .bool false, .int .i64 0] 66 (0, 0)))
  (fun ns => ∀ x ∈ ns, ∃ k ∈ kids, k.key.data.toList = x) ?_ ?_ ?_ ?_ ?_).mono ?_
 ·exact fun w1 hb1 => hvis w1 (hb0.trans (hb1.mono hb0.size))
 ·intro w1 hb1 hbx
  have hb2 := hb0.trans (hb1.mono hb0.size)
  refine (setDest57 (q := some ⟨r0, 0, none⟩) w1 (hs.under hb2)).mono ?_
  rintro e w2 ⟨rfl, hs2, hk2⟩
  have hkw2 : Keep (fun k => k = sb) w w2 := (Keep.of_below hb2 _).trans hk2 fun k _ h => h
  refine ⟨rfl, ⟨BMk kids, ?_, ?_, fun i hi _ k h => h, ?_⟩, hkw2.mono fun k _ h => .inr (.inl h), (Shape9.of_below hb2).trans (Shape9.of_keep hk2 ?_), hs2, hk2.at_ hbx ?_⟩
  ·intro i c' hc
   exact (hs.spares.rep hkw2 (hM.rep c' (List.mem_of_getElem? hc))).mono fun k hk => ⟨c', hc, hk⟩
  ·intro i hi k h
   have := hFlt k (hM.tv h).1
   have := hkw2.size
   exact ⟨.inl h, by omega, fun e => e⟩
  ·rintro i i' hi hi' hne k ⟨c1, h1, h2, _⟩ ⟨c2, h3, h4, _⟩
   exact hM.idx h1 h3 hne k h2 h4
  ·rintro k cur rfl hc
   obtain ⟨cur', h1, _⟩ := hs.under hb2
   rw [h1] at hc
   injection hc with hc
   injection hc with _ hc
   cases hc
  ·intro e
   have := hs.lt
   have := hb0.size
   omega
 ·exact fun P w' h => h.2.2.2.2
 ·rintro w' ⟨⟨G, hG⟩, hkk, hsh, hsr, hbx⟩
  have hmw := hM.stay hS hkk
  have hd' : SrcKeys w' (some ⟨r0, 0, none⟩) (kids.map (·.key)) := SrcKeys.of_map (hT.rnb hkk hr0) hmw (by omega)
  have hs' := (hsm.kq w' hkk hmw).2
  have hsz : ∀ s ∈ kids.map (·.key), s.size ≤ maxLen := fun s hs => by have := (hkeys s hs).2.1; unfold maxLen; omega
  have hksz : ∀ s ∈ ks.map (·.key), s.size ≤ maxLen := by
   rcases hsm.keys with h | h
   ·rw [h]; simp
   ·rw [h]; exact hsz
  refine (fieldNames58 sortC w' hsr hd' hs' hsz hksz (by simp; omega) (by simp; omega)).mono ?_
  rintro e w'' ⟨g, cap, ns, rfl, hnod', hmem, _, hrow, hB⟩
  refine ⟨g, cap, ns, rfl, hnod', ?_, hrow, ⟨G, hG.under hB⟩, hkk.then hB, hsh.trans (Shape9.of_below hB), hsr.under hB, (hB.block _ (lt_of_block hbx)).trans hbx⟩
  intro x hx
  have hx2 : ∃ s ∈ kids.map (·.key), s.data.toList = x := by
   rcases (hmem x).1 hx with h | ⟨s, h1, h2⟩
   ·exact h
   ·rcases hsm.keys with h | h
    ·rw [h] at h1; simp at h1
    ·rw [h] at h1; exact ⟨s, h1, h2⟩
  obtain ⟨s, h1, h2⟩ := hx2
  obtain ⟨k, hkm, rfl⟩ := List.mem_map.1 h1
  exact ⟨k, hkm, h2⟩
 ·rintro P name rest w' hNm hNd ⟨⟨G, hG⟩, hk', hsh, hsr, hbx⟩
  have hmw := hM.stay hS hk'
  obtain ⟨k0, hk0, hk0n⟩ := hNm name (by simp)
  obtain ⟨kid, hf, hmem, hkey⟩ := find_key ⟨k0, hk0, key_of hk0n⟩
  obtain ⟨j, hj⟩ := List.getElem?_of_mem hmem
  have hjl := (List.getElem?_eq_some_iff.1 hj).1
  have hkl' : kid.key.data.toList = name := by rw [hkey]
  have hnP : name ∉ P := by
   intro hm
   rw [List.nodup_append] at hNd
   exact hNd.2.2 name hm name (by simp) rfl
  have hndone : ¬ ∃ c, kids[j]? = some c ∧ c.key.data.toList ∈ P := by
   rintro ⟨c', h1, h2⟩
   rw [hj] at h1
   injection h1 with h1
   subst h1
   rw [hkl'] at h2
   exact hnP h2
  have hne' : (⟨name.toArray⟩ : ByteArray).toList.isEmpty = false := by rw [← hkey]; exact (hkeys _ (List.mem_map_of_mem hmem)).1
  have hGF : ∀ k, G j k → TV b C kids F k := fun k hk => hM.tv (hG.old j hjl hndone k hk)
  have hsrc := hsm.src w' j kid (fun k => G j k ∧ TB w' k) hk' hj fun k hk => (hGF k hk.1).1
  rw [hkey] at hsrc
  have hpk := hp.shape hsh
  have hV' : VisW w' m V := hV.mono (K66.of_keep hk' fun k hk cs => by
   rcases hk with h | rfl | h
   ·exact tb_ne (htb k h.1) (by decide)
   ·obtain ⟨cur, h1, _⟩ := hs
    intro he
    rw [h1] at he
    injection he with he
    injection he with _ he
    cases he
   ·obtain ⟨xs, h1⟩ := hp
    obtain ⟨cells, hc⟩ := own_typed h1 k h
    intro he
    rw [hc] at he
    injection he with he
    injection he with _ he
    cases he)
  refine (y_step ih (wb := w0.heap.size) hsr (hT.rnb hk' hr0) hmw (hsm.kq w' hk' hmw).1 hbx hf hsrc hne' (hitems _ (List.mem_map_of_mem hmem)) (hG.rep j kid hj).bound (fun k hk => hk.2) (fun h => (hGF b h.1).2.1 rfl) (fun k e h => (hGF k h.1).2.2.1 e) (fun c' hc' h => (hGF _ h.1).2.2.2 c' hc' rfl) hV' (by omega) hpk (by omega)).mono ?_
  rintro e w1 ⟨g, cap, sm, rfl, h1, h2, h3⟩
  refine ⟨g, cap, sm, rfl, h1, h2, fun path' w2 happ => (h3 path' w2 happ).mono ?_⟩
  rintro e w3 ⟨q, rfl, h4, h5, h6⟩
  refine ⟨q, rfl, h4, h5, fun fb w4 hb4 hc4 => (h6 fb w4 hb4 hc4).mono ?_⟩
  rintro e w5 ⟨q', rfl, hrep5, hk5, hsh5⟩
  have hk5' : Keep (fun k => G j k ∨ path.ownBlock = some k) w' w5 := hk5.mono fun k _ h => h.imp (fun h => h.1) id
  have hG5 := hG.step hGS hj hndone hk'.size (fun k _ e => e) hk5' (fun k hk ht => hpk.spares k ht hk) (hrep5.mono fun k hk => hk.imp (fun h => h.1) id)
  have hbxtb : ¬ TB w' w0.heap.size := fun h => tb_ne h (by decide) hbx
  have hsbtb : ¬ TB w' sb := fun h => hsr.spares sb h rfl
  refine ⟨q', rfl, ⟨⟨_, hG5.rep, hG5.foot, fun i hi hnd' => hG5.old i hi fun hd => hnd' ?_, hG5.dis⟩, hk'.trans hk5' fun k _ h => h.imp (fun h => hGF k h) .inr, hsh.trans hsh5, hk5.src hsr fun h => h.elim (fun h => hsbtb h.2) (src_ne_path hsr hpk), hk5.at_ hbx fun h => h.elim (fun h => hbxtb h.2) fun h => by have := hpl _ h; omega⟩, hk5.mono fun k _ h => h.elim (fun h => .inr h.2) fun h => .inl (hpl k h)⟩
  rcases hd with ⟨c', h7, h8⟩ | rfl
  ·exact ⟨c', h7, by simp [h8]⟩
  ·exact ⟨kid, hj, by simp [hkl']⟩
 ·rintro e w' ⟨rfl, ns, _, _, ⟨G, hG⟩, hk', hsh, _, _⟩
  have hmw := hM.stay hS hk'
  have hm1 : (kidsG (fun c G k => k = c.kb ∨ G k) kids G).map (·.key) = kids.map (·.key) := kidsG_map (fun c => c.key) fun c F => rfl
  have hm2 : (kidsG (fun c G k => k = c.kb ∨ G k) kids G).map (·.y) = kids.map (·.y) := kidsG_map (fun c => c.y) fun c F => rfl
  have hlt : ∀ c ∈ kids, c.kb < w.heap.size := fun c hc => (hM.kid c hc).1.lt
  have hcls : ∀ i, i < kids.length → ∀ k, G i k → (TV b C kids F k ∨ SF i k ∨ w.heap.size ≤ k) ∧ k < w'.heap.size := fun i hi k hk => by
   obtain ⟨h1, h2, _⟩ := hG.foot i hi k hk
   exact ⟨h1.imp (fun h => hM.tv h) id, h2⟩
  have hFkb : ∀ c ∈ kids, F c.kb := fun c hc => ((hM.kid c hc).2.2 _ (hM.kid c hc).2.1).1
  have hGkb : ∀ i, i < kids.length → ∀ k, G i k → ∀ c ∈ kids, k ≠ c.kb := fun i hi k hk c hc e => by
   subst e
   rcases (hcls i hi _ hk).1 with h | h | h
   ·exact h.2.2.2 c hc rfl
   ·exact (hsm.sf i _ h).2.2 (hFkb c hc)
   ·have := hlt c hc; omega
  have hsz := hk'.size
  refine ⟨_, rfl, rfl, hT.rnb hk' hr0, ?_, hk'.mono fun k _ h => h.imp (fun h => h.1) id, hsh⟩
  rw [← hm1, ← hm2]
  obtain ⟨F0, hrow'⟩ := hmw.row
  refine Rep.mp b C _ _ hmw.node (.inl hM.root) ⟨fun k e => ⟨.inl (hM.row.1 k e).1, (hM.row.1 k e).2⟩, by rw [kidsG_two]; exact hrow'.2⟩ (kidsG_pair fun i i' c c' hlt' hi hi' k h1 h2 => ?_) (fun c hc => ?_) fun c hc => ?_
  ·have l1 := (List.getElem?_eq_some_iff.1 hi).1
   have l2 := (List.getElem?_eq_some_iff.1 hi').1
   rcases h1 with rfl | h1
   ·rcases h2 with h2 | h2
    ·have hc1 := List.mem_of_getElem? hi
     have hc2 := List.mem_of_getElem? hi'
     exact hM.idx hi hi' (by omega) _ (hM.kid c hc1).2.1 (by rw [h2]; exact (hM.kid c' hc2).2.1)
    ·exact hGkb i' l2 _ h2 c (List.mem_of_getElem? hi) rfl
   ·rcases h2 with rfl | h2
    ·exact hGkb i l1 _ h1 c' (List.mem_of_getElem? hi') rfl
    ·exact hG.dis i i' l1 l2 (by omega) k h1 h2
  ·obtain ⟨i, c0, hi, rfl⟩ := kidsG_mem hc
   have hil := (List.getElem?_eq_some_iff.1 hi).1
   have hcm := List.mem_of_getElem? hi
   refine ⟨hmw.keys c0 hcm, .inl rfl, ?_⟩
   rintro k (rfl | hk)
   ·have h1 := (hM.kid c0 hcm).2.2 _ (hM.kid c0 hcm).2.1
    exact ⟨.inl h1.1, h1.2.1, h1.2.2⟩
   ·obtain ⟨h1, h2⟩ := hcls i hil k hk
    rcases h1 with h | h | h
    ·exact ⟨.inl h.1, h.2.1, h.2.2.1⟩
    ·have h3 := hsm.sf i k h
     exact ⟨.inr (.inl h3.1), fun e => h3.2.2 (e ▸ hM.root), fun e => h3.2.2 (hM.row.1 k e).1⟩
    ·refine ⟨.inr (.inr ⟨h, h2⟩), fun e => ?_, fun e => ?_⟩
     ·have := hM.node.lt; omega
     ·have := hFlt k (hM.row.1 k e).1; omega
  ·obtain ⟨i, c0, hi, rfl⟩ := kidsG_mem hc
   have hil := (List.getElem?_eq_some_iff.1 hi).1
   refine (hG.rep i c0 hi).mono fun k hk => ⟨.inr hk, hGkb i hil k hk c0 (List.mem_of_getElem? hi)⟩
theorem y_leaf {w w' : World} {y : S25} {dp sp : Option Addr} {b bs sb : Nat} {F Fs : Nat → Prop} {path : Value} (hq : YQ w y dp sp b F bs Fs) (hr : Rep w b y F) (h0 : y.f0 ≠ 2) (hb : Below w.heap.size w w') : YR w sb path b bs y F Fs (sp.or dp) w' := by
 rcases hq with ⟨_, _, h⟩ | ⟨_, ⟨rs, rfl, h2⟩, h3, _, _⟩
 ·obtain ⟨r, h1, h2⟩ := h.or
  exact ⟨r, b, h1, h2.under hb, (hr.under hb).mono fun k h => .inl h, Shape9.of_below hb, .inl ⟨rfl, Keep.of_below hb _⟩⟩
 ·exact ⟨rs, bs, rfl, h2.under hb, (h3.under hb).mono fun k h => .inr (.inl h), Shape9.of_below hb, .inr ⟨rfl, h0, h3.under hb, Keep.of_below hb _⟩⟩
theorem YQ.under {w w' : World} {y : S25} {dp sp : Option Addr} {b bs : Nat} {F Fs : Nat → Prop} (hq : YQ w y dp sp b F bs Fs) (hb : Below w.heap.size w w') : YQ w' y dp sp b F bs Fs := by
 rcases hq with ⟨h1, h2, h⟩ | ⟨h1, h2, h3, h4, h5⟩
 ·exact .inl ⟨h1, h2, h.under hb⟩
 ·exact .inr ⟨h1.under hb, h2.under hb, h3.under hb, fun k h => (h4 k h).under hb, h5⟩
theorem YQ.first {w : World} {y : S25} {dp sp : Option Addr} {b bs : Nat} {F Fs : Nat → Prop} (hq : YQ w y dp sp b F bs Fs) : ∃ r, dp.or sp = some ⟨r, 0, none⟩ ∧ RNB w r b ∧ (dp = none ∨ dp = some ⟨r, 0, none⟩) ∧ ¬ (dp = none ∧ sp = none) := by
 rcases hq with ⟨_, _, h1, h2, h3⟩ | ⟨⟨r, rfl, h1⟩, _⟩
 ·rcases h1 with rfl | ⟨r, rfl, h1⟩
  ·rcases h2 with rfl | ⟨r, rfl, h2⟩
   ·exact absurd ⟨rfl, rfl⟩ h3
   ·exact ⟨r, rfl, h2, .inl rfl, h3⟩
  ·exact ⟨r, rfl, h1, .inr rfl, h3⟩
 ·exact ⟨r, rfl, h1, .inr rfl, by rintro ⟨h, _⟩; cases h⟩
theorem YQ.each {w : World} {y : S25} {dp sp : Option Addr} {b bs : Nat} {F Fs : Nat → Prop} (hq : YQ w y dp sp b F bs Fs) (hr : Rep w b y F) {Q : Option Addr → Prop} (h : ∀ r x G, RNB w r x → Rep w x y G → Q (some ⟨r, 0, none⟩)) : (dp = none ∨ Q dp) ∧ (sp = none ∨ Q sp) := by
 rcases hq with ⟨_, _, h1, h2, h3⟩ | ⟨⟨rd, rfl, h1⟩, ⟨rs, rfl, h2⟩, h3, _⟩
 ·refine ⟨h1.imp id ?_, h2.imp id ?_⟩
  ·rintro ⟨r, rfl, h4⟩
   exact h r b F h4 hr
  ·rintro ⟨r, rfl, h4⟩
   exact h r b F h4 hr
 ·exact ⟨.inr (h rd b F h1 hr), .inr (h rs bs Fs h2 h3)⟩
theorem src2_of {w : World} {an : Bool} {q : Option Addr} (h : q = none ∨ ∃ r, q = some ⟨r, 0, none⟩ ∧ LQ w r an) : Src2 w q an := h
theorem SrcD.move {inf : Bool} {d : Nat} {w w1 : World} {sb b : Nat} {kids : List Kid} {ns : List ByteArray} {F Fs : Nat → Prop} {sp : Option Addr} {sl : List Nat} {sn : List ByteArray} {SF : Nat → Nat → Prop} {vb : Nat → Nat} (h : SrcD inf d w sb b kids ns F Fs sp sl sn SF vb) (hk : Keep (fun k => F k ∨ k = sb) w w1) : SrcD inf d w1 sb b kids ns F Fs sp sl sn SF vb :=
 ⟨h.names, fun w' C hk' => h.nl w' C (hk.trans hk' fun k _ h => h), fun w' j c s q1 q2 G hk' => h.elem w' j c s q1 q2 G (hk.trans hk' fun k _ h => h), fun i k hs => by have h1 := h.sf i k hs; have := hk.size; exact ⟨h1.1, by omega, h1.2.2⟩, h.ss⟩
theorem same_named {d : Nat} (ih : YC true d) {w : World} {b bs c m n sb lb : Nat} {C V path : Value} {kids : List Kid} {F Fs : Nat → Prop} {dp sp : Option Addr} {ns : List ByteArray}
  (hL : ListR w b C kids F) (htb : ∀ k, F k → TB w k) (hne : kids ≠ []) (hlen : kids.length ≤ 250) (hn : NamesL (kids.map (·.y)) ns) (hg : ∀ z ∈ kids.map (·.y), GoodI true d z) (hq : YQ w ⟨3, noStr, noStr, [], kids.map (·.y)⟩ dp sp b F bs Fs)
  (hs : SrcAt w sb dp sp) (hc : 2 ≤ c) (hV : VisW w m V) (hm : m + d + 1 ≤ 300) (hd : d ≤ 1000) (hbx : w.heap[lb]? = some (.cells #[V, .pointer none, .slice (some ⟨sb, 0, none⟩) 2 c, path, .bool true, .bool false, .int .i64 0] 66 (0, 0))) :
  Calls Tryz.prog 49 #[.pointer (some ⟨lb, 0, none⟩)] w fun e w' => ∃ q, e = .returned (.tuple #[.pointer q, .nilIface]) ∧ YR w sb path b bs ⟨3, noStr, noStr, [], kids.map (·.y)⟩ F Fs q w' := by
 obtain ⟨rd, hor, hrd, hdp, hnn⟩ := hq.first
 obtain ⟨sl, sn, SF, vb, hD⟩ := src3 hs htb hne hlen hn hg hq
 have hnl : ns.length = kids.length := by have := hn.1; simpa using this
 have hpos : 0 < ns.length := by rw [hnl]; exact List.length_pos_iff.2 hne
 have hstay : ∀ {w1}, Keep (fun k => k = sb) w w1 → ∀ k, F k → w1.heap[k]? = w.heap[k]? := fun hk k hF => hk.block k (htb k hF).lt (hs.spares k (htb k hF))
 have hkF : ∀ {w1}, Keep (fun k => k = sb) w w1 → Keep (fun k => F k ∨ k = sb) w w1 := fun hk => hk.mono fun k _ h => .inr h
 have h47 : ∀ k, k = sb → TB w k ∨ ∃ cs, w.heap[k]? = some (.cells cs 47 (0, 0)) := by
  rintro k rfl
  obtain ⟨cur, h, _⟩ := hs
  exact .inr ⟨cur, h⟩
 have hidx : ∀ {w1}, ListR w1 b C kids F → ∀ (i : Nat) c, kids[i]? = some c → Rep w1 c.cb c.y c.F := fun h i c hc => h.rep c (List.mem_of_getElem? hc)
 have hadd : addN (addN [] ns) sn = ns := by
  rw [addN_nil hn.2.1]
  rcases hD.names with h | h
  ·rw [h]; rfl
  ·rw [h]; exact addN_sub fun s hs => hs
 have hnl1 : ∀ w1, Keep (fun k => k = sb) w w1 → NLb w1 (some ⟨rd, 0, none⟩) (kids.map (·.cb)) ns ∧ NLb w1 sp sl sn := fun w1 hk => by
  have hL1 := hL.step (hstay hk)
  have hG : ∀ (i : Nat) c, kids[i]? = some c → Rep w1 c.cb c.y (BFk kids i) := fun i c hc => (hidx hL1 i c hc).mono fun k h => ⟨c, hc, h⟩
  exact ⟨(named_list (hrd.spare hk h47) hL1.node hL1.row hg hn hG hne (by omega)).1, (hD.nl w1 C (hkF hk) hL1.node ⟨_, hL1.row⟩ ⟨_, hG⟩).1⟩
 have hlq : (dp = none ∨ ListQ w dp) ∧ (sp = none ∨ ListQ w sp) := by
  have hrep : Rep w b ⟨3, noStr, noStr, [], kids.map (·.y)⟩ F := .sq b C kids F hL.node hL.root hL.row hL.dis hL.kid hL.rep
  refine hq.each hrep (Q := ListQ w) fun r x G hr hx => ?_
  generalize hy : (⟨3, noStr, noStr, [], kids.map (·.y)⟩ : S25) = y at hx
  cases hx with
  | sc _ text tag _ h hF => cases hy
  | mp _ C ks _ h hF hr hd hk hc => cases hy
  | sq _ Cs ks _ h hF hr' hd hk hc =>
   injection hy with _ _ _ _ hy
   have hkl : ks.length = kids.length := by
    have := congrArg List.length hy
    simpa using this.symm
   exact (named_list (G := fun i k => ∃ s, ks[i]? = some s ∧ s.F k) hr h hr' (hy ▸ hg) (hy ▸ hn) (fun i c hi => (hc c (List.mem_of_getElem? hi)).mono fun k hF => ⟨c, hi, hF⟩) (by rintro rfl; simp at hkl; exact hne (List.length_eq_zero_iff.1 hkl.symm)) (by omega)).2
 refine walk49 (b := b) (C0 := C) (YR w sb path b bs ⟨3, noStr, noStr, [], kids.map (·.y)⟩ F Fs) w hc hV (by omega) hbx hs hlq.1 hlq.2 hnn hor hnl1 hpos ?_
 intro w1 hk1 hs1 hbx1
 have hL1 := hL.step (hstay hk1)
 have htb1 : ∀ k, F k → TB w1 k := fun k hF => by
  obtain ⟨cs, t, h1, h2⟩ := htb k hF
  exact ⟨cs, t, (hstay hk1 k hF).trans h1, h2⟩
 have hV1 : VisW w1 m V := hV.mono (K66.of_keep hk1 fun k hk cs he => by
  subst hk
  exact src_ne66 hs he rfl)
 obtain ⟨h68, hfin⟩ := same68 ih hL1 htb1 hne hlen hn hg (hD.move (hkF hk1)) (hrd.spare hk1 h47) hs1 hV1 hm hd hbx1
 rw [hadd]
 refine ⟨_, _, h68, fun e w' hset => ?_⟩
 obtain ⟨g1, g2, g3⟩ := hfin e w' hset
 have hsz := hk1.size
 refine ⟨rd, b, rfl, g1, g2.mono fun k h => h.imp id fun h => h.imp id fun h => ⟨by omega, h.2⟩, (Shape9.of_keep hk1 ?_).trans (Shape9.of_keep g3 fun k cur hF => tb_ne (htb1 k hF) (by decide)), .inl ⟨rfl, (hk1.mono fun k _ h => .inr (.inl h)).trans g3 fun k _ h => .inl h⟩⟩
 rintro k cur rfl hc
 obtain ⟨cur', h1, _⟩ := hs
 rw [h1] at hc
 injection hc with hc
 injection hc with _ hc
 cases hc
theorem walk_same (inf : Bool) : ∀ d, YC inf d := by
 intro d
 induction d with
 | zero => intro y hg; exact hg.elim
 | succ d ih =>
  intro y hg w b F bs Fs hrep htb dp sp hq V path sb c n m hs hc hV hmd hp hnd
  obtain ⟨hk45, hk46, hnd1, hnd2⟩ := hq.kind hg.good hrep (V := V) (path := path) (mo := .int .i64 0) (c := c) (infer := inf) hs
  have hrep0 := hrep
  cases hrep with
  | sc _ text tag _ h hF =>
   refine walk38_sc _ w hk45 hk46 fun w' hb => (scalar51w w' (hV.mono (K66.of_below hb)) (by omega) (hs.under hb) (hnd1.under hb) (hnd2.under hb)).mono ?_
   rintro e w'' ⟨rfl, hb'⟩
   exact ⟨_, rfl, y_leaf hq hrep0 (by show (1 : Int) ≠ 2; decide) (hb.trans (hb'.mono hb.size))⟩
  | sq _ C kids _ h hF hr hd hk hc' =>
   have hplain : (∀ w', Below w.heap.size w w' → Calls Tryz.prog 48 #[.pointer none, .slice (some ⟨sb, 0, none⟩) 2 c, .bool inf] w' fun e w'' => e = .returned (.bool false) ∧ Below w'.heap.size w' w'') → Calls Tryz.prog 38 #[wkV V path (.int .i64 0) sb c inf] w fun e w' => ∃ q, e = .returned (.tuple #[.pointer q, .nilIface]) ∧ YR w sb path b bs ⟨3, noStr, noStr, [], kids.map (·.y)⟩ F Fs q w' := fun h48 => by
    refine walk38_plain _ w hk45 hk46 h48 fun w' hb => (list50w w' (hV.mono (K66.of_below hb)) (by omega) (hs.under hb) (hnd1.under hb) (hnd2.under hb)).mono ?_
    rintro e w'' ⟨rfl, hb'⟩
    exact ⟨_, rfl, y_leaf hq hrep0 (by show (3 : Int) ≠ 2; decide) (hb.trans (hb'.mono hb.size))⟩
   cases inf with
   | false => exact hplain fun w' _ => (assoc48 w').mono fun e w'' h => ⟨h.1, h.2 ▸ Below.refl _ _⟩
   | true =>
    rcases hg with ⟨h1, _⟩ | ⟨_, hne, hlen, hcl⟩ | ⟨h1, _⟩
    ·simp at h1
    ·have hkl : kids ≠ [] := by rintro rfl; exact hne rfl
     have hlen' : kids.length ≤ 250 := by simpa using hlen
     obtain ⟨rd, hor, _, _, hnn⟩ := hq.first
     rcases hcl rfl with hpl | ⟨⟨ns, hns⟩, hgi⟩
     ·refine hplain fun w' hb => ?_
      obtain ⟨e1, e2⟩ := hq.each hrep0 (Q := fun q => ∃ r, q = some ⟨r, 0, none⟩ ∧ LQ w r false) fun r x G hr' hx => ⟨r, rfl, by
       generalize hy : (⟨3, noStr, noStr, [], kids.map (·.y)⟩ : S25) = y at hx
       cases hx with
       | sc _ text tag _ h hF => cases hy
       | mp _ C ks _ h hF hr hd hk hc => cases hy
       | sq _ Cs ks _ h2 hF2 hr2 hd2 hk2 hc2 =>
        injection hy with _ _ _ _ hy
        have hkl2 : ks.length = kids.length := by
         have := congrArg List.length hy
         simpa using this.symm
        exact plain_LQ hr' h2 hr2 hd2 hc2 (by rintro rfl; simp at hkl2; exact hkl (List.length_eq_zero_iff.1 hkl2.symm)) (by omega) (hy ▸ hpl)⟩
      exact isAssoc48 w' (hs.under hb) hc ((src2_of e1).imp id fun ⟨r, h1, h2⟩ => ⟨r, h1, h2.under hb⟩) ((src2_of e2).imp id fun ⟨r, h1, h2⟩ => ⟨r, h1, h2.under hb⟩) hnn
     ·have hL : ListR w b C kids F := ⟨h, hF, hr, hd, hk, hc'⟩
      have hlt : ∀ r x G, RNB w r x → Rep w x ⟨3, noStr, noStr, [], kids.map (·.y)⟩ G → ∃ r', (some ⟨r, 0, none⟩ : Option Addr) = some ⟨r', 0, none⟩ ∧ LQ w r' true := fun r x G hr' hx => ⟨r, rfl, by
       generalize hy : (⟨3, noStr, noStr, [], kids.map (·.y)⟩ : S25) = y at hx
       cases hx with
       | sc _ text tag _ h hF => cases hy
       | mp _ C ks _ h hF hr hd hk hc => cases hy
       | sq _ Cs ks _ h2 hF2 hr2 hd2 hk2 hc2 =>
        injection hy with _ _ _ _ hy
        have hkl2 : ks.length = kids.length := by
         have := congrArg List.length hy
         simpa using this.symm
        have h5 := (named_list (G := fun i k => ∃ s, ks[i]? = some s ∧ s.F k) hr' h2 hr2 (hy ▸ hgi) (hy ▸ hns) (fun i c hi => (hc2 c (List.mem_of_getElem? hi)).mono fun k hF => ⟨c, hi, hF⟩) (by rintro rfl; simp at hkl2; exact hkl (List.length_eq_zero_iff.1 hkl2.symm)) (by omega)).1.src2
        rcases h5 with h5 | ⟨r5, h5, h6⟩
        ·cases h5
        ·injection h5 with h5
         injection h5 with h5
         rw [h5]
         exact h6⟩
      obtain ⟨e1, e2⟩ := hq.each hrep0 (Q := fun q => ∃ r, q = some ⟨r, 0, none⟩ ∧ LQ w r true) hlt
      refine walk38_named _ w hk45 hk46 (fun w' hb => isAssoc48 w' (hs.under hb) hc ((src2_of e1).imp id fun ⟨r, h1, h2⟩ => ⟨r, h1, h2.under hb⟩) ((src2_of e2).imp id fun ⟨r, h1, h2⟩ => ⟨r, h1, h2.under hb⟩) hnn) fun w' lb hb hbx => ?_
      have hL' : ListR w' b C kids F := hL.step fun k hF => hb.block k (htb k hF).lt
      refine (same_named (path := path) (n := n) ih hL' (fun k hF => (htb k hF).under hb) hkl hlen' hns hgi (hq.under hb) (hs.under hb) hc (hV.mono (K66.of_below hb)) (by omega) (by omega) hbx).mono ?_
      rintro e w'' ⟨q, rfl, r, b', h1, h2, h3, h4, h5⟩
      have hsz := hb.size
      refine ⟨q, rfl, r, b', h1, h2, h3.mono fun k h => h.imp id fun h => h.imp id fun h => ⟨by omega, h.2⟩, (Shape9.of_below hb).trans h4, ?_⟩
      rcases h5 with ⟨h5, h6⟩ | ⟨h5, h6, h7, h8⟩
      ·exact .inl ⟨h5, (Keep.of_below hb _).trans h6 fun k _ h => h⟩
      ·exact .inr ⟨h5, h6, h7, (Keep.of_below hb _).trans h8 fun k _ h => h⟩
    ·simp at h1
  | mp _ C kids _ h hF hr hd hk hc' =>
   rcases hg with ⟨h1, _⟩ | ⟨h1, _⟩ | ⟨_, hne, hlen, hnod, hkeys, hitems⟩
   ·simp at h1
   ·simp at h1
   have hkn : kids ≠ [] := by rintro rfl; exact hne rfl
   have hlen' : kids.length ≤ 1000 := by simpa using hlen
   have hM : MapR w b C kids F := ⟨h, hF, hr, hd, hk, hc'⟩
   obtain ⟨ks, SF, vb, hsm⟩ := srcM hs hp htb hlen' hnod hq
   obtain ⟨r0, hor, hr0, hdp, hnn⟩ := hq.first
   have hpat : ∀ ks : List Kid, ks.map (·.key) = kids.map (·.key) → ks.find? (hasKey patchKey) = none := fun ks hks => by
    rw [List.find?_eq_none]
    intro x hx
    have hx2 : x.key ∈ kids.map (·.key) := by rw [← hks]; exact List.mem_map_of_mem hx
    have := (hkeys x.key hx2).2.2
    simpa [hasKey] using this
   obtain ⟨e1, e2⟩ := hq.each hrep0 (Q := MapQ w) fun r x G hr' hx => by
    generalize hy : (⟨2, noStr, noStr, kids.map (·.key), kids.map (·.y)⟩ : S25) = y at hx
    cases hx with
    | sc _ text tag _ h hF => cases hy
    | sq _ C ks _ h hF hr hd hk hc => cases hy
    | mp _ Cs ks _ h2 hF2 hr2 hd2 hk2 hc2 =>
     injection hy with _ _ _ hy3 hy
     have hkl2 : ks.length = kids.length := by
      have := congrArg List.length hy
      simpa using this.symm
     exact ⟨r, x, Cs, ks, rfl, hr', ⟨h2, ⟨_, hr2⟩, fun c hc => (hk2 c hc).1⟩, by rintro rfl; simp at hkl2; exact hkn (List.length_eq_zero_iff.1 hkl2.symm), hpat ks hy3.symm⟩
   have hvis : ∀ w1, Below w.heap.size w w1 → Calls Tryz.prog 159 #[.agg #[], .slice (some ⟨sb, 0, none⟩) 2 c, .pointer none] w1 fun e w2 => e = .returned (.tuple #[.pointer (some ⟨r0, 0, none⟩), .nilIface]) ∧ Below w1.heap.size w1 w2 := by
    intro w1 hb1
    rcases hdp with rfl | rfl
    ·rcases e2 with rfl | e2
     ·exact absurd ⟨rfl, rfl⟩ hnn
     ·have hor' : sp = some ⟨r0, 0, none⟩ := by simpa using hor
      subst hor'
      exact visitMap_n w1 (hs.under hb1) (e2.under hb1)
    ·rcases e1 with e1 | e1
     ·cases e1
     ·exact visitMap_d w1 (hs.under hb1) (e1.under hb1) (e2.imp id fun h => h.under hb1)
   refine walk38_map _ w hk45 hk46 fun w0 hb0 => (same_map ih hM htb hlen' hnod hkeys hitems hsm hr0 hvis hs hV (by omega) hp (by omega) w0 hb0).mono ?_
   rintro e w' ⟨q, rfl, rfl, h1, h2, h3, h4⟩
   exact ⟨_, rfl, r0, b, rfl, h1, h2, h4, .inl ⟨rfl, h3⟩⟩
end Go.Proofs.YtghmajlfmoggfaaGreat
