import Derived.Defers
import Derived.Recover
import Derived.Test.YtghmajlfmoggfaaGreatMG3
set_option linter.unusedSimpArgs false
set_option linter.unusedVariables false
namespace Go.Proofs.YtghmajlfmoggfaaGreat
open Go.RowKit Go.Proofs.YtghmajlfmoggfaaGreatW.PrintWords Go.Proofs.YtghmajlfmoggfaaGreatW.PrintLast PFnMerge
theorem catch37 (p : Addr) (w : World) : CallsD Tryz.prog 37 #[.pointer (some p)] .returning w fun e u' w' => e = .returned (.tuple #[]) ∧ u' = .returning ∧ w' = w := by
 refine callsD_of_wpS Tryz.func37 rfl fun c₀ cs hu => ?_
 apply wpS_seq
 apply wpS_region
 simp [wpOpsS, go_sem, recoverD, hu, Tryz.ntmps37, Exit.thenS]
 refine wpS_cond (t := false) (by simp [Act.eval, Array.replicate]) ?_
 simp only [Bool.false_eq_true, if_false]
 refine wpS_of_wp (wp_skip ?_)
 cases c₀
 simp_all [bodyPostS, results, Tryz.results37]
set_option maxRecDepth 20000 in
set_option maxHeartbeats 4000000 in
theorem tried27 (w : World) (cap : Array Value) (R : World → Prop) (hf : Calls Tryz.prog 28 cap (w.alloc (.cells #[.bool false] 4)) fun e w' => e = .returned (.bool true) ∧ R w') (hk : ∀ w', R w' → w'.heap[w.heap.size]? = some (.cells #[.bool false] 4 (0, 0))) :
  Calls Tryz.prog 27 #[.func (.func 28) #[] cap] w fun e w' => e = .returned (.bool true) ∧ ∃ w1, R w1 ∧ w' = w1.setCell ⟨w.heap.size, 0, none⟩ (.bool true) := by
 have hmf : ∀ (fn : Fn) (first cap : Array Value) (w : World), (Instr.makeFunc fn first cap).run Tryz.prog w = .ok (.func fn first cap) w := fun _ _ _ _ => rfl
 have H := Lib.hid (And.intro hf hk)
 clear hf hk
 go_enter_defers Tryz.func27, Tryz.ntmps27
 go_wp2_with fail
 refine H.out.1.mono ?_
 rintro e w' ⟨rfl, hr⟩
 have HR := Lib.hid hr
 have c0 : w'.cell? ⟨w.heap.size, 0, none⟩ = some (.bool false) := (blk_cell (H.out.2 w' hr) 0).trans rfl
 have z0 : w'.frozen? ⟨w.heap.size, 0, none⟩ = false := blk_frozen (H.out.2 w' hr) 0
 clear hr
 go_wp2_with fail
 refine leaves_cons (f := 37) (args := #[.pointer (some ⟨w.heap.size, 0, none⟩)]) (by simp) (by simp [go_sem]) ?_
 refine (catch37 _ _).mono ?_
 rintro e u' w'' ⟨rfl, rfl, rfl⟩
 have c1 : (w'.setCell ⟨w.heap.size, 0, none⟩ (.bool true)).cell? ⟨w.heap.size, 0, none⟩ = some (.bool true) := (blk_cell (blk_set (H.out.2 w' HR.out) 0 (.bool true)) 0).trans rfl
 refine ⟨.bool true, by simp [results, Tryz.results27, go_sem, c1], rfl, w', HR.out, rfl⟩
def RightC (x : S25) : Prop := ∀ (w : World) (A3 A4 : Option Addr) (c3 c4 : Nat), NdR w x A3 c3 A4 c4 → Calls Tryz.prog 36 #[ndV x A3 c3 A4 c4] w fun e w' => YesQ w e w'
structure TakC (d : Nat) (x : S25) : Prop where
 ne : (x.f0 == 0) = false
 wf : WfN d x
 right : RightC x
theorem TreeB.tak {x : S25} (h : TreeB 6 x) : TakC 6 x := ⟨h.1.kind_ne, h.tree.wf, fun w A3 A4 c3 c4 hr => right36 w x h A3 A4 c3 c4 hr⟩
set_option maxRecDepth 20000 in
set_option maxHeartbeats 4000000 in
theorem taken26q (w : World) (x : S25) {d : Nat} (hx : TakC d x) (A3 A4 : Option Addr) (c3 c4 : Nat) (h : NdR w x A3 c3 A4 c4) : Calls Tryz.prog 26 #[ndV x A3 c3 A4 c4] w fun e w' => YesQ w e w' := by
 have hb1 := below_alloc (Below.refl w.heap.size w) (.cells #[.int .i64 x.f0, .string x.f1, .string x.f2, .slice A3 x.f3.length c3, .slice A4 x.f4.length c4] 25)
 have HB := Lib.hid hb1
 have H := Lib.hid (And.intro h hx)
 have hkk := hx.ne
 clear hb1 h hx
 go_enter Tryz.func26, Tryz.ntmps26
 go_wp2_with fail
 refine (H.out.2.right _ A3 A4 c3 c4 (H.out.1.below HB.out)).mono ?_
 rintro e w' ⟨rfl, hb⟩
 have HB2 := Lib.hid hb
 clear hb
 go_wp2_with fail
 exact bodyPost_ret (v := .bool true) (by simp [results, Tryz.results26, go_sem]) rfl ⟨rfl, HB.out.trans (HB2.out.mono HB.out.size)⟩
set_option maxRecDepth 20000 in
set_option maxHeartbeats 4000000 in
theorem rnodeOf30q (w : World) (d : Nat) (x : S25) (hx : (x.f0 == 0) = false) (hwf : WfN d x) (A3 A4 : Option Addr) (c3 c4 : Nat) (h : NdR w x A3 c3 A4 c4) : Calls Tryz.prog 30 #[ndV x A3 c3 A4 c4] w fun e w' => RnQ x w e w' := by
 have hb1 := below_alloc (Below.refl w.heap.size w) (.cells #[.int .i64 x.f0, .string x.f1, .string x.f2, .slice A3 x.f3.length c3, .slice A4 x.f4.length c4] 25)
 have HB := Lib.hid hb1
 have H := Lib.hid (And.intro h hwf)
 have hkk := hx
 clear hb1 h hx hwf
 go_enter Tryz.func30, Tryz.ntmps30
 go_wp2_with fail
 refine (treeOf40 d x H.out.2 _ A3 A4 c3 c4 (Kd.C_below H.out.1.keys HB.out) H.out.1.kcap (Kd.C_below H.out.1.items HB.out) H.out.1.icap).mono ?_
 rintro e w' ⟨b, rfl, hrp, hb⟩
 have HR := Lib.hid (And.intro hrp hb)
 clear hrp hb
 go_wp2_with fail
 refine (newRNode w' (b := b)).mono ?_
 rintro e w'' ⟨rfl, rfl⟩
 go_wp2_with fail
 refine bodyPost_ret (v := .pointer (some ⟨w'.heap.size, 0, none⟩)) (by simp [results, Tryz.results30, go_sem]) rfl ⟨_, b, rfl, blk_new rfl _, ?_, ?_⟩
 ·exact (HR.out.1.under (below_alloc (Below.refl _ _) _)).mono fun k hk => by have := HB.out.size; simp at hk this; omega
 ·exact below_alloc (HB.out.trans (HR.out.2.mono HB.out.size)) _
def MeR (R : S25 → Prop) (bo : Nat) (w : World) (e : Ending) (w' : World) : Prop := e = .returned (.bool true) ∧ ∃ ym A3 c3 A4 c4, R ym ∧ w'.heap[bo]? = some (.cells #[.int .i64 ym.f0, .string ym.f1, .string ym.f2, .slice A3 ym.f3.length c3, .slice A4 ym.f4.length c4] 25 (0, 0)) ∧ NdG w' (fun k => w.heap.size ≤ k) ym A3 c3 A4 c4 ∧ Keep (fun k => k = bo) w w'
def M2R (R : S25 → Prop) (w : World) (e : Ending) (w' : World) : Prop := ∃ ym A3 c3 A4 c4, e = .returned (.tuple #[ndV ym A3 c3 A4 c4, .bool true]) ∧ R ym ∧ NdR w' ym A3 c3 A4 c4 ∧ Below w.heap.size w w'
structure MBq (w : World) (cx cy : Array Value) (infer ahead : Bool) (W : World) : Prop where
 below : Below w.heap.size w W
 bx : W.heap[w.heap.size]? = some (.cells cx 25 (0, 0))
 by_ : W.heap[w.heap.size + 1]? = some (.cells cy 25 (0, 0))
 bi : W.heap[w.heap.size + 1 + 1]? = some (.cells #[.bool infer] 4 (0, 0))
 ba : W.heap[w.heap.size + 1 + 1 + 1]? = some (.cells #[.bool ahead] 4 (0, 0))
 br : W.heap[w.heap.size + 1 + 1 + 1 + 1]? = some (.cells #[.int .i64 0, .string noStr, .string noStr, nilS, nilS] 25 (0, 0))
 bo : W.heap[w.heap.size + 1 + 1 + 1 + 1 + 1]? = some (.cells #[.int .i64 0, .string noStr, .string noStr, nilS, nilS] 25 (0, 0))
theorem MBq.under {w : World} {cx cy : Array Value} {infer ahead : Bool} {W W' : World} (h : MBq w cx cy infer ahead W) (hb : Below W.heap.size W W') : MBq w cx cy infer ahead W' :=
 ⟨h.below.trans (hb.mono h.below.size), (hb.block _ (lt_of_block h.bx)).trans h.bx, (hb.block _ (lt_of_block h.by_)).trans h.by_, (hb.block _ (lt_of_block h.bi)).trans h.bi, (hb.block _ (lt_of_block h.ba)).trans h.ba, (hb.block _ (lt_of_block h.br)).trans h.br, (hb.block _ (lt_of_block h.bo)).trans h.bo⟩
abbrev kA : ByteArray := ⟨#[97]⟩
abbrev tB : ByteArray := ⟨#[98]⟩
abbrev tC : ByteArray := ⟨#[99]⟩
abbrev sT : ByteArray := ⟨#[33, 33, 115, 116, 114]⟩
abbrev wdT (s : ByteArray) : S25 := ⟨1, s, sT, [], []⟩
abbrev mpT (s : ByteArray) : S25 := ⟨2, noStr, noStr, [kA], [wdT s]⟩
theorem word_one (b : UInt8) (h : 97 ≤ b.toNat ∧ b.toNat ≤ 122) : WordP ⟨#[b]⟩ := by
 have hb : bt ⟨#[b]⟩ 0 = (b.toNat : Int) := rfl
 have hl : (⟨#[b]⟩ : ByteArray).toList = [b] := (ByteArray.toList_eq _).trans rfl
 have hs : (⟨#[b]⟩ : ByteArray).size = 1 := rfl
 refine ⟨by omega, by omega, by omega, fun i hi => ?_, ?_, ?_, ?_⟩
 ·obtain rfl : i = 0 := by omega
  exact .inl (by show 97 ≤ bt ⟨#[b]⟩ 0 ∧ bt ⟨#[b]⟩ 0 ≤ 122; omega)
 ·rw [hl]; simp
 ·rw [hl]; simp
 ·rw [hl]; simp
theorem tree_mp (b : UInt8) (h : 97 ≤ b.toNat ∧ b.toNat ≤ 122) : TreeB 6 (mpT ⟨#[b]⟩) := by
 refine ⟨.inr (.inl ⟨rfl, rfl, rfl, rfl, by simp, fun k hk => ?_, by simp, fun z hz => ?_⟩), by simp [nodesN]⟩
 ·rw [List.mem_singleton.1 hk]; exact word_one 97 (by decide)
 ·rw [List.mem_singleton.1 hz]
  exact .inl ⟨rfl, rfl, rfl, .inl ⟨(ByteArray.toList_eq _).trans rfl, word_one b h⟩⟩
theorem reads3 {name : ByteArray} {lb : Nat} {W : World} (h : W.heap[lb]? = some (.cells #[.string name] 9 (0, 0))) : Kd.C Kd.string W (some ⟨lb, 0, none⟩) 1 [name] := by
 have := (Lit3.mk (v := nilS) h (fun k hk => by simp [Value.ownBlock] at hk)).reads
 exact this
theorem reads4 {x : S25} {E3 E4 : Option Addr} {e3 e4 lb : Nat} {W : World} (h : W.heap[lb]? = some (.cells #[.int .i64 x.f0, .string x.f1, .string x.f2, .slice E3 x.f3.length e3, .slice E4 x.f4.length e4] 25 (0, 0))) (hx : NdR W x E3 e3 E4 e4) : Kd.C k25 W (some ⟨lb, 0, none⟩) 1 [x] := by
 refine ⟨rfl, by omega, fun _ => ⟨⟨lb, 0, none⟩, rfl, fun j p hj => ?_⟩⟩
 match j, hj with
 | 0, hj =>
  simp only [List.getElem?_cons_zero, Option.some.injEq] at hj
  subst hj
  refine ⟨_, rfl, k25_mk W x hx.kcap hx.keys hx.icap hx.items, fun i u hu => ?_⟩
  have hc := blk_cell h i
  rw [add_at, Nat.zero_add]
  simp only [Nat.zero_mul, Nat.zero_add]
  rw [hc]
  simpa using hu
theorem nd_sc (w : World) (s : ByteArray) : NdR w (wdT s) none 0 none 0 := ⟨Kd.C_nil _ _, Nat.le_refl _, Kd.C_nil _ _, Nat.le_refl _⟩
set_option maxRecDepth 20000 in
set_option maxHeartbeats 4000000 in
theorem word33 (s : ByteArray) (w : World) : Calls Tryz.prog 33 #[.string s] w fun e w' => e = .returned (ndV (wdT s) none 0 none 0) ∧ Below w.heap.size w w' := by
 go_enter Tryz.func33, Tryz.ntmps33
 go_wp2_with fail
 refine bodyPost_ret (v := ndV (wdT s) none 0 none 0) (by simp [results, Tryz.results33, go_sem]) rfl ⟨rfl, ?_⟩
 repeat (first | exact Below.refl _ _ | apply below_alloc | apply pw_below_drewN | apply below_drew)
theorem nd_mp {w w1 W : World} {s : ByteArray} (h0 : W.heap[w.heap.size]? = some (.cells #[.string kA] 9 (0, 0))) (h1 : W.heap[w1.heap.size]? = some (.cells #[.int .i64 1, .string s, .string sT, .slice none 0 0, .slice none 0 0] 25 (0, 0))) : NdR W (mpT s) (some ⟨w.heap.size, 0, none⟩) 1 (some ⟨w1.heap.size, 0, none⟩) 1 :=
 ⟨reads3 h0, Nat.le_refl _, reads4 (x := wdT s) (E3 := none) (E4 := none) (e3 := 0) (e4 := 0) h1 (nd_sc W s), Nat.le_refl _⟩
set_option maxRecDepth 20000 in
set_option maxHeartbeats 4000000 in
theorem pair34 (w : World) : Calls Tryz.prog 34 #[] w fun e w' => ∃ B3 d3 B4 d4, e = .returned (ndV (mpT tB) B3 d3 B4 d4) ∧ NdR w' (mpT tB) B3 d3 B4 d4 ∧ Below w.heap.size w w' := by
 go_enter Tryz.func34, Tryz.ntmps34
 go_wp2_with fail
 have hz := blk_new rfl (w := w) (.cells #[.int .i64 0, .string noStr, .string noStr, nilS, nilS] 25)
 obtain ⟨v, hv⟩ : ∃ v, v = w.alloc (.cells #[.int .i64 0, .string noStr, .string noStr, nilS, nilS] 25) := ⟨_, rfl⟩
 have hvs : v.heap.size = w.heap.size + 1 := by rw [hv]; simp
 have HV := Lib.hid (show (v.alloc (.cells #[.string kA] 9)).heap[v.heap.size]? = some (.cells #[.string kA] 9 (0, 0)) ∧ Below w.heap.size w (v.alloc (.cells #[.string kA] 9)) ∧ (v.alloc (.cells #[.string kA] 9)).heap[w.heap.size]? = some (.cells #[.int .i64 0, .string noStr, .string noStr, nilS, nilS] 25 (0, 0)) from ⟨blk_new rfl _, hv ▸ below_alloc (below_alloc (Below.refl _ _) _) _, blk_old _ (hv ▸ hz)⟩)
 have HVS := Lib.hid hvs
 have HVW := Lib.hid hv
 clear hz hv hvs
 refine (word33 tB _).mono ?_
 rintro e w1 ⟨rfl, hb⟩
 rw [← HVW.out] at hb
 have hk : w1.heap[v.heap.size]? = some (.cells #[.string kA] 9 (0, 0)) := (hb.block _ (lt_of_block HV.out.1)).trans HV.out.1
 have hz : w1.heap[w.heap.size]? = some (.cells #[.int .i64 0, .string noStr, .string noStr, nilS, nilS] 25 (0, 0)) := (hb.block _ (lt_of_block HV.out.2.2)).trans HV.out.2.2
 have hbl : Below w.heap.size w w1 := HV.out.2.1.trans (hb.mono HV.out.2.1.size)
 have hz2 : (w1.alloc (.cells #[.int .i64 1, .string tB, .string sT, .slice none 0 0, .slice none 0 0] 25)).heap[w.heap.size]? = some (.cells #[.int .i64 0, .string noStr, .string noStr, nilS, nilS] 25 (0, 0)) := blk_old _ hz
 have f0 := blk_frozen hz2 0
 have f1 := blk_frozen hz2 1
 have f2 := blk_frozen hz2 2
 have f3 := blk_frozen hz2 3
 have f4 := blk_frozen hz2 4
 have c0 := (blk_cell hz2 0).trans (show _ = some (.int .i64 0) from rfl)
 have c1 := (blk_cell hz2 1).trans (show _ = some (.string noStr) from rfl)
 have c2 := (blk_cell hz2 2).trans (show _ = some (.string noStr) from rfl)
 have c3 := (blk_cell hz2 3).trans (show _ = some nilS from rfl)
 have c4 := (blk_cell hz2 4).trans (show _ = some nilS from rfl)
 have HW1 := Lib.hid (And.intro hk (And.intro hz2 hbl))
 clear hb hk hz hz2 hbl
 go_wp2_with fail
 have hk5 := keep_put5 (w1.alloc (.cells #[.int .i64 1, .string tB, .string sT, .slice none 0 0, .slice none 0 0] 25)) w.heap.size (.int .i64 2) (.string noStr) (.string noStr) (.slice (some ⟨w.heap.size + 1, 0, none⟩) 1 1) (.slice (some ⟨w1.heap.size, 0, none⟩) 1 1)
 have hlt := lt_of_block HW1.out.1
 have hbl := HW1.out.2.2.size
 have hvs := HVS.out
 have hn := nd_mp (w := v) (w1 := w1) (s := tB) (hk5.at_ (blk_old _ HW1.out.1) (by omega)) (hk5.at_ (blk_new rfl _) (by omega))
 rw [hvs] at hn
 refine bodyPost_ret (results_cell_row rfl _ _ w.heap.size 25 #[.int .i64 2, .string noStr, .string noStr, .slice (some ⟨w.heap.size + 1, 0, none⟩) 1 1, .slice (some ⟨w1.heap.size, 0, none⟩) 1 1] (0, 0) _ rfl (put5_blk HW1.out.2.1 _ _ _ _ _) Tryz.underlying25 rfl (by kernel_rfl)) rfl ⟨_, _, _, _, rfl, hn, ?_⟩
 exact (HW1.out.2.2.trans ((below_alloc (Below.refl _ _) _).mono HW1.out.2.2.size)).trans (hk5.below (by simp; omega) fun k _ e => by omega)
end Go.Proofs.YtghmajlfmoggfaaGreat
