import Derived.Defers
import Derived.Recover
import Derived.Test.YtghmajlfmoggfaaGreatMG3
set_option linter.unusedSimpArgs false
set_option linter.unusedVariables false
namespace Go.Proofs.YtghmajlfmoggfaaGreat
open Go.RowKit Go.Proofs.YtghmajlfmoggfaaGreatW.PrintWords Go.Proofs.YtghmajlfmoggfaaGreatW.PrintLast PFnMerge
theorem catch37 (p : Addr) (w : World) : CallsD Tryz.prog 37 #[.pointer (some p)] .returning w fun e u' w' => e = .returned (.tuple #[]) ∧ u' = .returning ∧ w' = w := by
  refine callsD_of_wpS Tryz.func37 rfl fun c₀ cs hu => ?_
  apply wpS_seq
  apply wpS_region
  simp [wpOpsS, go_sem, recoverD, hu, Tryz.ntmps37, Exit.thenS]
  refine wpS_cond (t := false) (by simp [Act.eval, Array.replicate]) ?_
  simp only [Bool.false_eq_true, if_false]
  refine wpS_of_wp (wp_skip ?_)
  cases c₀
  simp_all [bodyPostS, results, Tryz.results37]
set_option maxRecDepth 20000 in
set_option maxHeartbeats 4000000 in
theorem tried27 (w : World) (cap : Array Value) (R : World → Prop) (hf : Calls Tryz.prog 28 cap (w.alloc (.cells #[.bool false] 4)) fun e w' => e = .returned (.bool true) ∧ R w') (hk : ∀ w', R w' → w'.heap[w.heap.size]? = some (.cells #[.bool false] 4 (0, 0))) :
    Calls Tryz.prog 27 #[.func (.func 28) #[] cap] w fun e w' => e = .returned (.bool true) ∧ ∃ w1, R w1 ∧ w' = w1.setCell ⟨w.heap.size, 0, none⟩ (.bool true) := by
  have hmf : ∀ (fn : Fn) (first cap : Array Value) (w : World), (Instr.makeFunc fn first cap).run Tryz.prog w = .ok (.func fn first cap) w := fun _ _ _ _ => rfl
  have H := Lib.hid (And.intro hf hk)
  clear hf hk
  go_enter_defers Tryz.func27, Tryz.ntmps27
  go_wp2_with fail
  refine H.out.1.mono ?_
  rintro e w' ⟨rfl, hr⟩
  have HR := Lib.hid hr
  have c0 : w'.cell? ⟨w.heap.size, 0, none⟩ = some (.bool false) := (blk_cell (H.out.2 w' hr) 0).trans rfl
  have z0 : w'.frozen? ⟨w.heap.size, 0, none⟩ = false := blk_frozen (H.out.2 w' hr) 0
  clear hr
  go_wp2_with fail
  refine leaves_cons (f := 37) (args := #[.pointer (some ⟨w.heap.size, 0, none⟩)]) (by simp) (by simp [go_sem]) ?_
  refine (catch37 _ _).mono ?_
  rintro e u' w'' ⟨rfl, rfl, rfl⟩
  have c1 : (w'.setCell ⟨w.heap.size, 0, none⟩ (.bool true)).cell? ⟨w.heap.size, 0, none⟩ = some (.bool true) := (blk_cell (blk_set (H.out.2 w' HR.out) 0 (.bool true)) 0).trans rfl
  refine ⟨.bool true, by simp [results, Tryz.results27, go_sem, c1], rfl, w', HR.out, rfl⟩
end Go.Proofs.YtghmajlfmoggfaaGreat
namespace Go.Proofs.YtghmajlfmoggfaaGreat
open Go.RowKit Go.Proofs.YtghmajlfmoggfaaGreatW.PrintWords Go.Proofs.YtghmajlfmoggfaaGreatW.PrintLast PFnMerge
def RightC (x : S25) : Prop := ∀ (w : World) (A3 A4 : Option Addr) (c3 c4 : Nat), NdR w x A3 c3 A4 c4 → Calls Tryz.prog 36 #[ndV x A3 c3 A4 c4] w fun e w' => YesQ w e w'
structure TakC (d : Nat) (x : S25) : Prop where
  ne : (x.f0 == 0) = false
  wf : WfN d x
  right : RightC x
theorem TreeB.tak {x : S25} (h : TreeB 6 x) : TakC 6 x := ⟨h.1.kind_ne, h.tree.wf, fun w A3 A4 c3 c4 hr => right36 w x h A3 A4 c3 c4 hr⟩
def ZzC (infer : Bool) (y x : S25) (R : S25 → Prop) : Prop := ∀ (w : World) (rd rs bd bs : Nat) (Fd Fs : Nat → Prop), Rep w bd y Fd → Rep w bs x Fs → (∀ k, Fd k → TB w k) → (∀ k, Fs k → TB w k) → (∀ k, Fd k → Fs k → False) → RNB w rd bd → RNB w rs bs →
  ∀ way : Int, Calls Tryz.prog 29 #[.pointer (some ⟨rs, 0, none⟩), .pointer (some ⟨rd, 0, none⟩), .bool infer, .agg #[.int .i64 way]] w fun e w' => ∃ r b ym F, e = .returned (.tuple #[.pointer (some ⟨r, 0, none⟩), .nilIface]) ∧ RNB w' r b ∧ R ym ∧ Rep w' b ym F ∧ Keep Fd w w'
set_option maxRecDepth 20000 in
set_option maxHeartbeats 4000000 in
theorem taken26q (w : World) (x : S25) {d : Nat} (hx : TakC d x) (A3 A4 : Option Addr) (c3 c4 : Nat) (h : NdR w x A3 c3 A4 c4) : Calls Tryz.prog 26 #[ndV x A3 c3 A4 c4] w fun e w' => YesQ w e w' := by
  have hb1 := below_alloc (Below.refl w.heap.size w) (.cells #[.int .i64 x.f0, .string x.f1, .string x.f2, .slice A3 x.f3.length c3, .slice A4 x.f4.length c4] 25)
  have HB := Lib.hid hb1
  have H := Lib.hid (And.intro h hx)
  have hkk := hx.ne
  clear hb1 h hx
  go_enter Tryz.func26, Tryz.ntmps26
  go_wp2_with fail
  refine (H.out.2.right _ A3 A4 c3 c4 (H.out.1.below HB.out)).mono ?_
  rintro e w' ⟨rfl, hb⟩
  have HB2 := Lib.hid hb
  clear hb
  go_wp2_with fail
  exact bodyPost_ret (v := .bool true) (by simp [results, Tryz.results26, go_sem]) rfl ⟨rfl, HB.out.trans (HB2.out.mono HB.out.size)⟩
set_option maxRecDepth 20000 in
set_option maxHeartbeats 4000000 in
theorem rnodeOf30q (w : World) (d : Nat) (x : S25) (hx : (x.f0 == 0) = false) (hwf : WfN d x) (A3 A4 : Option Addr) (c3 c4 : Nat) (h : NdR w x A3 c3 A4 c4) : Calls Tryz.prog 30 #[ndV x A3 c3 A4 c4] w fun e w' => RnQ x w e w' := by
  have hb1 := below_alloc (Below.refl w.heap.size w) (.cells #[.int .i64 x.f0, .string x.f1, .string x.f2, .slice A3 x.f3.length c3, .slice A4 x.f4.length c4] 25)
  have HB := Lib.hid hb1
  have H := Lib.hid (And.intro h hwf)
  have hkk := hx
  clear hb1 h hx hwf
  go_enter Tryz.func30, Tryz.ntmps30
  go_wp2_with fail
  refine (treeOf40 d x H.out.2 _ A3 A4 c3 c4 (Kd.C_below H.out.1.keys HB.out) H.out.1.kcap (Kd.C_below H.out.1.items HB.out) H.out.1.icap).mono ?_
  rintro e w' ⟨b, rfl, hrp, hb⟩
  have HR := Lib.hid (And.intro hrp hb)
  clear hrp hb
  go_wp2_with fail
  refine (newRNode w' (b := b)).mono ?_
  rintro e w'' ⟨rfl, rfl⟩
  go_wp2_with fail
  refine bodyPost_ret (v := .pointer (some ⟨w'.heap.size, 0, none⟩)) (by simp [results, Tryz.results30, go_sem]) rfl ⟨_, b, rfl, blk_new rfl _, ?_, ?_⟩
  · exact (HR.out.1.under (below_alloc (Below.refl _ _) _)).mono fun k hk => by have := HB.out.size; simp at hk this; omega
  · exact below_alloc (HB.out.trans (HR.out.2.mono HB.out.size)) _
end Go.Proofs.YtghmajlfmoggfaaGreat
namespace Go.Proofs.YtghmajlfmoggfaaGreat
open Go.RowKit Go.Proofs.YtghmajlfmoggfaaGreatW.PrintWords Go.Proofs.YtghmajlfmoggfaaGreatW.PrintLast PFnMerge
def MeR (R : S25 → Prop) (bo : Nat) (w : World) (e : Ending) (w' : World) : Prop := e = .returned (.bool true) ∧ ∃ ym A3 c3 A4 c4, R ym ∧ w'.heap[bo]? = some (.cells #[.int .i64 ym.f0, .string ym.f1, .string ym.f2, .slice A3 ym.f3.length c3, .slice A4 ym.f4.length c4] 25 (0, 0)) ∧ NdG w' (fun k => w.heap.size ≤ k) ym A3 c3 A4 c4 ∧ Keep (fun k => k = bo) w w'
set_option maxRecDepth 20000 in
set_option maxHeartbeats 4000000 in
theorem merge28q {infer : Bool} {R : S25 → Prop} {dx dy D : Nat} (w : World) (x y : S25) (hx : TakC dx x) (hy : TakC dy y) (hal : ZzC infer y x R) (hsz : ∀ m, R m → SzN D m) (A3 A4 B3 B4 : Option Addr) (c3 c4 d3 d4 : Nat) (hxr : NdR w x A3 c3 A4 c4) (hyr : NdR w y B3 d3 B4 d4) (ba bs bd bi bo : Nat) (ahead : Bool)
    (h1 : w.heap[ba]? = some (.cells #[.bool ahead] 4 (0, 0))) (h2 : w.heap[bs]? = some (.cells #[.int .i64 x.f0, .string x.f1, .string x.f2, .slice A3 x.f3.length c3, .slice A4 x.f4.length c4] 25 (0, 0))) (h3 : w.heap[bd]? = some (.cells #[.int .i64 y.f0, .string y.f1, .string y.f2, .slice B3 y.f3.length d3, .slice B4 y.f4.length d4] 25 (0, 0))) (h4 : w.heap[bi]? = some (.cells #[.bool infer] 4 (0, 0))) (h5 : w.heap[bo]? = some (.cells #[.int .i64 0, .string noStr, .string noStr, nilS, nilS] 25 (0, 0))) :
    Calls Tryz.prog 28 #[.pointer (some ⟨ba, 0, none⟩), .pointer (some ⟨bs, 0, none⟩), .pointer (some ⟨bd, 0, none⟩), .pointer (some ⟨bi, 0, none⟩), .pointer (some ⟨bo, 0, none⟩)] w fun e w' => MeR R bo w e w' := by
  have a0 : w.cell? ⟨ba, 0, none⟩ = some (.bool ahead) := (blk_cell h1 0).trans rfl
  have x0 : w.cell? ⟨bs, 0, none⟩ = some (.int .i64 x.f0) := (blk_cell h2 0).trans rfl
  have x1 : w.cell? ⟨bs, 1, none⟩ = some (.string x.f1) := (blk_cell h2 1).trans rfl
  have x2 : w.cell? ⟨bs, 2, none⟩ = some (.string x.f2) := (blk_cell h2 2).trans rfl
  have x3 : w.cell? ⟨bs, 3, none⟩ = some (.slice A3 x.f3.length c3) := (blk_cell h2 3).trans rfl
  have x4 : w.cell? ⟨bs, 4, none⟩ = some (.slice A4 x.f4.length c4) := (blk_cell h2 4).trans rfl
  have y0 : w.cell? ⟨bd, 0, none⟩ = some (.int .i64 y.f0) := (blk_cell h3 0).trans rfl
  have y1 : w.cell? ⟨bd, 1, none⟩ = some (.string y.f1) := (blk_cell h3 1).trans rfl
  have y2 : w.cell? ⟨bd, 2, none⟩ = some (.string y.f2) := (blk_cell h3 2).trans rfl
  have y3 : w.cell? ⟨bd, 3, none⟩ = some (.slice B3 y.f3.length d3) := (blk_cell h3 3).trans rfl
  have y4 : w.cell? ⟨bd, 4, none⟩ = some (.slice B4 y.f4.length d4) := (blk_cell h3 4).trans rfl
  have i0 : w.cell? ⟨bi, 0, none⟩ = some (.bool infer) := (blk_cell h4 0).trans rfl
  have H := Lib.hid (And.intro hx (And.intro hy (And.intro hal (And.intro hxr (And.intro hyr h5)))))
  clear hx hy hal hxr hyr h1 h2 h3 h4 h5
  cases ahead
  · go_enter Tryz.func28, Tryz.ntmps28
    go_wp2_with fail
    refine start_ (n := 13) (S := fun w' => w'.cell? ⟨bs, 0, none⟩ = some (.int .i64 x.f0) ∧ w'.cell? ⟨bs, 1, none⟩ = some (.string x.f1) ∧ w'.cell? ⟨bs, 2, none⟩ = some (.string x.f2) ∧ w'.cell? ⟨bs, 3, none⟩ = some (.slice A3 x.f3.length c3) ∧ w'.cell? ⟨bs, 4, none⟩ = some (.slice A4 x.f4.length c4) ∧ w'.cell? ⟨bd, 0, none⟩ = some (.int .i64 y.f0) ∧ w'.cell? ⟨bd, 1, none⟩ = some (.string y.f1) ∧ w'.cell? ⟨bd, 2, none⟩ = some (.string y.f2) ∧ w'.cell? ⟨bd, 3, none⟩ = some (.slice B3 y.f3.length d3) ∧ w'.cell? ⟨bd, 4, none⟩ = some (.slice B4 y.f4.length d4) ∧ w'.cell? ⟨bi, 0, none⟩ = some (.bool infer)) (ds := []) #[false, false, false, false, false, false, false, false, false, false, false, false, false] (by kernel_rfl) rfl rfl ⟨x0, x1, x2, x3, x4, y0, y1, y2, y3, y4, i0⟩ (fun hHeld => ?_)
    refine pure_ (i := 5) (N := some 16) (v := ?_) (a' := ?_) (bl 13 32) rfl rfl (by kernel_rfl) (fun _ _ _ h => h) (Or.inl ⟨by rfl, ?_⟩) ?_ ?_; rotate_left; (· (intro w'; go_simp; with_reducible rfl)); rotate_left; (· (simp only [np]; rfl))
    refine pure_ (i := 6) (N := some 17) (v := ?_) (a' := ?_) (bl 13 96) rfl rfl (by kernel_rfl) (fun _ _ _ h => h) (Or.inl ⟨by rfl, ?_⟩) ?_ ?_; rotate_left; (· (intro w'; go_simp; with_reducible rfl)); rotate_left; (· (simp only [np]; rfl))
    refine take_ (i := 0) (N := some 11) (v := ?_) (a' := ?_) (bl 13 97) rfl rfl (by kernel_rfl) (fun _ _ _ h => h) (Or.inl ⟨by rfl, ?_⟩) hHeld ?_ ?_; rotate_left; (· (rintro w' ⟨s0, s1, s2, s3, s4, s5, s6, s7, s8, s9, s10⟩; go_simp; with_reducible rfl)); rotate_left; (· (simp only [np]; rfl))
    refine take_ (i := 2) (N := some 13) (v := ?_) (a' := ?_) (bl 13 101) rfl rfl (by kernel_rfl) (fun _ _ _ h => h) (Or.inl ⟨by rfl, ?_⟩) hHeld ?_ ?_; rotate_left; (· (rintro w' ⟨s0, s1, s2, s3, s4, s5, s6, s7, s8, s9, s10⟩; go_simp; with_reducible rfl)); rotate_left; (· (simp only [np]; rfl))
    refine take_ (i := 4) (N := some 15) (v := ?_) (a' := ?_) (bl 13 117) rfl rfl (by kernel_rfl) (fun _ _ _ h => h) (Or.inl ⟨by rfl, ?_⟩) hHeld ?_ ?_; rotate_left; (· (rintro w' ⟨s0, s1, s2, s3, s4, s5, s6, s7, s8, s9, s10⟩; go_simp; with_reducible rfl)); rotate_left; (· (simp only [np]; rfl))
    refine one_ (i := 1) (N := some 12) (bl 13 119) rfl rfl (by kernel_rfl) (by decide) (fun K hK => ?_)
    refine goes_ Tryz.func30 (by kernel_rfl) rfl #[ndV x A3 c3 A4 c4] (by rfl) rfl rfl (by simp only [List.map_toArray, List.map_cons, List.map_nil]; rfl) ?_
    refine (rnodeOf30q w.drew dx x H.out.1.ne H.out.1.wf A3 A4 c3 c4 (H.out.2.2.2.1.below (below_drew (Below.refl _ _)))).mono ?_
    rintro e w7 ⟨r1, b1, rfl, hr1, hp1, hb7⟩
    have H7 := Lib.hid (And.intro hr1 (And.intro hp1 hb7))
    have HB7 := Lib.hid hb7
    clear hr1 hp1 hb7
    refine ⟨_, rfl, ?_⟩
    refine hK.out _ _ ⟨(HB7.out.cell (World.block_lt_of_cell? _ _ hHeld.1)).trans hHeld.1, (HB7.out.cell (World.block_lt_of_cell? _ _ hHeld.2.1)).trans hHeld.2.1, (HB7.out.cell (World.block_lt_of_cell? _ _ hHeld.2.2.1)).trans hHeld.2.2.1, (HB7.out.cell (World.block_lt_of_cell? _ _ hHeld.2.2.2.1)).trans hHeld.2.2.2.1, (HB7.out.cell (World.block_lt_of_cell? _ _ hHeld.2.2.2.2.1)).trans hHeld.2.2.2.2.1, (HB7.out.cell (World.block_lt_of_cell? _ _ hHeld.2.2.2.2.2.1)).trans hHeld.2.2.2.2.2.1, (HB7.out.cell (World.block_lt_of_cell? _ _ hHeld.2.2.2.2.2.2.1)).trans hHeld.2.2.2.2.2.2.1, (HB7.out.cell (World.block_lt_of_cell? _ _ hHeld.2.2.2.2.2.2.2.1)).trans hHeld.2.2.2.2.2.2.2.1, (HB7.out.cell (World.block_lt_of_cell? _ _ hHeld.2.2.2.2.2.2.2.2.1)).trans hHeld.2.2.2.2.2.2.2.2.1, (HB7.out.cell (World.block_lt_of_cell? _ _ hHeld.2.2.2.2.2.2.2.2.2.1)).trans hHeld.2.2.2.2.2.2.2.2.2.1, (HB7.out.cell (World.block_lt_of_cell? _ _ hHeld.2.2.2.2.2.2.2.2.2.2)).trans hHeld.2.2.2.2.2.2.2.2.2.2⟩ (fun hHeld => ?_)
    clear hK K
    refine norm_ (a' := ?_) ?_ ?_; rotate_left; (· (show Act.put _ (some 12) _ = _; simp only [np]; rfl))
    refine one_ (i := 3) (N := some 14) (bl 13 127) rfl rfl (by kernel_rfl) (by decide) (fun K hK => ?_)
    refine goes_ Tryz.func30 (by kernel_rfl) rfl #[ndV y B3 d3 B4 d4] (by rfl) rfl rfl (by simp only [List.map_toArray, List.map_cons, List.map_nil]; rfl) ?_
    refine (rnodeOf30q w7 dy y H.out.2.1.ne H.out.2.1.wf B3 B4 d3 d4 (H.out.2.2.2.2.1.below ((below_drew (Below.refl w.heap.size w)).trans HB7.out))).mono ?_
    rintro e w8 ⟨r2, b2, rfl, hr2, hp2, hb8⟩
    have H8 := Lib.hid (And.intro hr2 (And.intro hp2 hb8))
    have HB8 := Lib.hid hb8
    clear hr2 hp2 hb8
    refine ⟨_, rfl, ?_⟩
    refine hK.out _ _ ⟨(HB8.out.cell (World.block_lt_of_cell? _ _ hHeld.1)).trans hHeld.1, (HB8.out.cell (World.block_lt_of_cell? _ _ hHeld.2.1)).trans hHeld.2.1, (HB8.out.cell (World.block_lt_of_cell? _ _ hHeld.2.2.1)).trans hHeld.2.2.1, (HB8.out.cell (World.block_lt_of_cell? _ _ hHeld.2.2.2.1)).trans hHeld.2.2.2.1, (HB8.out.cell (World.block_lt_of_cell? _ _ hHeld.2.2.2.2.1)).trans hHeld.2.2.2.2.1, (HB8.out.cell (World.block_lt_of_cell? _ _ hHeld.2.2.2.2.2.1)).trans hHeld.2.2.2.2.2.1, (HB8.out.cell (World.block_lt_of_cell? _ _ hHeld.2.2.2.2.2.2.1)).trans hHeld.2.2.2.2.2.2.1, (HB8.out.cell (World.block_lt_of_cell? _ _ hHeld.2.2.2.2.2.2.2.1)).trans hHeld.2.2.2.2.2.2.2.1, (HB8.out.cell (World.block_lt_of_cell? _ _ hHeld.2.2.2.2.2.2.2.2.1)).trans hHeld.2.2.2.2.2.2.2.2.1, (HB8.out.cell (World.block_lt_of_cell? _ _ hHeld.2.2.2.2.2.2.2.2.2.1)).trans hHeld.2.2.2.2.2.2.2.2.2.1, (HB8.out.cell (World.block_lt_of_cell? _ _ hHeld.2.2.2.2.2.2.2.2.2.2)).trans hHeld.2.2.2.2.2.2.2.2.2.2⟩ (fun hHeld => ?_)
    clear hK K
    refine norm_ (a' := ?_) ?_ ?_; rotate_left; (· (show Act.put _ (some 14) _ = _; simp only [np]; rfl))
    refine one_ (i := 7) (N := some 18) (bl 13 255) rfl rfl (by kernel_rfl) (by decide) (fun K hK => ?_)
    refine goes_ Tryz.func29 (by kernel_rfl) rfl #[.pointer (some ⟨r1, 0, none⟩), .pointer (some ⟨r2, 0, none⟩), .bool infer, .agg #[.int .i64 0]] (by rfl) rfl rfl (by simp only [List.map_toArray, List.map_cons, List.map_nil]; rfl) ?_
    have hps := H7.out.2.1.bound
    have hpd := H8.out.2.1.bound
    refine (H.out.2.2.1 w8 r2 r1 b2 b1 _ _ hpd (hps.under HB8.out) (fun k hk => hk.2) (fun k hk => hk.2.under HB8.out) (fun k h1 h2 => Nat.lt_irrefl _ (Nat.lt_of_lt_of_le h2.2.lt h1.1)) H8.out.1 (H7.out.1.under HB8.out) 0).mono ?_
    rintro e w9 ⟨r, b, ym, F, rfl, h1, h2, h3, h4⟩
    have HB9 := Lib.hid (show Below w.heap.size w w9 from (((below_drew (Below.refl w.heap.size w)).trans HB7.out).trans (HB8.out.mono (show w.heap.size ≤ w7.heap.size from HB7.out.size))).trans (h4.below (Nat.le_trans (show w.heap.size ≤ w7.heap.size from HB7.out.size) HB8.out.size) fun k _ hk => Nat.le_trans (show w.heap.size ≤ w7.heap.size from HB7.out.size) hk.1))
    have HZ := Lib.hid (And.intro h1 (And.intro h2 h3))
    clear h1 h2 h3 h4 hps hpd
    refine ⟨_, rfl, ?_⟩
    refine hK.out _ _ ⟨(HB9.out.cell (World.block_lt_of_cell? w _ (x0))).trans (x0), (HB9.out.cell (World.block_lt_of_cell? w _ (x1))).trans (x1), (HB9.out.cell (World.block_lt_of_cell? w _ (x2))).trans (x2), (HB9.out.cell (World.block_lt_of_cell? w _ (x3))).trans (x3), (HB9.out.cell (World.block_lt_of_cell? w _ (x4))).trans (x4), (HB9.out.cell (World.block_lt_of_cell? w _ (y0))).trans (y0), (HB9.out.cell (World.block_lt_of_cell? w _ (y1))).trans (y1), (HB9.out.cell (World.block_lt_of_cell? w _ (y2))).trans (y2), (HB9.out.cell (World.block_lt_of_cell? w _ (y3))).trans (y3), (HB9.out.cell (World.block_lt_of_cell? w _ (y4))).trans (y4), (HB9.out.cell (World.block_lt_of_cell? w _ (i0))).trans (i0)⟩ (fun hHeld => ?_)
    clear hK K
    refine norm_ (a' := ?_) ?_ ?_; rotate_left; (· (show Act.put _ (some 18) _ = _; simp only [np]; rfl))
    refine pure_ (i := 8) (N := some 10) (v := ?_) (a' := ?_) (bl 13 511) rfl rfl (by kernel_rfl) (fun _ _ _ h => h) (Or.inl ⟨by rfl, ?_⟩) ?_ ?_; rotate_left; (· (intro w'; go_simp; with_reducible rfl)); rotate_left; (· (simp only [np]; rfl))
    refine pure_ (i := 9) (N := some 19) (v := ?_) (a' := ?_) (bl 13 1023) rfl rfl (by kernel_rfl) (fun _ _ _ h => h) (Or.inl ⟨by rfl, ?_⟩) ?_ ?_; rotate_left; (· (intro w'; go_simp; with_reducible rfl)); rotate_left; (· (simp only [np]; rfl))
    refine pure_ (i := 10) (N := some 20) (v := ?_) (a' := ?_) (bl 13 2047) rfl rfl (by kernel_rfl) (fun _ _ _ h => h) (Or.inl ⟨by rfl, ?_⟩) ?_ ?_; rotate_left; (· (intro w'; go_simp; with_reducible rfl)); rotate_left; (· (simp only [np]; rfl))
    refine pure_ (i := 11) (N := some 7) (v := ?_) (a' := ?_) (bl 13 4095) rfl rfl (by kernel_rfl) (fun _ _ _ h => h) (Or.inl ⟨by rfl, ?_⟩) ?_ ?_; rotate_left; (· (intro w'; go_simp; with_reducible rfl)); rotate_left; (· (simp only [np]; rfl))
    refine pure_ (i := 12) (N := some 8) (v := ?_) (a' := ?_) (bl 13 8191) rfl rfl (by kernel_rfl) (fun _ _ _ h => h) (Or.inl ⟨by rfl, ?_⟩) ?_ ?_; rotate_left; (· (intro w'; go_simp; with_reducible rfl)); rotate_left; (· (simp only [np]; rfl))
    refine done_ (by kernel_rfl) ?_
    go_wp2_with fail
    refine (told31 w9 D ym r b F HZ.out.1 HZ.out.2.2 (hsz ym HZ.out.2.1)).mono ?_
    rintro e w10 ⟨M3, m3, M4, m4, rfl, hng, hb10⟩
    have HT := Lib.hid (And.intro hng hb10)
    have hbo := ((HB9.out.trans (hb10.mono HB9.out.size)).block bo (lt_of_block H.out.2.2.2.2.2)).trans H.out.2.2.2.2.2
    have z0 := blk_frozen hbo 0
    have z1 := blk_frozen hbo 1
    have z2 := blk_frozen hbo 2
    have z3 := blk_frozen hbo 3
    have z4 := blk_frozen hbo 4
    have k0 := (blk_cell hbo 0).trans (show _ = some (.int .i64 0) from rfl)
    have k1 := (blk_cell hbo 1).trans (show _ = some (.string noStr) from rfl)
    have k2 := (blk_cell hbo 2).trans (show _ = some (.string noStr) from rfl)
    have k3 := (blk_cell hbo 3).trans (show _ = some nilS from rfl)
    have k4 := (blk_cell hbo 4).trans (show _ = some nilS from rfl)
    have HBO := Lib.hid hbo
    clear hng hb10 hbo
    go_wp2_with fail
    have hk := keep_put5 w10 bo (.int .i64 ym.f0) (.string ym.f1) (.string ym.f2) (.slice M3 ym.f3.length m3) (.slice M4 ym.f4.length m4)
    have hlt := lt_of_block H.out.2.2.2.2.2
    have hs9 := HB9.out.size
    refine bodyPost_ret (v := .bool true) (by simp [results, Tryz.results28, go_sem]) rfl ⟨rfl, ym, M3, m3, M4, m4, HZ.out.2.1, put5_blk HBO.out _ _ _ _ _, ?_, ?_⟩
    · exact (HT.out.1.keep hk fun k h1 h2 => by omega).mono fun k hk' => by omega
    · exact (Keep.of_below (HB9.out.trans (HT.out.2.mono HB9.out.size)) fun k => k = bo).trans hk fun k _ e => e
  · go_enter Tryz.func28, Tryz.ntmps28
    go_wp2_with fail
    refine start_ (n := 13) (S := fun w' => w'.cell? ⟨bs, 0, none⟩ = some (.int .i64 x.f0) ∧ w'.cell? ⟨bs, 1, none⟩ = some (.string x.f1) ∧ w'.cell? ⟨bs, 2, none⟩ = some (.string x.f2) ∧ w'.cell? ⟨bs, 3, none⟩ = some (.slice A3 x.f3.length c3) ∧ w'.cell? ⟨bs, 4, none⟩ = some (.slice A4 x.f4.length c4) ∧ w'.cell? ⟨bd, 0, none⟩ = some (.int .i64 y.f0) ∧ w'.cell? ⟨bd, 1, none⟩ = some (.string y.f1) ∧ w'.cell? ⟨bd, 2, none⟩ = some (.string y.f2) ∧ w'.cell? ⟨bd, 3, none⟩ = some (.slice B3 y.f3.length d3) ∧ w'.cell? ⟨bd, 4, none⟩ = some (.slice B4 y.f4.length d4) ∧ w'.cell? ⟨bi, 0, none⟩ = some (.bool infer)) (ds := []) #[false, false, false, false, false, false, false, false, false, false, false, false, false] (by kernel_rfl) rfl rfl ⟨x0, x1, x2, x3, x4, y0, y1, y2, y3, y4, i0⟩ (fun hHeld => ?_)
    refine pure_ (i := 5) (N := some 16) (v := ?_) (a' := ?_) (bl 13 32) rfl rfl (by kernel_rfl) (fun _ _ _ h => h) (Or.inl ⟨by rfl, ?_⟩) ?_ ?_; rotate_left; (· (intro w'; go_simp; with_reducible rfl)); rotate_left; (· (simp only [np]; rfl))
    refine pure_ (i := 6) (N := some 17) (v := ?_) (a' := ?_) (bl 13 96) rfl rfl (by kernel_rfl) (fun _ _ _ h => h) (Or.inl ⟨by rfl, ?_⟩) ?_ ?_; rotate_left; (· (intro w'; go_simp; with_reducible rfl)); rotate_left; (· (simp only [np]; rfl))
    refine take_ (i := 0) (N := some 11) (v := ?_) (a' := ?_) (bl 13 97) rfl rfl (by kernel_rfl) (fun _ _ _ h => h) (Or.inl ⟨by rfl, ?_⟩) hHeld ?_ ?_; rotate_left; (· (rintro w' ⟨s0, s1, s2, s3, s4, s5, s6, s7, s8, s9, s10⟩; go_simp; with_reducible rfl)); rotate_left; (· (simp only [np]; rfl))
    refine take_ (i := 2) (N := some 13) (v := ?_) (a' := ?_) (bl 13 101) rfl rfl (by kernel_rfl) (fun _ _ _ h => h) (Or.inl ⟨by rfl, ?_⟩) hHeld ?_ ?_; rotate_left; (· (rintro w' ⟨s0, s1, s2, s3, s4, s5, s6, s7, s8, s9, s10⟩; go_simp; with_reducible rfl)); rotate_left; (· (simp only [np]; rfl))
    refine take_ (i := 4) (N := some 15) (v := ?_) (a' := ?_) (bl 13 117) rfl rfl (by kernel_rfl) (fun _ _ _ h => h) (Or.inl ⟨by rfl, ?_⟩) hHeld ?_ ?_; rotate_left; (· (rintro w' ⟨s0, s1, s2, s3, s4, s5, s6, s7, s8, s9, s10⟩; go_simp; with_reducible rfl)); rotate_left; (· (simp only [np]; rfl))
    refine one_ (i := 1) (N := some 12) (bl 13 119) rfl rfl (by kernel_rfl) (by decide) (fun K hK => ?_)
    refine goes_ Tryz.func30 (by kernel_rfl) rfl #[ndV x A3 c3 A4 c4] (by rfl) rfl rfl (by simp only [List.map_toArray, List.map_cons, List.map_nil]; rfl) ?_
    refine (rnodeOf30q w.drew dx x H.out.1.ne H.out.1.wf A3 A4 c3 c4 (H.out.2.2.2.1.below (below_drew (Below.refl _ _)))).mono ?_
    rintro e w7 ⟨r1, b1, rfl, hr1, hp1, hb7⟩
    have H7 := Lib.hid (And.intro hr1 (And.intro hp1 hb7))
    have HB7 := Lib.hid hb7
    clear hr1 hp1 hb7
    refine ⟨_, rfl, ?_⟩
    refine hK.out _ _ ⟨(HB7.out.cell (World.block_lt_of_cell? _ _ hHeld.1)).trans hHeld.1, (HB7.out.cell (World.block_lt_of_cell? _ _ hHeld.2.1)).trans hHeld.2.1, (HB7.out.cell (World.block_lt_of_cell? _ _ hHeld.2.2.1)).trans hHeld.2.2.1, (HB7.out.cell (World.block_lt_of_cell? _ _ hHeld.2.2.2.1)).trans hHeld.2.2.2.1, (HB7.out.cell (World.block_lt_of_cell? _ _ hHeld.2.2.2.2.1)).trans hHeld.2.2.2.2.1, (HB7.out.cell (World.block_lt_of_cell? _ _ hHeld.2.2.2.2.2.1)).trans hHeld.2.2.2.2.2.1, (HB7.out.cell (World.block_lt_of_cell? _ _ hHeld.2.2.2.2.2.2.1)).trans hHeld.2.2.2.2.2.2.1, (HB7.out.cell (World.block_lt_of_cell? _ _ hHeld.2.2.2.2.2.2.2.1)).trans hHeld.2.2.2.2.2.2.2.1, (HB7.out.cell (World.block_lt_of_cell? _ _ hHeld.2.2.2.2.2.2.2.2.1)).trans hHeld.2.2.2.2.2.2.2.2.1, (HB7.out.cell (World.block_lt_of_cell? _ _ hHeld.2.2.2.2.2.2.2.2.2.1)).trans hHeld.2.2.2.2.2.2.2.2.2.1, (HB7.out.cell (World.block_lt_of_cell? _ _ hHeld.2.2.2.2.2.2.2.2.2.2)).trans hHeld.2.2.2.2.2.2.2.2.2.2⟩ (fun hHeld => ?_)
    clear hK K
    refine norm_ (a' := ?_) ?_ ?_; rotate_left; (· (show Act.put _ (some 12) _ = _; simp only [np]; rfl))
    refine one_ (i := 3) (N := some 14) (bl 13 127) rfl rfl (by kernel_rfl) (by decide) (fun K hK => ?_)
    refine goes_ Tryz.func30 (by kernel_rfl) rfl #[ndV y B3 d3 B4 d4] (by rfl) rfl rfl (by simp only [List.map_toArray, List.map_cons, List.map_nil]; rfl) ?_
    refine (rnodeOf30q w7 dy y H.out.2.1.ne H.out.2.1.wf B3 B4 d3 d4 (H.out.2.2.2.2.1.below ((below_drew (Below.refl w.heap.size w)).trans HB7.out))).mono ?_
    rintro e w8 ⟨r2, b2, rfl, hr2, hp2, hb8⟩
    have H8 := Lib.hid (And.intro hr2 (And.intro hp2 hb8))
    have HB8 := Lib.hid hb8
    clear hr2 hp2 hb8
    refine ⟨_, rfl, ?_⟩
    refine hK.out _ _ ⟨(HB8.out.cell (World.block_lt_of_cell? _ _ hHeld.1)).trans hHeld.1, (HB8.out.cell (World.block_lt_of_cell? _ _ hHeld.2.1)).trans hHeld.2.1, (HB8.out.cell (World.block_lt_of_cell? _ _ hHeld.2.2.1)).trans hHeld.2.2.1, (HB8.out.cell (World.block_lt_of_cell? _ _ hHeld.2.2.2.1)).trans hHeld.2.2.2.1, (HB8.out.cell (World.block_lt_of_cell? _ _ hHeld.2.2.2.2.1)).trans hHeld.2.2.2.2.1, (HB8.out.cell (World.block_lt_of_cell? _ _ hHeld.2.2.2.2.2.1)).trans hHeld.2.2.2.2.2.1, (HB8.out.cell (World.block_lt_of_cell? _ _ hHeld.2.2.2.2.2.2.1)).trans hHeld.2.2.2.2.2.2.1, (HB8.out.cell (World.block_lt_of_cell? _ _ hHeld.2.2.2.2.2.2.2.1)).trans hHeld.2.2.2.2.2.2.2.1, (HB8.out.cell (World.block_lt_of_cell? _ _ hHeld.2.2.2.2.2.2.2.2.1)).trans hHeld.2.2.2.2.2.2.2.2.1, (HB8.out.cell (World.block_lt_of_cell? _ _ hHeld.2.2.2.2.2.2.2.2.2.1)).trans hHeld.2.2.2.2.2.2.2.2.2.1, (HB8.out.cell (World.block_lt_of_cell? _ _ hHeld.2.2.2.2.2.2.2.2.2.2)).trans hHeld.2.2.2.2.2.2.2.2.2.2⟩ (fun hHeld => ?_)
    clear hK K
    refine norm_ (a' := ?_) ?_ ?_; rotate_left; (· (show Act.put _ (some 14) _ = _; simp only [np]; rfl))
    refine one_ (i := 7) (N := some 18) (bl 13 255) rfl rfl (by kernel_rfl) (by decide) (fun K hK => ?_)
    refine goes_ Tryz.func29 (by kernel_rfl) rfl #[.pointer (some ⟨r1, 0, none⟩), .pointer (some ⟨r2, 0, none⟩), .bool infer, .agg #[.int .i64 1]] (by rfl) rfl rfl (by simp only [List.map_toArray, List.map_cons, List.map_nil]; rfl) ?_
    have hps := H7.out.2.1.bound
    have hpd := H8.out.2.1.bound
    refine (H.out.2.2.1 w8 r2 r1 b2 b1 _ _ hpd (hps.under HB8.out) (fun k hk => hk.2) (fun k hk => hk.2.under HB8.out) (fun k h1 h2 => Nat.lt_irrefl _ (Nat.lt_of_lt_of_le h2.2.lt h1.1)) H8.out.1 (H7.out.1.under HB8.out) 1).mono ?_
    rintro e w9 ⟨r, b, ym, F, rfl, h1, h2, h3, h4⟩
    have HB9 := Lib.hid (show Below w.heap.size w w9 from (((below_drew (Below.refl w.heap.size w)).trans HB7.out).trans (HB8.out.mono (show w.heap.size ≤ w7.heap.size from HB7.out.size))).trans (h4.below (Nat.le_trans (show w.heap.size ≤ w7.heap.size from HB7.out.size) HB8.out.size) fun k _ hk => Nat.le_trans (show w.heap.size ≤ w7.heap.size from HB7.out.size) hk.1))
    have HZ := Lib.hid (And.intro h1 (And.intro h2 h3))
    clear h1 h2 h3 h4 hps hpd
    refine ⟨_, rfl, ?_⟩
    refine hK.out _ _ ⟨(HB9.out.cell (World.block_lt_of_cell? w _ (x0))).trans (x0), (HB9.out.cell (World.block_lt_of_cell? w _ (x1))).trans (x1), (HB9.out.cell (World.block_lt_of_cell? w _ (x2))).trans (x2), (HB9.out.cell (World.block_lt_of_cell? w _ (x3))).trans (x3), (HB9.out.cell (World.block_lt_of_cell? w _ (x4))).trans (x4), (HB9.out.cell (World.block_lt_of_cell? w _ (y0))).trans (y0), (HB9.out.cell (World.block_lt_of_cell? w _ (y1))).trans (y1), (HB9.out.cell (World.block_lt_of_cell? w _ (y2))).trans (y2), (HB9.out.cell (World.block_lt_of_cell? w _ (y3))).trans (y3), (HB9.out.cell (World.block_lt_of_cell? w _ (y4))).trans (y4), (HB9.out.cell (World.block_lt_of_cell? w _ (i0))).trans (i0)⟩ (fun hHeld => ?_)
    clear hK K
    refine norm_ (a' := ?_) ?_ ?_; rotate_left; (· (show Act.put _ (some 18) _ = _; simp only [np]; rfl))
    refine pure_ (i := 8) (N := some 10) (v := ?_) (a' := ?_) (bl 13 511) rfl rfl (by kernel_rfl) (fun _ _ _ h => h) (Or.inl ⟨by rfl, ?_⟩) ?_ ?_; rotate_left; (· (intro w'; go_simp; with_reducible rfl)); rotate_left; (· (simp only [np]; rfl))
    refine pure_ (i := 9) (N := some 19) (v := ?_) (a' := ?_) (bl 13 1023) rfl rfl (by kernel_rfl) (fun _ _ _ h => h) (Or.inl ⟨by rfl, ?_⟩) ?_ ?_; rotate_left; (· (intro w'; go_simp; with_reducible rfl)); rotate_left; (· (simp only [np]; rfl))
    refine pure_ (i := 10) (N := some 20) (v := ?_) (a' := ?_) (bl 13 2047) rfl rfl (by kernel_rfl) (fun _ _ _ h => h) (Or.inl ⟨by rfl, ?_⟩) ?_ ?_; rotate_left; (· (intro w'; go_simp; with_reducible rfl)); rotate_left; (· (simp only [np]; rfl))
    refine pure_ (i := 11) (N := some 7) (v := ?_) (a' := ?_) (bl 13 4095) rfl rfl (by kernel_rfl) (fun _ _ _ h => h) (Or.inl ⟨by rfl, ?_⟩) ?_ ?_; rotate_left; (· (intro w'; go_simp; with_reducible rfl)); rotate_left; (· (simp only [np]; rfl))
    refine pure_ (i := 12) (N := some 8) (v := ?_) (a' := ?_) (bl 13 8191) rfl rfl (by kernel_rfl) (fun _ _ _ h => h) (Or.inl ⟨by rfl, ?_⟩) ?_ ?_; rotate_left; (· (intro w'; go_simp; with_reducible rfl)); rotate_left; (· (simp only [np]; rfl))
    refine done_ (by kernel_rfl) ?_
    go_wp2_with fail
    refine (told31 w9 D ym r b F HZ.out.1 HZ.out.2.2 (hsz ym HZ.out.2.1)).mono ?_
    rintro e w10 ⟨M3, m3, M4, m4, rfl, hng, hb10⟩
    have HT := Lib.hid (And.intro hng hb10)
    have hbo := ((HB9.out.trans (hb10.mono HB9.out.size)).block bo (lt_of_block H.out.2.2.2.2.2)).trans H.out.2.2.2.2.2
    have z0 := blk_frozen hbo 0
    have z1 := blk_frozen hbo 1
    have z2 := blk_frozen hbo 2
    have z3 := blk_frozen hbo 3
    have z4 := blk_frozen hbo 4
    have k0 := (blk_cell hbo 0).trans (show _ = some (.int .i64 0) from rfl)
    have k1 := (blk_cell hbo 1).trans (show _ = some (.string noStr) from rfl)
    have k2 := (blk_cell hbo 2).trans (show _ = some (.string noStr) from rfl)
    have k3 := (blk_cell hbo 3).trans (show _ = some nilS from rfl)
    have k4 := (blk_cell hbo 4).trans (show _ = some nilS from rfl)
    have HBO := Lib.hid hbo
    clear hng hb10 hbo
    go_wp2_with fail
    have hk := keep_put5 w10 bo (.int .i64 ym.f0) (.string ym.f1) (.string ym.f2) (.slice M3 ym.f3.length m3) (.slice M4 ym.f4.length m4)
    have hlt := lt_of_block H.out.2.2.2.2.2
    have hs9 := HB9.out.size
    refine bodyPost_ret (v := .bool true) (by simp [results, Tryz.results28, go_sem]) rfl ⟨rfl, ym, M3, m3, M4, m4, HZ.out.2.1, put5_blk HBO.out _ _ _ _ _, ?_, ?_⟩
    · exact (HT.out.1.keep hk fun k h1 h2 => by omega).mono fun k hk' => by omega
    · exact (Keep.of_below (HB9.out.trans (HT.out.2.mono HB9.out.size)) fun k => k = bo).trans hk fun k _ e => e
end Go.Proofs.YtghmajlfmoggfaaGreat
namespace Go.Proofs.YtghmajlfmoggfaaGreat
open Go.RowKit Go.Proofs.YtghmajlfmoggfaaGreatW.PrintWords Go.Proofs.YtghmajlfmoggfaaGreatW.PrintLast PFnMerge
def M2R (R : S25 → Prop) (w : World) (e : Ending) (w' : World) : Prop := ∃ ym A3 c3 A4 c4, e = .returned (.tuple #[ndV ym A3 c3 A4 c4, .bool true]) ∧ R ym ∧ NdR w' ym A3 c3 A4 c4 ∧ Below w.heap.size w w'
structure MBq (w : World) (cx cy : Array Value) (infer ahead : Bool) (W : World) : Prop where
  below : Below w.heap.size w W
  bx : W.heap[w.heap.size]? = some (.cells cx 25 (0, 0))
  by_ : W.heap[w.heap.size + 1]? = some (.cells cy 25 (0, 0))
  bi : W.heap[w.heap.size + 1 + 1]? = some (.cells #[.bool infer] 4 (0, 0))
  ba : W.heap[w.heap.size + 1 + 1 + 1]? = some (.cells #[.bool ahead] 4 (0, 0))
  br : W.heap[w.heap.size + 1 + 1 + 1 + 1]? = some (.cells #[.int .i64 0, .string noStr, .string noStr, nilS, nilS] 25 (0, 0))
  bo : W.heap[w.heap.size + 1 + 1 + 1 + 1 + 1]? = some (.cells #[.int .i64 0, .string noStr, .string noStr, nilS, nilS] 25 (0, 0))
theorem MBq.under {w : World} {cx cy : Array Value} {infer ahead : Bool} {W W' : World} (h : MBq w cx cy infer ahead W) (hb : Below W.heap.size W W') : MBq w cx cy infer ahead W' :=
  ⟨h.below.trans (hb.mono h.below.size), (hb.block _ (lt_of_block h.bx)).trans h.bx, (hb.block _ (lt_of_block h.by_)).trans h.by_, (hb.block _ (lt_of_block h.bi)).trans h.bi, (hb.block _ (lt_of_block h.ba)).trans h.ba, (hb.block _ (lt_of_block h.br)).trans h.br, (hb.block _ (lt_of_block h.bo)).trans h.bo⟩
set_option maxRecDepth 20000 in
set_option maxHeartbeats 4000000 in
theorem merge2_13q {infer : Bool} {R : S25 → Prop} {dx dy D : Nat} (w : World) (x y : S25) (hx : TakC dx x) (hy : TakC dy y) (hal : ZzC infer y x R) (hsz : ∀ m, R m → SzN D m) (A3 A4 B3 B4 : Option Addr) (c3 c4 d3 d4 : Nat) (hxr : NdR w x A3 c3 A4 c4) (hyr : NdR w y B3 d3 B4 d4) (ahead : Bool) :
    Calls Tryz.prog 13 #[ndV x A3 c3 A4 c4, ndV y B3 d3 B4 d4, .bool infer, .bool ahead] w fun e w' => M2R R w e w' := by
  have hmf : ∀ (fn : Fn) (first cap : Array Value) (w : World), (Instr.makeFunc fn first cap).run Tryz.prog w = .ok (.func fn first cap) w := fun _ _ _ _ => rfl
  have H := Lib.hid (And.intro hx (And.intro hy (And.intro hal (And.intro hxr hyr))))
  clear hx hy hal hxr hyr
  go_enter Tryz.func13, Tryz.ntmps13
  go_wp2_with fail
  have hm0 : MBq w #[.int .i64 x.f0, .string x.f1, .string x.f2, .slice A3 x.f3.length c3, .slice A4 x.f4.length c4] #[.int .i64 y.f0, .string y.f1, .string y.f2, .slice B3 y.f3.length d3, .slice B4 y.f4.length d4] infer ahead ((((((w.alloc (.cells #[.int .i64 x.f0, .string x.f1, .string x.f2, .slice A3 x.f3.length c3, .slice A4 x.f4.length c4] 25)).alloc (.cells #[.int .i64 y.f0, .string y.f1, .string y.f2, .slice B3 y.f3.length d3, .slice B4 y.f4.length d4] 25)).alloc (.cells #[.bool infer] 4)).alloc (.cells #[.bool ahead] 4)).alloc (.cells #[.int .i64 0, .string noStr, .string noStr, nilS, nilS] 25)).alloc (.cells #[.int .i64 0, .string noStr, .string noStr, nilS, nilS] 25)) :=
    ⟨below_alloc (below_alloc (below_alloc (below_alloc (below_alloc (below_alloc (Below.refl _ _) _) _) _) _) _) _, blk_old _ (blk_old _ (blk_old _ (blk_old _ (blk_old _ (blk_new rfl _))))), blk_old _ (blk_old _ (blk_old _ (blk_old _ (blk_new (by simp) _)))), blk_old _ (blk_old _ (blk_old _ (blk_new (by simp) _))), blk_old _ (blk_old _ (blk_new (by simp) _)), blk_old _ (blk_new (by simp) _), blk_new (by simp) _⟩
  have HM0 := Lib.hid hm0
  clear hm0
  refine (taken26q _ x H.out.1 A3 A4 c3 c4 (H.out.2.2.2.1.below HM0.out.below)).mono ?_
  rintro e w1 ⟨rfl, hb1⟩
  have HM1 := Lib.hid (HM0.out.under hb1)
  clear hb1
  have y0 : w1.cell? ⟨w.heap.size + 1, 0, none⟩ = some (.int .i64 y.f0) := (blk_cell HM1.out.by_ 0).trans rfl
  have y1 : w1.cell? ⟨w.heap.size + 1, 1, none⟩ = some (.string y.f1) := (blk_cell HM1.out.by_ 1).trans rfl
  have y2 : w1.cell? ⟨w.heap.size + 1, 2, none⟩ = some (.string y.f2) := (blk_cell HM1.out.by_ 2).trans rfl
  have y3 : w1.cell? ⟨w.heap.size + 1, 3, none⟩ = some (.slice B3 y.f3.length d3) := (blk_cell HM1.out.by_ 3).trans rfl
  have y4 : w1.cell? ⟨w.heap.size + 1, 4, none⟩ = some (.slice B4 y.f4.length d4) := (blk_cell HM1.out.by_ 4).trans rfl
  go_wp2_with fail
  refine (taken26q w1 y H.out.2.1 B3 B4 d3 d4 (H.out.2.2.2.2.below HM1.out.below)).mono ?_
  rintro e w2 ⟨rfl, hb2⟩
  have HM2 := Lib.hid (HM1.out.under hb2)
  clear hb2 y0 y1 y2 y3 y4
  go_wp2_with fail
  have HM3 := Lib.hid (HM2.out.under (below_alloc (Below.refl _ _) (.cells #[.bool false] 4)))
  have hbo := lt_of_block HM2.out.bo
  refine (tried27 w2 _ (fun w' => ∃ ym M3 m3 M4 m4, R ym ∧ w'.heap[w.heap.size + 1 + 1 + 1 + 1 + 1]? = some (.cells #[.int .i64 ym.f0, .string ym.f1, .string ym.f2, .slice M3 ym.f3.length m3, .slice M4 ym.f4.length m4] 25 (0, 0)) ∧ NdG w' (fun k => (w2.alloc (.cells #[.bool false] 4)).heap.size ≤ k) ym M3 m3 M4 m4 ∧ Keep (fun k => k = w.heap.size + 1 + 1 + 1 + 1 + 1) (w2.alloc (.cells #[.bool false] 4)) w') (merge28q (w2.alloc (.cells #[.bool false] 4)) x y H.out.1 H.out.2.1 H.out.2.2.1 hsz A3 A4 B3 B4 c3 c4 d3 d4 (H.out.2.2.2.1.below HM3.out.below) (H.out.2.2.2.2.below HM3.out.below) _ _ _ _ _ ahead HM3.out.ba HM3.out.bx HM3.out.by_ HM3.out.bi HM3.out.bo) ?hk).mono ?_
  case hk =>
    rintro w' ⟨ym, M3, m3, M4, m4, _, _, _, hk⟩
    exact hk.at_ (blk_new rfl _) (by omega)
  rintro e w3' ⟨rfl, w3, ⟨ym, M3, m3, M4, m4, hmr, hbo3, hng, hk⟩, rfl⟩
  have hkb : Keep (fun k => k = w.heap.size + 1 + 1 + 1 + 1 + 1 ∨ k = w2.heap.size) (w2.alloc (.cells #[.bool false] 4)) (w3.setCell ⟨w2.heap.size, 0, none⟩ (.bool true)) := (hk.mono fun k _ e => .inl e).setCell _ _ fun _ => .inr rfl
  have hbo4 : (w3.setCell ⟨w2.heap.size, 0, none⟩ (.bool true)).heap[w.heap.size + 1 + 1 + 1 + 1 + 1]? = some (.cells #[.int .i64 ym.f0, .string ym.f1, .string ym.f2, .slice M3 ym.f3.length m3, .slice M4 ym.f4.length m4] 25 (0, 0)) := blk_else _ (by show _ ≠ w2.heap.size; omega) hbo3
  have hbr4 := hkb.at_ HM3.out.br (by omega)
  have hng4 : NdG (w3.setCell ⟨w2.heap.size, 0, none⟩ (.bool true)) (fun k => w2.heap.size < k) ym M3 m3 M4 m4 := (hng.keep ((Keep.refl (fun k => k = w2.heap.size) w3).setCell _ _ fun _ => rfl) fun k h1 h2 => by simp at h1; omega).mono fun k h1 => by simp at h1; omega
  have hsz := HM2.out.below.size
  have hbl : Below w.heap.size w (w3.setCell ⟨w2.heap.size, 0, none⟩ (.bool true)) := HM3.out.below.trans (hkb.below HM3.out.below.size fun k _ e => by omega)
  have HW3' := Lib.hid (And.intro hbo4 (And.intro hbr4 (And.intro hng4 (And.intro hbl (And.intro hmr hbo)))))
  obtain ⟨w4, hw4⟩ : ∃ w4, w4 = w3.setCell ⟨w2.heap.size, 0, none⟩ (.bool true) := ⟨_, rfl⟩
  rw [← hw4] at HW3'
  rw [← hw4]
  clear hw4 hkb hbo4 hbr4 hng4 hbl hmr hbo3 hng hk hbo hsz
  have HW3 := HW3'
  clear HW3'
  have o0 : w4.cell? ⟨w.heap.size + 1 + 1 + 1 + 1 + 1, 0, none⟩ = some (.int .i64 ym.f0) := (blk_cell HW3.out.1 0).trans rfl
  have o1 : w4.cell? ⟨w.heap.size + 1 + 1 + 1 + 1 + 1, 1, none⟩ = some (.string ym.f1) := (blk_cell HW3.out.1 1).trans rfl
  have o2 : w4.cell? ⟨w.heap.size + 1 + 1 + 1 + 1 + 1, 2, none⟩ = some (.string ym.f2) := (blk_cell HW3.out.1 2).trans rfl
  have o3 : w4.cell? ⟨w.heap.size + 1 + 1 + 1 + 1 + 1, 3, none⟩ = some (.slice M3 ym.f3.length m3) := (blk_cell HW3.out.1 3).trans rfl
  have o4 : w4.cell? ⟨w.heap.size + 1 + 1 + 1 + 1 + 1, 4, none⟩ = some (.slice M4 ym.f4.length m4) := (blk_cell HW3.out.1 4).trans rfl
  have r0 : w4.cell? ⟨w.heap.size + 1 + 1 + 1 + 1, 0, none⟩ = some (.int .i64 0) := (blk_cell HW3.out.2.1 0).trans rfl
  have rz0 := blk_frozen HW3.out.2.1 0
  have r1 : w4.cell? ⟨w.heap.size + 1 + 1 + 1 + 1, 1, none⟩ = some (.string noStr) := (blk_cell HW3.out.2.1 1).trans rfl
  have rz1 := blk_frozen HW3.out.2.1 1
  have r2 : w4.cell? ⟨w.heap.size + 1 + 1 + 1 + 1, 2, none⟩ = some (.string noStr) := (blk_cell HW3.out.2.1 2).trans rfl
  have rz2 := blk_frozen HW3.out.2.1 2
  have r3 : w4.cell? ⟨w.heap.size + 1 + 1 + 1 + 1, 3, none⟩ = some (nilS) := (blk_cell HW3.out.2.1 3).trans rfl
  have rz3 := blk_frozen HW3.out.2.1 3
  have r4 : w4.cell? ⟨w.heap.size + 1 + 1 + 1 + 1, 4, none⟩ = some (nilS) := (blk_cell HW3.out.2.1 4).trans rfl
  have rz4 := blk_frozen HW3.out.2.1 4
  go_wp2_with fail
  have hfar := keep_put5 w4 (w.heap.size + 1 + 1 + 1 + 1) (.int .i64 ym.f0) (.string ym.f1) (.string ym.f2) (.slice M3 ym.f3.length m3) (.slice M4 ym.f4.length m4)
  refine bodyPost_ret (results_ct rfl _ _ (w.heap.size + 1 + 1 + 1 + 1) 25 #[.int .i64 ym.f0, .string ym.f1, .string ym.f2, .slice M3 ym.f3.length m3, .slice M4 ym.f4.length m4] (0, 0) _ rfl (put5_blk HW3.out.2.1 _ _ _ _ _) Tryz.underlying25 rfl (by kernel_rfl)) rfl ?_
  have hbo := HW3.out.2.2.2.2.2
  exact ⟨ym, M3, m3, M4, m4, rfl, HW3.out.2.2.2.2.1, (HW3.out.2.2.1.keep hfar fun k h1 h2 => by omega).now, HW3.out.2.2.2.1.trans (hfar.below HW3.out.2.2.2.1.size fun k _ e => by omega)⟩
end Go.Proofs.YtghmajlfmoggfaaGreat
namespace Go.Proofs.YtghmajlfmoggfaaGreat
open Go.RowKit Go.Proofs.YtghmajlfmoggfaaGreatW.PrintWords Go.Proofs.YtghmajlfmoggfaaGreatW.PrintLast PFnMerge
abbrev nullStr : ByteArray := ⟨#[110, 117, 108, 108]⟩
abbrev nullN : S25 := ⟨1, nullStr, nullTag, [], []⟩
theorem null_plain (w : World) : Calls Tryz.prog 52 #[.string nullStr] w fun e w' => SaysQ true w e w' :=
  plain52 nullStr (by decide) (by decide) (by decide +kernel) (fun i hi => .inl (by
    match i, hi with
    | 0, _ => decide +kernel
    | 1, _ => decide +kernel
    | 2, _ => decide +kernel
    | 3, _ => decide +kernel)) w
theorem cn_take {cn : S25 → Nat} {l : List S25} {j : Nat} {y : S25} (h : l[j]? = some y) : ((l.take (j + 1)).map cn).sum = ((l.take j).map cn).sum + cn y := by
  rw [List.take_add_one, h]
  simp
theorem cn_pref {cn : S25 → Nat} {l : List S25} {j : Nat} : ((l.take j).map cn).sum ≤ (l.map cn).sum := by
  induction l generalizing j with
  | nil => simp
  | cons a l ih =>
    cases j with
    | zero => simp
    | succ j => simp only [List.take_succ_cons, List.map_cons, List.sum_cons]; have := ih (j := j); omega
theorem no200b {n m : Nat} (h : n + m ≤ 100) : ¬ (200 : Int) < (n : Int) + (m : Int) := by omega
theorem wr100 {n m : Nat} (h : n + m ≤ 100) : wrap64 ((n : Int) + (m : Int)) = (n : Int) + (m : Int) := by unfold wrap64; omega
set_option maxRecDepth 20000 in
set_option maxHeartbeats 4000000 in
theorem count43_null (w : World) (A3 A4 : Option Addr) (c3 c4 : Nat) (dp : Int) (h1 : 1 ≤ dp) (h2 : dp ≤ 12) :
    Calls Tryz.prog 43 #[ndV nullN A3 c3 A4 c4, .int .i64 dp] w fun e w' => CntQ 1 w e w' := by
  have hd12 : ¬ (12 : Int) < dp := by omega
  have hargs : ndV nullN A3 c3 A4 c4 = .agg #[.int .i64 1, .string nullStr, .string nullTag, .slice A3 0 c3, .slice A4 0 c4] := rfl
  rw [hargs]
  clear hargs h1 h2
  obtain ⟨f1, hf1⟩ : ∃ f1, f1 = nullStr := ⟨_, rfl⟩
  obtain ⟨f2, hf2⟩ : ∃ f2, f2 = nullTag := ⟨_, rfl⟩
  have hk1 := null_plain
  have hk2 : ∀ w, Calls Tryz.prog 53 #[.string nullStr, .string nullTag] w fun e w' => SaysQ true w e w' := typed53_null
  rw [← hf1] at hk1
  rw [← hf1, ← hf2] at hk2
  rw [← hf1, ← hf2]
  have HK := Lib.hid (And.intro hk1 hk2)
  clear hk1 hk2 hf1 hf2
  go_enter Tryz.func43, Tryz.ntmps43
  go_wp2_with fail
  refine (HK.out.1 _).mono ?_
  rintro e w' ⟨rfl, nd, rfl⟩
  go_wp2_with fail
  refine (HK.out.2 _).mono ?_
  rintro e w' ⟨rfl, nd2, rfl⟩
  go_wp2_with fail
  refine bodyPost_ret (v := .int .i64 1) (by simp [results, Tryz.results43, go_sem]) rfl ⟨rfl, ?_⟩
  exact pw_below_drewN (below_alloc (Below.refl _ _) _) _
set_option maxRecDepth 20000 in
set_option maxHeartbeats 8000000 in
theorem count43m (cn : S25 → Nat) (x : S25) (w : World) (A3 A4 : Option Addr) (c3 c4 : Nat) (h : NdR w x A3 c3 A4 c4) (dp : Int) (hdp : 1 ≤ dp) (hdd : dp ≤ 12) (e0 : x.f0 = 2) (e1 : x.f1 = noStr) (e2 : x.f2 = noStr) (hlen : x.f3.length = x.f4.length) (hnd : x.f3.Nodup) (hwd : ∀ k ∈ x.f3, WordP k)
    (hsum : 1 + (x.f4.map cn).sum ≤ 100) (hl : x.f4.length ≤ 100) (hit : ∀ y ∈ x.f4, ∀ (w : World) (A3 A4 : Option Addr) (c3 c4 : Nat), NdR w y A3 c3 A4 c4 → ∀ dp' : Int, dp' = dp + 1 → Calls Tryz.prog 43 #[ndV y A3 c3 A4 c4, .int .i64 dp'] w fun e w' => CntQ (cn y) w e w') :
    Calls Tryz.prog 43 #[ndV x A3 c3 A4 c4, .int .i64 dp] w fun e w' => CntQ (1 + (x.f4.map cn).sum) w e w' := by
  obtain ⟨f0, f1, f2, f3, f4⟩ := x
  have hd12 : ¬ (12 : Int) < dp := by omega
  have hdw : wrap64 (dp + 1) = dp + 1 := wr _ (by omega) (by omega)
  have HI := Lib.hid hit
  clear hdp hdd hit
  obtain ⟨L3, hL3⟩ : ∃ L3, L3 = f3.length := ⟨_, rfl⟩
  obtain ⟨L4, hL4⟩ : ∃ L4, L4 = f4.length := ⟨_, rfl⟩
  have hargs : ndV ⟨f0, f1, f2, f3, f4⟩ A3 c3 A4 c4 = .agg #[.int .i64 f0, .string f1, .string f2, .slice A3 L3 c3, .slice A4 L4 c4] := by rw [hL3, hL4]
  rw [hargs]
  clear hargs
  have HC := Lib.hid (show CI w #[.int .i64 f0, .string f1, .string f2, .slice A3 L3 c3, .slice A4 L4 c4] (w.alloc (.cells #[.int .i64 f0, .string f1, .string f2, .slice A3 L3 c3, .slice A4 L4 c4] 25)) from ⟨below_alloc (Below.refl _ _) _, blk_new rfl _⟩)
  have hNb : (L4 : Int) ≤ 1000000 := by simp only at hl; omega
  have hx := hsum
  have HX := Lib.hid (And.intro hx (And.intro h (And.intro hL3 hL4)))
  clear hsum hl
  simp only at e0 e1 e2 hlen hnd hwd
  subst e0; subst e1; subst e2
  obtain rfl : L4 = L3 := by omega
  obtain ⟨L, hLL⟩ : ∃ L, L = L4 := ⟨_, rfl⟩
  subst hLL
  have HP := Lib.hid (And.intro hlen (And.intro hnd hwd))
  clear hx h hL3 hL4 hlen hnd hwd
  go_enter Tryz.func43, Tryz.ntmps43
  go_wp2_with fail
  go_loopg [61] L (fun k i wr => ∃ j : Nat, j + k = L ∧ i = .int .i64 (j : Int) ∧ Hid (CI w #[.int .i64 2, .string noStr, .string noStr, .slice A3 L c3, .slice A4 L c4] wr))
  case atStart => exact ⟨0, by omega, rfl, HC⟩
  case round =>
    obtain ⟨j, hj, rfl, hI⟩ := hrel
    by_cases hlt : 1 ≤ gk
    · have hj2 : (j : Int) < (L : Int) := by omega
      have hj3 : j < L := by omega
      have hjl : j < f3.length := by have := HX.out.2.2.1; omega
      obtain ⟨key, hkey⟩ : ∃ key, f3[j]? = some key := ⟨_, List.getElem?_eq_getElem hjl⟩
      have hcap : L ≤ c3 := by have h1 := HX.out.2.1.kcap; have := HX.out.2.2.1; simp only at h1; omega
      have hcap2 : (j : Int) ≤ (c3 : Int) := by omega
      have hcap3 : j ≤ c3 := by omega
      obtain ⟨ad3, rfl, x3⟩ := str_at (HX.out.2.1.keys) j key hjl hkey
      have x3' := (hI.out.below.cell (World.block_lt_of_cell? w _ x3)).trans x3
      have hk1 := HP.out.2.2 key (List.mem_of_getElem? hkey)
      have htl : (f3.take j).length = j := by rw [List.length_take]; omega
      have hnot : key ∉ f3.take j := fun e => by
        obtain ⟨i, hi⟩ := List.getElem?_of_mem e
        have hl := idx_lt2 hi
        rw [List.length_take] at hl
        rw [List.getElem?_take, if_pos (by omega)] at hi
        have := (List.getElem?_inj (idx_lt2 hi) HP.out.2.1).1 (hi.trans hkey.symm)
        omega
      have q3 : wr.cell? ⟨w.heap.size, 3, none⟩ = some (.slice (some ad3) L c3) := (blk_cell hI.out.box 3).trans rfl
      have HK := Lib.hid (And.intro hk1 (And.intro hnot htl))
      clear hjl hkey hk1 htl hnot x3
      go_wp2_with fail
      refine (HK.out.1.plainC _).mono ?_
      rintro e w' ⟨rfl, nd, rfl⟩
      have q3' : (wr.drewN nd).cell? ⟨w.heap.size, 3, none⟩ = some (.slice (some ad3) L c3) := q3
      go_wp2_with fail
      have hcall := contains54_no (some ad3) c3 (f3.take j) key (wr.drewN nd) (Kd.C_drewN (Kd.C_take (Kd.C_below HX.out.2.1.keys hI.out.below) (by have := HK.out.2.2; rw [List.length_take] at this; simp only; omega)) nd) (by have := HK.out.2.2; omega) (by have := HK.out.2.2; omega) HK.out.2.1
      rw [HK.out.2.2] at hcall
      refine hcall.mono ?_
      clear hcall
      rintro e w' hw'
      have HW' := Lib.hid hw'
      clear hw'
      obtain rfl := HW'.out.1
      go_wp2_with fail
      go_roundg (gk - 1)
      case measure => omega
      case rel => exact ⟨j + 1, by omega, by go_num, Lib.hid ((hI.out.under (pw_below_drewN (Below.refl _ _) nd)).under (by obtain ⟨_, nd2, h2⟩ := HW'.out; rw [h2]; exact pw_below_drewN (Below.refl _ _) nd2))⟩
    · have hqe : ¬ ((j : Int) < (L : Int)) := by omega
      have hqe' : ¬ (j < L) := by omega
      have q4 : wr.cell? ⟨w.heap.size, 4, none⟩ = some (.slice A4 L c4) := (blk_cell hI.out.box 4).trans rfl
      have HW0 := hI
      clear hj hI
      go_wp2_with fail
      go_loopg [97, 5] L (fun k i v wr => ∃ j : Nat, j + k = L ∧ i = .int .i64 (j : Int) ∧ Hid (CI w #[.int .i64 2, .string noStr, .string noStr, .slice A3 L c3, .slice A4 L c4] wr) ∧ v = .int .i64 ((1 + ((f4.take j).map cn).sum : Nat) : Int))
      case atStart => exact ⟨0, by omega, rfl, HW0, by simp⟩
      case round =>
        obtain ⟨j, hj, rfl, hI, rfl⟩ := hrel
        obtain ⟨N, hN⟩ : ∃ N, N = 1 + ((f4.take j).map cn).sum := ⟨_, rfl⟩
        rw [← hN]
        by_cases hlt : 1 ≤ gk
        · have hj2 : (j : Int) < (L : Int) := by omega
          have hj3 : j < L := by omega
          obtain ⟨y, hy⟩ : ∃ y, f4[j]? = some y := ⟨_, List.getElem?_eq_getElem (by have := HX.out.2.2.2; omega)⟩
          obtain ⟨ad4, B3, d3, B4, d4, rfl, y0, y1, y2, y3, y4, hnd2⟩ := (HX.out.2.1.below hI.out.below).frame.item j y hy
          have HY := Lib.hid (And.intro hnd2.now (And.intro hy (List.mem_of_getElem? hy)))
          have hsum : N + cn y ≤ 100 := by
            have h1 := cn_take (cn := cn) hy
            have h2 := cn_pref (cn := cn) (l := f4) (j := j + 1)
            have h3 := HX.out.1
            omega
          obtain ⟨M, hM⟩ : ∃ M, M = cn y := ⟨_, rfl⟩
          have hsum2 : N + M ≤ 100 := by rw [hM]; exact hsum
          have hwr := wr100 hsum2
          have hno := no200b hsum2
          clear hsum2
          have HN := Lib.hid (And.intro hN hM)
          clear hnd2 hy hsum hN hM
          go_wp2_with fail
          refine (HI.out y HY.out.2.2 (wr.alloc (.cells #[.int .i64 y.f0, .string y.f1, .string y.f2, .slice B3 y.f3.length d3, .slice B4 y.f4.length d4] 25)) B3 B4 d3 d4 (HY.out.1.below (below_alloc (Below.refl _ _) _)) (dp + 1) rfl).mono ?_
          rintro e w' ⟨rfl, hb⟩
          rw [← HN.out.2]
          have HB := Lib.hid hb
          clear hb
          go_wp2_with fail
          go_roundg (gk - 1)
          case measure => omega
          case rel =>
            refine ⟨j + 1, by omega, by go_num, Lib.hid ((hI.out.under (below_alloc (Below.refl _ _) _)).under HB.out), ?_⟩
            rw [cn_take HY.out.2.1, ← Nat.add_assoc, ← HN.out.1, ← HN.out.2]
            try simp only [Int.natCast_add]
        · have hqe : ¬ ((j : Int) < (L : Int)) := by omega
          have hqe' : ¬ (j < L) := by omega
          have hjl : j = f4.length := by have := HX.out.2.2.2; omega
          rw [hjl, List.take_of_length_le (Nat.le_refl _)] at hN
          have HN := Lib.hid hN
          clear hN hjl
          go_wp2_with fail
          exact bodyPost_ret (v := .int .i64 (N : Int)) (by simp [results, Tryz.results43, go_sem]) rfl ⟨by rw [HN.out], hI.out.below⟩
theorem right36q {N : Nat} {x : S25} (hle : N ≤ 200) (hc : ∀ (w : World) (A3 A4 : Option Addr) (c3 c4 : Nat), NdR w x A3 c3 A4 c4 → Calls Tryz.prog 43 #[ndV x A3 c3 A4 c4, .int .i64 1] w fun e w' => CntQ N w e w') : RightC x := by
  intro w A3 A4 c3 c4 h
  have hb1 := below_alloc (Below.refl w.heap.size w) (.cells #[.int .i64 x.f0, .string x.f1, .string x.f2, .slice A3 x.f3.length c3, .slice A4 x.f4.length c4] 25)
  have HB := Lib.hid hb1
  have H := Lib.hid (And.intro h hc)
  have hle : (N : Int) ≤ 200 := by omega
  clear hb1 h hc
  go_enter Tryz.func36, Tryz.ntmps36
  go_wp2_with fail
  refine (H.out.2 _ A3 A4 c3 c4 (H.out.1.below HB.out)).mono ?_
  rintro e w' ⟨rfl, hb⟩
  have HB2 := Lib.hid hb
  clear hb
  go_wp2_with fail
  exact bodyPost_ret (v := .bool true) (by simp [results, Tryz.results36, go_sem]) rfl ⟨rfl, HB.out.trans (HB2.out.mono HB.out.size)⟩
structure TreeX (d : Nat) (nm : ByteArray) (x : S25) : Prop where
  f0 : x.f0 = 2
  f1 : x.f1 = noStr
  f2 : x.f2 = noStr
  len : x.f3.length = x.f4.length
  nodup : x.f3.Nodup
  word : ∀ k ∈ x.f3, WordP k
  items : ∀ key z, fld x key z → key ≠ nm → TreeB d z
  null : ∀ z, fld x nm z → z = nullN
  has : nm ∈ x.f3
  short : x.f4.length ≤ 61
  few : ∃ cn : S25 → Nat, 1 + (x.f4.map cn).sum ≤ 62 ∧ cn nullN = 1 ∧ ∀ key z, fld x key z → key ≠ nm → cn z = nodesN d z
theorem mem_fld {x : S25} (hl : x.f3.length = x.f4.length) {z : S25} (h : z ∈ x.f4) : ∃ key, fld x key z := by
  obtain ⟨i, hi⟩ := List.getElem?_of_mem h
  have hlt : i < x.f4.length := (List.getElem?_eq_some_iff.1 hi).1
  exact ⟨_, fld_mk (List.getElem?_eq_getElem (hl ▸ hlt)) hi⟩
theorem TreeX.right {nm : ByteArray} {x : S25} (h : TreeX 5 nm x) : RightC x := by
  obtain ⟨cn, h1, h2, h3⟩ := h.few
  refine right36q (N := 1 + (x.f4.map cn).sum) (by omega) fun w A3 A4 c3 c4 hr => count43m cn x w A3 A4 c3 c4 hr 1 (by omega) (by omega) h.f0 h.f1 h.f2 h.len h.nodup h.word (by omega) (by have := h.short; omega) fun y hy w A3 A4 c3 c4 hr dp hdp => ?_
  obtain ⟨key, hk⟩ := mem_fld h.len hy
  by_cases hn : key = nm
  · subst hn
    have := h.null y hk
    subst this
    rw [h2]
    exact count43_null w A3 A4 c3 c4 dp (by omega) (by omega)
  · rw [h3 key y hk hn]
    exact count43 5 y (h.items key y hk hn) w A3 A4 c3 c4 hr dp (by omega) (by omega)
theorem TreeX.tak {nm : ByteArray} {x : S25} (h : TreeX 5 nm x) : TakC 6 x := by
  refine ⟨by rw [h.f0]; rfl, .inr (.inl ⟨h.f0, h.f1, h.f2, h.len, by have := h.short; omega, fun z hz => ?_⟩), h.right⟩
  obtain ⟨key, hk⟩ := mem_fld h.len hz
  by_cases hn : key = nm
  · subst hn
    rw [h.null z hk]
    exact .inl ⟨rfl, rfl, rfl⟩
  · exact (h.items key z hk hn).tree.wf
end Go.Proofs.YtghmajlfmoggfaaGreat
namespace Go.Proofs.YtghmajlfmoggfaaGreat
open Go.RowKit Go.Proofs.YtghmajlfmoggfaaGreatW.PrintWords Go.Proofs.YtghmajlfmoggfaaGreatW.PrintLast PFnMerge
abbrev kA : ByteArray := ⟨#[97]⟩
abbrev tB : ByteArray := ⟨#[98]⟩
abbrev tC : ByteArray := ⟨#[99]⟩
abbrev sT : ByteArray := ⟨#[33, 33, 115, 116, 114]⟩
abbrev wdT (s : ByteArray) : S25 := ⟨1, s, sT, [], []⟩
abbrev mpT (s : ByteArray) : S25 := ⟨2, noStr, noStr, [kA], [wdT s]⟩
theorem word_one (b : UInt8) (h : 97 ≤ b.toNat ∧ b.toNat ≤ 122) : WordP ⟨#[b]⟩ := by
  have hb : bt ⟨#[b]⟩ 0 = (b.toNat : Int) := rfl
  have hl : (⟨#[b]⟩ : ByteArray).toList = [b] := (ByteArray.toList_eq _).trans rfl
  have hs : (⟨#[b]⟩ : ByteArray).size = 1 := rfl
  refine ⟨by omega, by omega, by omega, fun i hi => ?_, ?_, ?_, ?_⟩
  · obtain rfl : i = 0 := by omega
    exact .inl (by show 97 ≤ bt ⟨#[b]⟩ 0 ∧ bt ⟨#[b]⟩ 0 ≤ 122; omega)
  · rw [hl]; simp
  · rw [hl]; simp
  · rw [hl]; simp
theorem tree_mp (b : UInt8) (h : 97 ≤ b.toNat ∧ b.toNat ≤ 122) : TreeB 6 (mpT ⟨#[b]⟩) := by
  refine ⟨.inr (.inl ⟨rfl, rfl, rfl, rfl, by simp, fun k hk => ?_, by simp, fun z hz => ?_⟩), by simp [nodesN]⟩
  · rw [List.mem_singleton.1 hk]; exact word_one 97 (by decide)
  · rw [List.mem_singleton.1 hz]
    exact .inl ⟨rfl, rfl, rfl, .inl ⟨(ByteArray.toList_eq _).trans rfl, word_one b h⟩⟩
theorem alike_mp (s t : ByteArray) : AlikeN 6 (mpT s) (mpT t) := by
  refine ⟨rfl, fun _ key a b ha hb => ?_⟩
  have h1 : (key, a) ∈ [(kA, wdT s)] := ha
  have h2 : (key, b) ∈ [(kA, wdT t)] := hb
  simp only [List.mem_singleton, Prod.mk.injEq] at h1 h2
  obtain ⟨_, rfl⟩ := h1
  obtain ⟨_, rfl⟩ := h2
  exact ⟨rfl, fun h => by simp at h⟩
theorem merged_mp {s t : ByteArray} {m : S25} (h : MRel 6 (mpT s) (mpT t) m) : m.f4 = [wdT t] := by
  rcases h with ⟨h, _⟩ | ⟨_, _, _, _, h1, h2, h3, h4⟩
  · exact absurd rfl h
  have hk : ∀ k ∈ m.f3, k = kA := fun k hk => by
    rcases (h3 k).1 hk with h | h
    · exact List.mem_singleton.1 h
    · exact List.mem_singleton.1 h
  have hm : kA ∈ m.f3 := (h3 kA).2 (.inl (by simp))
  have h5 : m.f3 = [kA] := by
    match hf : m.f3, hm, h2, hk with
    | [], hm, _, _ => cases hm
    | [a], _, _, hk => rw [hk a (by simp)]
    | a :: b :: l, _, h2, hk =>
      have e1 := hk a (by simp)
      have e2 := hk b (by simp)
      subst e1
      subst e2
      simp at h2
  rw [h5] at h1
  obtain ⟨v, hv⟩ : ∃ v, m.f4 = [v] := by
    match hf : m.f4, h1 with
    | [v], _ => exact ⟨v, rfl⟩
  have hf : fld m kA v := by unfold fld; rw [h5, hv]; simp
  rcases h4 kA v hf with ⟨a, b, ha, hb, hr⟩ | ⟨_, hn⟩ | ⟨_, hn⟩
  · have ha' : (kA, a) ∈ [(kA, wdT s)] := ha
    have hb' : (kA, b) ∈ [(kA, wdT t)] := hb
    simp only [List.mem_singleton, Prod.mk.injEq] at ha' hb'
    obtain ⟨_, rfl⟩ := ha'
    obtain ⟨_, rfl⟩ := hb'
    rcases hr with ⟨_, rfl⟩ | ⟨h, _⟩
    · exact hv
    · simp at h
  · exact absurd (by simp) hn
  · exact absurd (by simp) hn
theorem reads3 {name : ByteArray} {lb : Nat} {W : World} (h : W.heap[lb]? = some (.cells #[.string name] 9 (0, 0))) : Kd.C Kd.string W (some ⟨lb, 0, none⟩) 1 [name] := by
  have := (Lit3.mk (v := nilS) h (fun k hk => by simp [Value.ownBlock] at hk)).reads
  exact this
theorem reads4 {x : S25} {E3 E4 : Option Addr} {e3 e4 lb : Nat} {W : World} (h : W.heap[lb]? = some (.cells #[.int .i64 x.f0, .string x.f1, .string x.f2, .slice E3 x.f3.length e3, .slice E4 x.f4.length e4] 25 (0, 0))) (hx : NdR W x E3 e3 E4 e4) : Kd.C k25 W (some ⟨lb, 0, none⟩) 1 [x] := by
  refine ⟨rfl, by omega, fun _ => ⟨⟨lb, 0, none⟩, rfl, fun j p hj => ?_⟩⟩
  match j, hj with
  | 0, hj =>
    simp only [List.getElem?_cons_zero, Option.some.injEq] at hj
    subst hj
    refine ⟨_, rfl, k25_mk W x hx.kcap hx.keys hx.icap hx.items, fun i u hu => ?_⟩
    have hc := blk_cell h i
    rw [add_at, Nat.zero_add]
    simp only [Nat.zero_mul, Nat.zero_add]
    rw [hc]
    simpa using hu
theorem nd_sc (w : World) (s : ByteArray) : NdR w (wdT s) none 0 none 0 := ⟨Kd.C_nil _ _, Nat.le_refl _, Kd.C_nil _ _, Nat.le_refl _⟩
set_option maxRecDepth 20000 in
set_option maxHeartbeats 4000000 in
theorem word33 (s : ByteArray) (w : World) : Calls Tryz.prog 33 #[.string s] w fun e w' => e = .returned (ndV (wdT s) none 0 none 0) ∧ Below w.heap.size w w' := by
  go_enter Tryz.func33, Tryz.ntmps33
  go_wp2_with fail
  refine bodyPost_ret (v := ndV (wdT s) none 0 none 0) (by simp [results, Tryz.results33, go_sem]) rfl ⟨rfl, ?_⟩
  repeat (first | exact Below.refl _ _ | apply below_alloc | apply pw_below_drewN | apply below_drew)
theorem nd_mp {w w1 W : World} {s : ByteArray} (h0 : W.heap[w.heap.size]? = some (.cells #[.string kA] 9 (0, 0))) (h1 : W.heap[w1.heap.size]? = some (.cells #[.int .i64 1, .string s, .string sT, .slice none 0 0, .slice none 0 0] 25 (0, 0))) : NdR W (mpT s) (some ⟨w.heap.size, 0, none⟩) 1 (some ⟨w1.heap.size, 0, none⟩) 1 :=
  ⟨reads3 h0, Nat.le_refl _, reads4 (x := wdT s) (E3 := none) (E4 := none) (e3 := 0) (e4 := 0) h1 (nd_sc W s), Nat.le_refl _⟩
set_option maxRecDepth 20000 in
set_option maxHeartbeats 4000000 in
theorem pair34 (w : World) : Calls Tryz.prog 34 #[] w fun e w' => ∃ B3 d3 B4 d4, e = .returned (ndV (mpT tB) B3 d3 B4 d4) ∧ NdR w' (mpT tB) B3 d3 B4 d4 ∧ Below w.heap.size w w' := by
  go_enter Tryz.func34, Tryz.ntmps34
  go_wp2_with fail
  have hz := blk_new rfl (w := w) (.cells #[.int .i64 0, .string noStr, .string noStr, nilS, nilS] 25)
  obtain ⟨v, hv⟩ : ∃ v, v = w.alloc (.cells #[.int .i64 0, .string noStr, .string noStr, nilS, nilS] 25) := ⟨_, rfl⟩
  have hvs : v.heap.size = w.heap.size + 1 := by rw [hv]; simp
  have HV := Lib.hid (show (v.alloc (.cells #[.string kA] 9)).heap[v.heap.size]? = some (.cells #[.string kA] 9 (0, 0)) ∧ Below w.heap.size w (v.alloc (.cells #[.string kA] 9)) ∧ (v.alloc (.cells #[.string kA] 9)).heap[w.heap.size]? = some (.cells #[.int .i64 0, .string noStr, .string noStr, nilS, nilS] 25 (0, 0)) from ⟨blk_new rfl _, hv ▸ below_alloc (below_alloc (Below.refl _ _) _) _, blk_old _ (hv ▸ hz)⟩)
  have HVS := Lib.hid hvs
  have HVW := Lib.hid hv
  clear hz hv hvs
  refine (word33 tB _).mono ?_
  rintro e w1 ⟨rfl, hb⟩
  rw [← HVW.out] at hb
  have hk : w1.heap[v.heap.size]? = some (.cells #[.string kA] 9 (0, 0)) := (hb.block _ (lt_of_block HV.out.1)).trans HV.out.1
  have hz : w1.heap[w.heap.size]? = some (.cells #[.int .i64 0, .string noStr, .string noStr, nilS, nilS] 25 (0, 0)) := (hb.block _ (lt_of_block HV.out.2.2)).trans HV.out.2.2
  have hbl : Below w.heap.size w w1 := HV.out.2.1.trans (hb.mono HV.out.2.1.size)
  have hz2 : (w1.alloc (.cells #[.int .i64 1, .string tB, .string sT, .slice none 0 0, .slice none 0 0] 25)).heap[w.heap.size]? = some (.cells #[.int .i64 0, .string noStr, .string noStr, nilS, nilS] 25 (0, 0)) := blk_old _ hz
  have f0 := blk_frozen hz2 0
  have f1 := blk_frozen hz2 1
  have f2 := blk_frozen hz2 2
  have f3 := blk_frozen hz2 3
  have f4 := blk_frozen hz2 4
  have c0 := (blk_cell hz2 0).trans (show _ = some (.int .i64 0) from rfl)
  have c1 := (blk_cell hz2 1).trans (show _ = some (.string noStr) from rfl)
  have c2 := (blk_cell hz2 2).trans (show _ = some (.string noStr) from rfl)
  have c3 := (blk_cell hz2 3).trans (show _ = some nilS from rfl)
  have c4 := (blk_cell hz2 4).trans (show _ = some nilS from rfl)
  have HW1 := Lib.hid (And.intro hk (And.intro hz2 hbl))
  clear hb hk hz hz2 hbl
  go_wp2_with fail
  have hk5 := keep_put5 (w1.alloc (.cells #[.int .i64 1, .string tB, .string sT, .slice none 0 0, .slice none 0 0] 25)) w.heap.size (.int .i64 2) (.string noStr) (.string noStr) (.slice (some ⟨w.heap.size + 1, 0, none⟩) 1 1) (.slice (some ⟨w1.heap.size, 0, none⟩) 1 1)
  have hlt := lt_of_block HW1.out.1
  have hbl := HW1.out.2.2.size
  have hvs := HVS.out
  have hn := nd_mp (w := v) (w1 := w1) (s := tB) (hk5.at_ (blk_old _ HW1.out.1) (by omega)) (hk5.at_ (blk_new rfl _) (by omega))
  rw [hvs] at hn
  refine bodyPost_ret (results_cell_row rfl _ _ w.heap.size 25 #[.int .i64 2, .string noStr, .string noStr, .slice (some ⟨w.heap.size + 1, 0, none⟩) 1 1, .slice (some ⟨w1.heap.size, 0, none⟩) 1 1] (0, 0) _ rfl (put5_blk HW1.out.2.1 _ _ _ _ _) Tryz.underlying25 rfl (by kernel_rfl)) rfl ⟨_, _, _, _, rfl, hn, ?_⟩
  exact (HW1.out.2.2.trans ((below_alloc (Below.refl _ _) _).mono HW1.out.2.2.size)).trans (hk5.below (by simp; omega) fun k _ e => by omega)
set_option maxRecDepth 20000 in
set_option maxHeartbeats 4000000 in
theorem merges15q {R : S25 → Prop} (hz : ZzC false (mpT tB) (mpT tC) R) (hsz : ∀ m, R m → SzN 6 m) (hR : ∀ m, R m → m.f4 = [wdT tC]) (w : World) : Calls Tryz.prog 15 #[] w fun e w' => YesQ w e w' := by
  have HZZ := Lib.hid (And.intro hz (And.intro hsz hR))
  clear hz hsz hR
  go_enter Tryz.func15, Tryz.ntmps15
  go_wp2_with fail
  have hl0 := blk_new rfl (w := w) (.cells #[.string kA] 9)
  have hbl0 := below_alloc (Below.refl w.heap.size w) (.cells #[.string kA] 9)
  have H0 := Lib.hid (And.intro hl0 hbl0)
  clear hl0 hbl0
  refine (word33 tC _).mono ?_
  rintro e w1 ⟨rfl, hb1⟩
  have hl1 : (w1.alloc (.cells #[.int .i64 1, .string tC, .string sT, .slice none 0 0, .slice none 0 0] 25)).heap[w1.heap.size]? = some (.cells #[.int .i64 1, .string tC, .string sT, .slice none 0 0, .slice none 0 0] 25 (0, 0)) := blk_new rfl _
  have H1 := Lib.hid (And.intro hb1 hl1)
  clear hb1 hl1
  go_wp2_with fail
  refine (pair34 _).mono ?_
  rintro e w2 ⟨B3, d3, B4, d4, rfl, hby, hb2⟩
  have hba : Below w1.heap.size w1 (w1.alloc (.cells #[.int .i64 1, .string tC, .string sT, .slice none 0 0, .slice none 0 0] 25)) := below_alloc (Below.refl _ _) _
  have hb12 : Below w1.heap.size w1 w2 := hba.trans (hb2.mono hba.size)
  have hbx : NdR w2 (mpT tC) (some ⟨w.heap.size, 0, none⟩) 1 (some ⟨w1.heap.size, 0, none⟩) 1 :=
    nd_mp ((hb12.block _ (Nat.lt_of_lt_of_le (lt_of_block H0.out.1) H1.out.1.size)).trans ((H1.out.1.block _ (lt_of_block H0.out.1)).trans H0.out.1)) ((hb2.block _ (lt_of_block H1.out.2)).trans H1.out.2)
  have hbw : Below w.heap.size w w2 := (H0.out.2.trans (H1.out.1.mono H0.out.2.size)).trans (hb12.mono (Nat.le_trans H0.out.2.size H1.out.1.size))
  have H2 := Lib.hid (And.intro hbx (And.intro hby hbw))
  clear hby hba hb12 hbx hbw hb2
  go_wp2_with fail
  refine (merge2_13q w2 (mpT tC) (mpT tB) (tree_mp 99 (by decide)).tak (tree_mp 98 (by decide)).tak HZZ.out.1 HZZ.out.2.1 (some ⟨w.heap.size, 0, none⟩) (some ⟨w1.heap.size, 0, none⟩) B3 B4 1 1 d3 d4 H2.out.1 H2.out.2.1 false).mono ?_
  rintro e w3 ⟨ym, M3, m3, M4, m4, rfl, hmr, hng, hb3⟩
  have hf4 := HZZ.out.2.2 ym hmr
  obtain ⟨y0, y1, y2, y3, y4⟩ := ym
  simp only at hf4
  subst hf4
  obtain ⟨ad, E3, e3, E4, e4, rfl, _, x1, _, _, _, _⟩ := nd_at hng.items 0 (wdT tC) (by simp) rfl
  have HB3 := Lib.hid hb3
  have x1' := ((below_alloc (Below.refl w3.heap.size w3) (.cells #[.int .i64 y0, .string y1, .string y2, .slice M3 y3.length m3, .slice (some ad) 1 m4] 25)).cell (World.block_lt_of_cell? w3 _ x1)).trans x1
  simp only [Nat.zero_mul] at x1'
  have x2 : (w3.alloc (.cells #[.int .i64 y0, .string y1, .string y2, .slice M3 y3.length m3, .slice (some ad) 1 m4] 25)).cell? ⟨ad.block, ad.off + 1, none⟩ = some (.string tC) := by simpa [Addr.add] using x1'
  clear hmr hng hb3 x1 x1'
  go_wp2_with fail
  exact bodyPost_ret (v := .bool true) (by simp [results, Tryz.results15, go_sem]) rfl ⟨rfl, below_alloc (H2.out.2.2.trans (HB3.out.mono H2.out.2.2.size)) _⟩
theorem zz_both {d : Nat} (hd : d ≤ 100) {x y : S25} (hy : TreeB d y) (hx : TreeB d x) (hal : AlikeN d y x) : ZzC false y x (MRel d y x) := fun w rd rs bd bs Fd Fs h1 h2 h3 h4 h5 h6 h7 way =>
  zz29 w d hd y x hy.good hx.good hal rd rs bd bs Fd Fs h1 h2 h3 h4 h5 h6 h7 way
theorem merges15 (w : World) : Calls Tryz.prog 15 #[] w fun e w' => YesQ w e w' :=
  merges15q (R := MRel 6 (mpT tB) (mpT tC)) (zz_both (by omega) (tree_mp 98 (by decide)) (tree_mp 99 (by decide)) (alike_mp _ _)) (fun m h => mrel_size (tree_mp 98 (by decide)).tree (tree_mp 99 (by decide)).tree (alike_mp _ _) h) (fun m h => merged_mp h) w
end Go.Proofs.YtghmajlfmoggfaaGreat
