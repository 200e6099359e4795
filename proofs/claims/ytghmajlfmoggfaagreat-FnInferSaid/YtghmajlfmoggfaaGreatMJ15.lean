import Derived.Test.YtghmajlfmoggfaaGreatMJ6
import Derived.Test.YtghmajlfmoggfaaGreatMG7
set_option linter.unusedSimpArgs false
set_option linter.unusedVariables false
namespace Go.Proofs.YtghmajlfmoggfaaGreat
open Go.RowKit Go.Proofs.YtghmajlfmoggfaaGreatW.PrintWords Go.Proofs.YtghmajlfmoggfaaGreatW.PrintLast PFnMerge
def ZzO (infer : Bool) (y x : S25) (R : S25 → Prop) : Prop := ∀ (w : World) (rd rs bd bs : Nat) (Fd Fs : Nat → Prop), Rep w bd y Fd → Rep w bs x Fs → (∀ k, Fd k → TB w k) → (∀ k, Fs k → TB w k) → (∀ k, Fd k → Fs k → False) → RNB w rd bd → RNB w rs bs →
 Calls Tryz.prog 29 #[.pointer (some ⟨rs, 0, none⟩), .pointer (some ⟨rd, 0, none⟩), .bool infer, .agg #[.int .i64 0]] w fun e w' => ∃ r b ym F, e = .returned (.tuple #[.pointer (some ⟨r, 0, none⟩), .nilIface]) ∧ RNB w' r b ∧ R ym ∧ Rep w' b ym F ∧ Keep (fun k => Fd k ∨ Fs k) w w'
set_option maxRecDepth 20000 in
set_option maxHeartbeats 4000000 in
theorem merge28o {infer : Bool} {R : S25 → Prop} {dx dy D : Nat} (w : World) (x y : S25) (hx : TakC dx x) (hy : TakC dy y) (hal : ZzO infer y x R) (hsz : ∀ m, R m → SzN D m) (A3 A4 B3 B4 : Option Addr) (c3 c4 d3 d4 : Nat) (hxr : NdR w x A3 c3 A4 c4) (hyr : NdR w y B3 d3 B4 d4) (ba bs bd bi bo : Nat)
  (h1 : w.heap[ba]? = some (.cells #[.bool false] 4 (0, 0))) (h2 : w.heap[bs]? = some (.cells #[.int .i64 x.f0, .string x.f1, .string x.f2, .slice A3 x.f3.length c3, .slice A4 x.f4.length c4] 25 (0, 0))) (h3 : w.heap[bd]? = some (.cells #[.int .i64 y.f0, .string y.f1, .string y.f2, .slice B3 y.f3.length d3, .slice B4 y.f4.length d4] 25 (0, 0))) (h4 : w.heap[bi]? = some (.cells #[.bool infer] 4 (0, 0))) (h5 : w.heap[bo]? = some (.cells #[.int .i64 0, .string noStr, .string noStr, nilS, nilS] 25 (0, 0))) :
  Calls Tryz.prog 28 #[.pointer (some ⟨ba, 0, none⟩), .pointer (some ⟨bs, 0, none⟩), .pointer (some ⟨bd, 0, none⟩), .pointer (some ⟨bi, 0, none⟩), .pointer (some ⟨bo, 0, none⟩)] w fun e w' => MeR R bo w e w' := by
 have a0 : w.cell? ⟨ba, 0, none⟩ = some (.bool false) := (blk_cell h1 0).trans rfl
 obtain ⟨x0, x1, x2, x3, x4⟩ := cl5 h2
 obtain ⟨y0, y1, y2, y3, y4⟩ := cl5 h3
 have i0 : w.cell? ⟨bi, 0, none⟩ = some (.bool infer) := (blk_cell h4 0).trans rfl
 have H := Lib.hid (And.intro hx (And.intro hy (And.intro hal (And.intro hxr (And.intro hyr h5)))))
 clear hx hy hal hxr hyr h1 h2 h3 h4 h5
 go_enter Tryz.func28, Tryz.ntmps28
 go_wp2_with fail
 refine start_ (n := 13) (S := fun w' => w'.cell? ⟨bs, 0, none⟩ = some (.int .i64 x.f0) ∧ w'.cell? ⟨bs, 1, none⟩ = some (.string x.f1) ∧ w'.cell? ⟨bs, 2, none⟩ = some (.string x.f2) ∧ w'.cell? ⟨bs, 3, none⟩ = some (.slice A3 x.f3.length c3) ∧ w'.cell? ⟨bs, 4, none⟩ = some (.slice A4 x.f4.length c4) ∧ w'.cell? ⟨bd, 0, none⟩ = some (.int .i64 y.f0) ∧ w'.cell? ⟨bd, 1, none⟩ = some (.string y.f1) ∧ w'.cell? ⟨bd, 2, none⟩ = some (.string y.f2) ∧ w'.cell? ⟨bd, 3, none⟩ = some (.slice B3 y.f3.length d3) ∧ w'.cell? ⟨bd, 4, none⟩ = some (.slice B4 y.f4.length d4) ∧ w'.cell? ⟨bi, 0, none⟩ = some (.bool infer)) (ds := []) #[false, false, false, false, false, false, false, false, false, false, false, false, false] (by kernel_rfl) rfl rfl ⟨x0, x1, x2, x3, x4, y0, y1, y2, y3, y4, i0⟩ (fun hHeld => ?_)
 refine pu 5 (some 16) (bl 13 32) ?_
 refine pu 6 (some 17) (bl 13 96) ?_
 refine tk 0 (some 11) (bl 13 97) hHeld ?_
 refine tk 2 (some 13) (bl 13 101) hHeld ?_
 refine tk 4 (some 15) (bl 13 117) hHeld ?_
 refine on_ 1 (some 12) (bl 13 119) fun K hK => ?_
 refine gs_ Tryz.func30 #[ndV x A3 c3 A4 c4] ?_
 refine (rnodeOf30q w.drew dx x H.out.1.ne H.out.1.wf A3 A4 c3 c4 (H.out.2.2.2.1.below (below_drew (Below.refl _ _)))).mono ?_
 rintro e w7 ⟨r1, b1, rfl, hr1, hp1, hb7⟩
 have H7 := Lib.hid (And.intro hr1 (And.intro hp1 hb7))
 have HB7 := Lib.hid hb7
 clear hr1 hp1 hb7
 refine ⟨_, rfl, ?_⟩
 refine hK.out _ _ (he11 HB7.out hHeld) (fun hHeld => ?_)
 clear hK K
 refine nr (some 12) ?_
 refine on_ 3 (some 14) (bl 13 127) fun K hK => ?_
 refine gs_ Tryz.func30 #[ndV y B3 d3 B4 d4] ?_
 refine (rnodeOf30q w7 dy y H.out.2.1.ne H.out.2.1.wf B3 B4 d3 d4 (H.out.2.2.2.2.1.below ((below_drew (Below.refl w.heap.size w)).trans HB7.out))).mono ?_
 rintro e w8 ⟨r2, b2, rfl, hr2, hp2, hb8⟩
 have H8 := Lib.hid (And.intro hr2 (And.intro hp2 hb8))
 have HB8 := Lib.hid hb8
 clear hr2 hp2 hb8
 refine ⟨_, rfl, ?_⟩
 refine hK.out _ _ (he11 HB8.out hHeld) (fun hHeld => ?_)
 clear hK K
 refine nr (some 14) ?_
 refine on_ 7 (some 18) (bl 13 255) fun K hK => ?_
 refine gs_ Tryz.func29 #[.pointer (some ⟨r1, 0, none⟩), .pointer (some ⟨r2, 0, none⟩), .bool infer, .agg #[.int .i64 0]] ?_
 have hps := H7.out.2.1.bound
 have hpd := H8.out.2.1.bound
 refine (H.out.2.2.1 w8 r2 r1 b2 b1 _ _ hpd (hps.under HB8.out) (fun k hk => hk.2) (fun k hk => hk.2.under HB8.out) (fun k h1 h2 => Nat.lt_irrefl _ (Nat.lt_of_lt_of_le h2.2.lt h1.1)) H8.out.1 (H7.out.1.under HB8.out)).mono ?_
 rintro e w9 ⟨r, b, ym, F, rfl, h1, h2, h3, h4⟩
 have HB9 := Lib.hid (show Below w.heap.size w w9 from (((below_drew (Below.refl w.heap.size w)).trans HB7.out).trans (HB8.out.mono (show w.heap.size ≤ w7.heap.size from HB7.out.size))).trans (h4.below (Nat.le_trans (show w.heap.size ≤ w7.heap.size from HB7.out.size) HB8.out.size) fun k _ hk => hk.elim (fun hk => Nat.le_trans (show w.heap.size ≤ w7.heap.size from HB7.out.size) hk.1) fun hk => hk.1))
 have HZ := Lib.hid (And.intro h1 (And.intro h2 h3))
 clear h1 h2 h3 h4 hps hpd
 refine ⟨_, rfl, ?_⟩
 refine hK.out _ _ ⟨(HB9.out.cell (World.block_lt_of_cell? w _ (x0))).trans (x0), (HB9.out.cell (World.block_lt_of_cell? w _ (x1))).trans (x1), (HB9.out.cell (World.block_lt_of_cell? w _ (x2))).trans (x2), (HB9.out.cell (World.block_lt_of_cell? w _ (x3))).trans (x3), (HB9.out.cell (World.block_lt_of_cell? w _ (x4))).trans (x4), (HB9.out.cell (World.block_lt_of_cell? w _ (y0))).trans (y0), (HB9.out.cell (World.block_lt_of_cell? w _ (y1))).trans (y1), (HB9.out.cell (World.block_lt_of_cell? w _ (y2))).trans (y2), (HB9.out.cell (World.block_lt_of_cell? w _ (y3))).trans (y3), (HB9.out.cell (World.block_lt_of_cell? w _ (y4))).trans (y4), (HB9.out.cell (World.block_lt_of_cell? w _ (i0))).trans (i0)⟩ (fun hHeld => ?_)
 clear hK K
 refine nr (some 18) ?_
 refine pu 8 (some 10) (bl 13 511) ?_
 refine pu 9 (some 19) (bl 13 1023) ?_
 refine pu 10 (some 20) (bl 13 2047) ?_
 refine pu 11 (some 7) (bl 13 4095) ?_
 refine pu 12 (some 8) (bl 13 8191) ?_
 refine done_ (by kernel_rfl) ?_
 go_wp2_with fail
 refine (told31 w9 D ym r b F HZ.out.1 HZ.out.2.2 (hsz ym HZ.out.2.1)).mono ?_
 rintro e w10 ⟨M3, m3, M4, m4, rfl, hng, hb10⟩
 have HT := Lib.hid (And.intro hng hb10)
 have hbo := ((HB9.out.trans (hb10.mono HB9.out.size)).block bo (lt_of_block H.out.2.2.2.2.2)).trans H.out.2.2.2.2.2
 have z0 := blk_frozen hbo 0
 have z1 := blk_frozen hbo 1
 have z2 := blk_frozen hbo 2
 have z3 := blk_frozen hbo 3
 have z4 := blk_frozen hbo 4
 have k0 := (blk_cell hbo 0).trans (show _ = some (.int .i64 0) from rfl)
 have k1 := (blk_cell hbo 1).trans (show _ = some (.string noStr) from rfl)
 have k2 := (blk_cell hbo 2).trans (show _ = some (.string noStr) from rfl)
 have k3 := (blk_cell hbo 3).trans (show _ = some nilS from rfl)
 have k4 := (blk_cell hbo 4).trans (show _ = some nilS from rfl)
 have HBO := Lib.hid hbo
 clear hng hb10 hbo
 go_wp2_with fail
 have hk := keep_put5 w10 bo (.int .i64 ym.f0) (.string ym.f1) (.string ym.f2) (.slice M3 ym.f3.length m3) (.slice M4 ym.f4.length m4)
 have hlt := lt_of_block H.out.2.2.2.2.2
 have hs9 := HB9.out.size
 refine bodyPost_ret (v := .bool true) (by simp [results, Tryz.results28, go_sem]) rfl ⟨rfl, ym, M3, m3, M4, m4, HZ.out.2.1, put5_blk HBO.out _ _ _ _ _, ?_, ?_⟩
 ·exact (HT.out.1.keep hk fun k h1 h2 => by omega).mono fun k hk' => by omega
 ·exact (Keep.of_below (HB9.out.trans (HT.out.2.mono HB9.out.size)) fun k => k = bo).trans hk fun k _ e => e
set_option maxRecDepth 20000 in
set_option maxHeartbeats 4000000 in
theorem merge2_13o {infer : Bool} {R : S25 → Prop} {dx dy D : Nat} (w : World) (x y : S25) (hx : TakC dx x) (hy : TakC dy y) (hal : ZzO infer y x R) (hsz : ∀ m, R m → SzN D m) (A3 A4 B3 B4 : Option Addr) (c3 c4 d3 d4 : Nat) (hxr : NdR w x A3 c3 A4 c4) (hyr : NdR w y B3 d3 B4 d4) :
  Calls Tryz.prog 13 #[ndV x A3 c3 A4 c4, ndV y B3 d3 B4 d4, .bool infer, .bool false] w fun e w' => M2R R w e w' := by
 have hmf : ∀ (fn : Fn) (first cap : Array Value) (w : World), (Instr.makeFunc fn first cap).run Tryz.prog w = .ok (.func fn first cap) w := fun _ _ _ _ => rfl
 have H := Lib.hid (And.intro hx (And.intro hy (And.intro hal (And.intro hxr hyr))))
 clear hx hy hal hxr hyr
 go_enter Tryz.func13, Tryz.ntmps13
 go_wp2_with fail
 have hm0 : MBq w #[.int .i64 x.f0, .string x.f1, .string x.f2, .slice A3 x.f3.length c3, .slice A4 x.f4.length c4] #[.int .i64 y.f0, .string y.f1, .string y.f2, .slice B3 y.f3.length d3, .slice B4 y.f4.length d4] infer false ((((((w.alloc (.cells #[.int .i64 x.f0, .string x.f1, .string x.f2, .slice A3 x.f3.length c3, .slice A4 x.f4.length c4] 25)).alloc (.cells #[.int .i64 y.f0, .string y.f1, .string y.f2, .slice B3 y.f3.length d3, .slice B4 y.f4.length d4] 25)).alloc (.cells #[.bool infer] 4)).alloc (.cells #[.bool false] 4)).alloc (.cells #[.int .i64 0, .string noStr, .string noStr, nilS, nilS] 25)).alloc (.cells #[.int .i64 0, .string noStr, .string noStr, nilS, nilS] 25)) :=
  ⟨below_alloc (below_alloc (below_alloc (below_alloc (below_alloc (below_alloc (Below.refl _ _) _) _) _) _) _) _, blk_old _ (blk_old _ (blk_old _ (blk_old _ (blk_old _ (blk_new rfl _))))), blk_old _ (blk_old _ (blk_old _ (blk_old _ (blk_new (by simp) _)))), blk_old _ (blk_old _ (blk_old _ (blk_new (by simp) _))), blk_old _ (blk_old _ (blk_new (by simp) _)), blk_old _ (blk_new (by simp) _), blk_new (by simp) _⟩
 have HM0 := Lib.hid hm0
 clear hm0
 refine (taken26q _ x H.out.1 A3 A4 c3 c4 (H.out.2.2.2.1.below HM0.out.below)).mono ?_
 rintro e w1 ⟨rfl, hb1⟩
 have HM1 := Lib.hid (HM0.out.under hb1)
 clear hb1
 obtain ⟨y0, y1, y2, y3, y4⟩ := cl5 HM1.out.by_
 go_wp2_with fail
 refine (taken26q w1 y H.out.2.1 B3 B4 d3 d4 (H.out.2.2.2.2.below HM1.out.below)).mono ?_
 rintro e w2 ⟨rfl, hb2⟩
 have HM2 := Lib.hid (HM1.out.under hb2)
 clear hb2 y0 y1 y2 y3 y4
 go_wp2_with fail
 have HM3 := Lib.hid (HM2.out.under (below_alloc (Below.refl _ _) (.cells #[.bool false] 4)))
 have hbo := lt_of_block HM2.out.bo
 refine (tried27 w2 _ (fun w' => ∃ ym M3 m3 M4 m4, R ym ∧ w'.heap[w.heap.size + 1 + 1 + 1 + 1 + 1]? = some (.cells #[.int .i64 ym.f0, .string ym.f1, .string ym.f2, .slice M3 ym.f3.length m3, .slice M4 ym.f4.length m4] 25 (0, 0)) ∧ NdG w' (fun k => (w2.alloc (.cells #[.bool false] 4)).heap.size ≤ k) ym M3 m3 M4 m4 ∧ Keep (fun k => k = w.heap.size + 1 + 1 + 1 + 1 + 1) (w2.alloc (.cells #[.bool false] 4)) w') (merge28o (w2.alloc (.cells #[.bool false] 4)) x y H.out.1 H.out.2.1 H.out.2.2.1 hsz A3 A4 B3 B4 c3 c4 d3 d4 (H.out.2.2.2.1.below HM3.out.below) (H.out.2.2.2.2.below HM3.out.below) _ _ _ _ _ HM3.out.ba HM3.out.bx HM3.out.by_ HM3.out.bi HM3.out.bo) ?hk).mono ?_
 case hk =>
  rintro w' ⟨ym, M3, m3, M4, m4, _, _, _, hk⟩
  exact hk.at_ (blk_new rfl _) (by omega)
 rintro e w3' ⟨rfl, w3, ⟨ym, M3, m3, M4, m4, hmr, hbo3, hng, hk⟩, rfl⟩
 have hkb : Keep (fun k => k = w.heap.size + 1 + 1 + 1 + 1 + 1 ∨ k = w2.heap.size) (w2.alloc (.cells #[.bool false] 4)) (w3.setCell ⟨w2.heap.size, 0, none⟩ (.bool true)) := (hk.mono fun k _ e => .inl e).setCell _ _ fun _ => .inr rfl
 have hbo4 : (w3.setCell ⟨w2.heap.size, 0, none⟩ (.bool true)).heap[w.heap.size + 1 + 1 + 1 + 1 + 1]? = some (.cells #[.int .i64 ym.f0, .string ym.f1, .string ym.f2, .slice M3 ym.f3.length m3, .slice M4 ym.f4.length m4] 25 (0, 0)) := blk_else _ (by show _ ≠ w2.heap.size; omega) hbo3
 have hbr4 := hkb.at_ HM3.out.br (by omega)
 have hng4 : NdG (w3.setCell ⟨w2.heap.size, 0, none⟩ (.bool true)) (fun k => w2.heap.size < k) ym M3 m3 M4 m4 := (hng.keep ((Keep.refl (fun k => k = w2.heap.size) w3).setCell _ _ fun _ => rfl) fun k h1 h2 => by simp at h1; omega).mono fun k h1 => by simp at h1; omega
 have hsz := HM2.out.below.size
 have hbl : Below w.heap.size w (w3.setCell ⟨w2.heap.size, 0, none⟩ (.bool true)) := HM3.out.below.trans (hkb.below HM3.out.below.size fun k _ e => by omega)
 have HW3' := Lib.hid (And.intro hbo4 (And.intro hbr4 (And.intro hng4 (And.intro hbl (And.intro hmr hbo)))))
 obtain ⟨w4, hw4⟩ : ∃ w4, w4 = w3.setCell ⟨w2.heap.size, 0, none⟩ (.bool true) := ⟨_, rfl⟩
 rw [← hw4] at HW3'
 rw [← hw4]
 clear hw4 hkb hbo4 hbr4 hng4 hbl hmr hbo3 hng hk hbo hsz
 have HW3 := HW3'
 clear HW3'
 obtain ⟨o0, o1, o2, o3, o4⟩ := cl5 HW3.out.1
 have r0 : w4.cell? ⟨w.heap.size + 1 + 1 + 1 + 1, 0, none⟩ = some (.int .i64 0) := (blk_cell HW3.out.2.1 0).trans rfl
 have rz0 := blk_frozen HW3.out.2.1 0
 have r1 : w4.cell? ⟨w.heap.size + 1 + 1 + 1 + 1, 1, none⟩ = some (.string noStr) := (blk_cell HW3.out.2.1 1).trans rfl
 have rz1 := blk_frozen HW3.out.2.1 1
 have r2 : w4.cell? ⟨w.heap.size + 1 + 1 + 1 + 1, 2, none⟩ = some (.string noStr) := (blk_cell HW3.out.2.1 2).trans rfl
 have rz2 := blk_frozen HW3.out.2.1 2
 have r3 : w4.cell? ⟨w.heap.size + 1 + 1 + 1 + 1, 3, none⟩ = some (nilS) := (blk_cell HW3.out.2.1 3).trans rfl
 have rz3 := blk_frozen HW3.out.2.1 3
 have r4 : w4.cell? ⟨w.heap.size + 1 + 1 + 1 + 1, 4, none⟩ = some (nilS) := (blk_cell HW3.out.2.1 4).trans rfl
 have rz4 := blk_frozen HW3.out.2.1 4
 go_wp2_with fail
 have hfar := keep_put5 w4 (w.heap.size + 1 + 1 + 1 + 1) (.int .i64 ym.f0) (.string ym.f1) (.string ym.f2) (.slice M3 ym.f3.length m3) (.slice M4 ym.f4.length m4)
 refine bodyPost_ret (results_ct rfl _ _ (w.heap.size + 1 + 1 + 1 + 1) 25 #[.int .i64 ym.f0, .string ym.f1, .string ym.f2, .slice M3 ym.f3.length m3, .slice M4 ym.f4.length m4] (0, 0) _ rfl (put5_blk HW3.out.2.1 _ _ _ _ _) Tryz.underlying25 rfl (by kernel_rfl)) rfl ?_
 have hbo := HW3.out.2.2.2.2.2
 exact ⟨ym, M3, m3, M4, m4, rfl, HW3.out.2.2.2.2.1, (HW3.out.2.2.1.keep hfar fun k h1 h2 => by omega).now, HW3.out.2.2.2.1.trans (hfar.below HW3.out.2.2.2.1.size fun k _ e => by omega)⟩
end Go.Proofs.YtghmajlfmoggfaaGreat
