import Derived.Test.YtghmajlfmoggfaaGreatME2
set_option linter.unusedSimpArgs false
set_option linter.unusedVariables false
namespace Go.Proofs.YtghmajlfmoggfaaGreat
open Go.RowKit Go.Proofs.YtghmajlfmoggfaaGreatW.PrintWords Go.Proofs.YtghmajlfmoggfaaGreatW.PrintLast PFnMerge
def K66 (w w' : World) : Prop := ∀ (b : Nat) (cs : Array Value), w.heap[b]? = some (.cells cs 66 (0, 0)) → w'.heap[b]? = some (.cells cs 66 (0, 0))
theorem K66.trans {w w' w'' : World} (h : K66 w w') (h' : K66 w' w'') : K66 w w'' := fun b cs hb => h' b cs (h b cs hb)
theorem K66.of_below {w w' : World} (h : Below w.heap.size w w') : K66 w w' := fun b _ hb => (h.block b (lt_of_block hb)).trans hb
theorem K66.of_keep {w w' : World} {T : Nat → Prop} (h : Keep T w w') (ht : ∀ k, T k → ∀ cs, w.heap[k]? ≠ some (.cells cs 66 (0, 0))) : K66 w w' := fun _ cs hb => h.at_ hb fun hk => ht _ hk cs hb
def Meth3 (w : World) (T : TypeId) (x : Value) (f : Nat) : Prop := Sem.run Tryz.prog (method (f + 1) T x "VisitScalar") w = .ok (160, .agg #[]) w ∧ Sem.run Tryz.prog (method (f + 1) T x "VisitList") w = .ok (158, .agg #[]) w ∧ Sem.run Tryz.prog (method (f + 1) T x "VisitMap") w = .ok (159, .agg #[]) w
def VisW (w : World) (n : Nat) (V : Value) : Prop := ∃ T x, V = .iface T x ∧ ∀ f w', n ≤ f → K66 w w' → Meth3 w' T x f
theorem VisW.top (w : World) : VisW w 0 (.iface 60 (.agg #[])) := ⟨_, _, rfl, fun f w _ _ => meth60 f w⟩
theorem VisW.mono {w w' : World} {n : Nat} {V : Value} (h : VisW w n V) (hk : K66 w w') : VisW w' n V := by
 obtain ⟨T, x, rfl, h⟩ := h
 exact ⟨T, x, rfl, fun f w'' hf hk' => h f w'' hf (hk.trans hk')⟩
theorem VisW.nest {w : World} {n : Nat} {V a1 a2 a3 a4 a5 a6 : Value} (h : VisW w n V) : VisW w (n + 1) (.iface 66 (.agg #[V, a1, a2, a3, a4, a5, a6])) := by
 obtain ⟨T, x, rfl, h⟩ := h
 refine ⟨_, _, rfl, fun f w' hf hk => ?_⟩
 obtain ⟨f', rfl⟩ : ∃ f', f = f' + 1 := ⟨f - 1, by omega⟩
 obtain ⟨h1, h2, h3⟩ := h f' w' (by omega) hk
 obtain ⟨g1, g2, g3⟩ := meth66 (f' + 1) T x a1 a2 a3 a4 a5 a6 w'
 exact ⟨g1.trans h1, g2.trans h2, g3.trans h3⟩
theorem meth107_VisitScalar {w : World} {lb : Nat} {T : TypeId} {x : Value} (f : Nat) (h0 : w.cell? ⟨lb, 0, none⟩ = some (.iface T x)) : Sem.run Tryz.prog (method (f + 1) 107 (.pointer (some ⟨lb, 0, none⟩)) "VisitScalar") w = Sem.run Tryz.prog (method f T x "VisitScalar") w := by
 have e : Sem.run Tryz.prog (method (f + 1) 107 (.pointer (some ⟨lb, 0, none⟩)) "VisitScalar") w = Sem.run Tryz.prog (load ⟨lb, 0, none⟩ >>= fun v => match v with
   | .iface t' v' => method f t' v' "VisitScalar"
   | .nilIface => runtimePanic .nilDeref
   | _ => stuck "method row: interface value expected") w := by kernel_rfl
 rw [e]
 simp only [Sem.run_bind, run_load, h0, Result.andThen]
theorem meth107_VisitList {w : World} {lb : Nat} {T : TypeId} {x : Value} (f : Nat) (h0 : w.cell? ⟨lb, 0, none⟩ = some (.iface T x)) : Sem.run Tryz.prog (method (f + 1) 107 (.pointer (some ⟨lb, 0, none⟩)) "VisitList") w = Sem.run Tryz.prog (method f T x "VisitList") w := by
 have e : Sem.run Tryz.prog (method (f + 1) 107 (.pointer (some ⟨lb, 0, none⟩)) "VisitList") w = Sem.run Tryz.prog (load ⟨lb, 0, none⟩ >>= fun v => match v with
   | .iface t' v' => method f t' v' "VisitList"
   | .nilIface => runtimePanic .nilDeref
   | _ => stuck "method row: interface value expected") w := by kernel_rfl
 rw [e]
 simp only [Sem.run_bind, run_load, h0, Result.andThen]
theorem meth107_VisitMap {w : World} {lb : Nat} {T : TypeId} {x : Value} (f : Nat) (h0 : w.cell? ⟨lb, 0, none⟩ = some (.iface T x)) : Sem.run Tryz.prog (method (f + 1) 107 (.pointer (some ⟨lb, 0, none⟩)) "VisitMap") w = Sem.run Tryz.prog (method f T x "VisitMap") w := by
 have e : Sem.run Tryz.prog (method (f + 1) 107 (.pointer (some ⟨lb, 0, none⟩)) "VisitMap") w = Sem.run Tryz.prog (load ⟨lb, 0, none⟩ >>= fun v => match v with
   | .iface t' v' => method f t' v' "VisitMap"
   | .nilIface => runtimePanic .nilDeref
   | _ => stuck "method row: interface value expected") w := by kernel_rfl
 rw [e]
 simp only [Sem.run_bind, run_load, h0, Result.andThen]
theorem VisW.ptr {w : World} {n lb : Nat} {V a1 a2 a3 a4 a5 a6 : Value} (h : VisW w n V) (hl : w.heap[lb]? = some (.cells #[V, a1, a2, a3, a4, a5, a6] 66 (0, 0))) : VisW w (n + 1) (.iface 107 (.pointer (some ⟨lb, 0, none⟩))) := by
 obtain ⟨T, x, rfl, h⟩ := h
 refine ⟨_, _, rfl, fun f w' hf hk => ?_⟩
 obtain ⟨f', rfl⟩ : ∃ f', f = f' + 1 := ⟨f - 1, by omega⟩
 obtain ⟨h1, h2, h3⟩ := h f' w' (by omega) hk
 have h0 : w'.cell? ⟨lb, 0, none⟩ = some (.iface T x) := (blk_cell (hk lb _ hl) 0).trans rfl
 exact ⟨(meth107_VisitScalar (f' + 1) h0).trans h1, (meth107_VisitList (f' + 1) h0).trans h2, (meth107_VisitMap (f' + 1) h0).trans h3⟩
theorem VisW.meths {w : World} {n : Nat} {V : Value} (h : VisW w n V) (hn : n ≤ 300) : ∃ T x, V = .iface T x ∧ ∀ w', K66 w w' → Sem.run Tryz.prog (method 345 T x "VisitScalar") w' = .ok (160, .agg #[]) w' ∧ Sem.run Tryz.prog (method 345 T x "VisitList") w' = .ok (158, .agg #[]) w' ∧ Sem.run Tryz.prog (method 345 T x "VisitMap") w' = .ok (159, .agg #[]) w' := by
 obtain ⟨T, x, rfl, h⟩ := h
 exact ⟨T, x, rfl, fun w' hk => h 344 w' (by omega) hk⟩
variable {V path mo : Value} {infer : Bool} {sb c n : Nat} {dp sp : Option Addr}
set_option maxRecDepth 20000 in
theorem scalar51w (w : World) (hV : VisW w n V) (hn : n ≤ 300) (hs : SrcAt w sb dp sp) (hd : NodeQ w dp) (ho : NodeQ w sp) :
  Calls Tryz.prog 51 #[wkV V path mo sb c infer] w fun e w' => e = .returned (.tuple #[.pointer (sp.or dp), .nilIface]) ∧ Below w.heap.size w w' := by
 obtain ⟨T, x, rfl, hm⟩ := hV.meths hn
 have hb := below_alloc (Below.refl w.heap.size w) (.cells #[.iface T x, .pointer none, .slice (some ⟨sb, 0, none⟩) 2 c, path, .bool infer, .bool false, mo] 66)
 have hm1 := (hm _ (K66.of_below hb)).1
 have HC := Lib.hid (visitScalar160 (c := c) _ (hs.under hb) (hd.under hb) (ho.under hb))
 have HB := Lib.hid hb
 have hk := enter160
 clear hs hd ho hb hm hV
 go_enter Tryz.func51, Tryz.ntmps51
 go_wp2_with fail
 refine Calls.mono HC.out ?_
 rintro e w1 ⟨rfl, hb1⟩
 have HB1 := Lib.hid (HB.out.trans (hb1.mono HB.out.size))
 clear HB hb1 HC hm1 hk
 go_wp2_with fail
 go_ret2
 exact ⟨rfl, HB1.out⟩
set_option maxRecDepth 20000 in
theorem list50w (w : World) (hV : VisW w n V) (hn : n ≤ 300) (hs : SrcAt w sb dp sp) (hd : NodeQ w dp) (ho : NodeQ w sp) :
  Calls Tryz.prog 50 #[wkV V path mo sb c infer] w fun e w' => e = .returned (.tuple #[.pointer (sp.or dp), .nilIface]) ∧ Below w.heap.size w w' := by
 obtain ⟨T, x, rfl, hm⟩ := hV.meths hn
 have hb := below_alloc (Below.refl w.heap.size w) (.cells #[.iface T x, .pointer none, .slice (some ⟨sb, 0, none⟩) 2 c, path, .bool infer, .bool false, mo] 66)
 have hm1 := (hm _ (K66.of_below hb)).2.1
 have HC := Lib.hid (visitList158 (c := c) _ (hs.under hb) (hd.under hb) (ho.under hb))
 have HB := Lib.hid hb
 have hk := enter158
 clear hs hd ho hb hm hV
 go_enter Tryz.func50, Tryz.ntmps50
 go_wp2_with fail
 refine Calls.mono HC.out ?_
 rintro e w1 ⟨rfl, hb1⟩
 have HB1 := Lib.hid (HB.out.trans (hb1.mono HB.out.size))
 clear HB hb1 HC hm1 hk
 go_wp2_with fail
 go_ret2
 exact ⟨rfl, HB1.out⟩
end Go.Proofs.YtghmajlfmoggfaaGreat
namespace Go.Proofs.YtghmajlfmoggfaaGreat
open Go.RowKit Go.Proofs.YtghmajlfmoggfaaGreatW.PrintWords Go.Proofs.YtghmajlfmoggfaaGreatW.PrintLast PFnMerge Go.Maps Go.Sort
set_option maxRecDepth 20000 in
set_option maxHeartbeats 4000000 in
theorem walkMap47w {V path mo : Value} {infer : Bool} {sb c r n m : Nat} (w : World) (hV : VisW w m V) (hm : m ≤ 300) (hn : n ≤ 1000) (hpath : PathOk w path n)
  (I : List (List UInt8) → World → Prop) (Nm : List (List UInt8) → Prop)
  (hvis : ∀ w0, Below w.heap.size w w0 → Calls Tryz.prog 159 #[.agg #[], .slice (some ⟨sb, 0, none⟩) 2 c, .pointer none] w0 fun e w1 => e = .returned (.tuple #[.pointer (some ⟨r, 0, none⟩), .nilIface]) ∧ Below w0.heap.size w0 w1)
  (hset : ∀ w1, Below w.heap.size w w1 → w1.heap[w.heap.size]? = some (.cells #[V, .pointer none, .slice (some ⟨sb, 0, none⟩) 2 c, path, .bool infer, .bool false, mo] 66 (0, 0)) → Calls Tryz.prog 57 #[.slice (some ⟨sb, 0, none⟩) 2 c, .pointer (some ⟨r, 0, none⟩), .nilIface] w1 fun e w2 => e = .returned (.tuple #[.pointer (some ⟨r, 0, none⟩), .nilIface]) ∧ I [] w2)
  (hbox : ∀ P w', I P w' → w'.heap[w.heap.size]? = some (.cells #[V, .pointer none, .slice (some ⟨sb, 0, none⟩) 2 c, path, .bool infer, .bool false, mo] 66 (0, 0)))
  (hnames : ∀ w', I [] w' → Calls Tryz.prog 58 #[wkV V path mo sb c infer] w' fun e w'' => ∃ (g cap : Nat) (ns : List (List UInt8)), e = .returned (.slice (some ⟨g, 0, none⟩) ns.length cap) ∧ ns.Nodup ∧ Nm ns ∧ w''.ownsRow w'.heap.size 9 1 (.slice (some ⟨g, 0, none⟩) ns.length cap) ns.length (ns.map encStr) ∧ I [] w'')
  (hstep : ∀ P name rest w', Nm (P ++ name :: rest) → (P ++ name :: rest).Nodup → I P w' → Calls Tryz.prog 61 #[wkV V path mo sb c infer, .string ⟨name.toArray⟩] w' fun e w1 => ∃ g cap sm, e = .returned (.tuple #[.slice (some ⟨g, 0, none⟩) 2 cap, .pointer none, .map (some sm)]) ∧ PathOk w1 path n ∧
   w1.heap[w.heap.size]? = some (.cells #[V, .pointer none, .slice (some ⟨sb, 0, none⟩) 2 c, path, .bool infer, .bool false, mo] 66 (0, 0)) ∧ ∀ path' w2, PathApp w1 w2 path path' n → Calls Tryz.prog 38 #[wkV (.iface 66 (wkV V path mo sb c infer)) path' mo g cap infer] w2 fun e w3 => ∃ q, e = .returned (.tuple #[.pointer q, .nilIface]) ∧ StyM w3 sm ∧ PtrQ w3 q ∧
    ∀ fb w4, Below w3.heap.size w3 w4 → w4.cell? ⟨fb, 0, none⟩ = some (.iface 104 (fsV ⟨name.toArray⟩ q)) → Calls Tryz.prog 62 #[.pointer (some ⟨r, 0, none⟩), .slice (some ⟨fb, 0, none⟩) 1 1] w4 fun e w5 => ∃ q', e = .returned (.tuple #[.pointer q', .nilIface]) ∧ I (P ++ [name]) w5 ∧ Keep (fun k => k < w.heap.size ∨ TB w' k) w' w5) :
  Calls Tryz.prog 47 #[wkV V path mo sb c infer] w fun e w' => e = .returned (.tuple #[.pointer (some ⟨r, 0, none⟩), .nilIface]) ∧ ∃ ns, ns.Nodup ∧ Nm ns ∧ I ns w' := by
 obtain ⟨T, x, rfl, hmm⟩ := hV.meths hm
 obtain ⟨wb, hwb⟩ : ∃ wb, wb = w.heap.size := ⟨_, rfl⟩
 have hb0 := below_alloc (Below.refl w.heap.size w) (.cells #[.iface T x, .pointer none, .slice (some ⟨sb, 0, none⟩) 2 c, path, .bool infer, .bool false, mo] 66)
 have hm3 := (hmm _ (K66.of_below (below_drew hb0))).2.2
 have hbx := blk_new hwb (w := w) (.cells #[.iface T x, .pointer none, .slice (some ⟨sb, 0, none⟩) 2 c, path, .bool infer, .bool false, mo] 66)
 have HVIS := Lib.hid (hvis _ (below_drew hb0))
 have HSET := Lib.hid (show ∀ w1, Below ((w.alloc (.cells #[.iface T x, .pointer none, .slice (some ⟨sb, 0, none⟩) 2 c, path, .bool infer, .bool false, mo] 66)).drew).heap.size ((w.alloc (.cells #[.iface T x, .pointer none, .slice (some ⟨sb, 0, none⟩) 2 c, path, .bool infer, .bool false, mo] 66)).drew) w1 → Calls Tryz.prog 57 #[.slice (some ⟨sb, 0, none⟩) 2 c, .pointer (some ⟨r, 0, none⟩), .nilIface] w1 fun e w2 => e = .returned (.tuple #[.pointer (some ⟨r, 0, none⟩), .nilIface]) ∧ I [] w2 from
  fun w1 hb1 => hset w1 ((below_drew hb0).trans (hb1.mono (by simp))) ((hb1.block _ (by simp)).trans (blk_drew (blk_new rfl _))))
 have HBX := Lib.hid (blk_drew hbx)
 have HBOX := Lib.hid hbox
 have HNAMES := Lib.hid hnames
 have HSTEP := Lib.hid hstep
 have HN := Lib.hid hn
 have HPB := Lib.hid (show path.ownBlock = some wb → False from fun e => by have := hpath.lt wb e; omega)
 have a2 : (w.alloc (.cells #[.iface T x, .pointer none, .slice (some ⟨sb, 0, none⟩) 2 c, path, .bool infer, .bool false, mo] 66)).cell? ⟨wb, 2, none⟩ = some (.slice (some ⟨sb, 0, none⟩) 2 c) := (blk_cell hbx 2).trans rfl
 have a0 : (w.alloc (.cells #[.iface T x, .pointer none, .slice (some ⟨sb, 0, none⟩) 2 c, path, .bool infer, .bool false, mo] 66)).cell? ⟨wb, 0, none⟩ = some (.iface T x) := (blk_cell hbx 0).trans rfl
 have a1 : (w.alloc (.cells #[.iface T x, .pointer none, .slice (some ⟨sb, 0, none⟩) 2 c, path, .bool infer, .bool false, mo] 66)).cell? ⟨wb, 1, none⟩ = some (.pointer none) := (blk_cell hbx 1).trans rfl
 have hk := enter159
 clear hmm hV hvis hset hbox hnames hstep hn hb0 hbx hpath
 go_enter Tryz.func47, Tryz.ntmps47
 go_wp2_with fail
 rw [← hwb]
 have HW := Lib.hid hwb
 clear hwb
 refine start_ (n := 17) (S := fun w' => w'.cell? ⟨wb, 2, none⟩ = some (.slice (some ⟨sb, 0, none⟩) 2 c) ∧ w'.cell? ⟨wb, 0, none⟩ = some (.iface T x) ∧ w'.cell? ⟨wb, 1, none⟩ = some (.pointer none)) (ds := [11]) #[false, false, false, false, false, false, false, false, false, false, false, false, false, false, false, false, false] (by kernel_rfl) rfl rfl ⟨a2, a0, a1⟩ (fun hHeld => ?_)
 refine pu 0 (some 21) (bl 17 1) ?_
 refine pu 2 (some 23) (bl 17 5) ?_
 refine pu 4 (some 25) (bl 17 21) ?_
 refine pu 6 (some 27) (bl 17 85) ?_
 refine tk 1 (some 22) (bl 17 87) hHeld ?_
 refine tk 3 (some 24) (bl 17 95) hHeld ?_
 refine tk 5 (some 26) (bl 17 127) hHeld ?_
 refine tk 7 (some 28) (bl 17 255) hHeld ?_
 refine on_ 8 (some 29) (bl 17 511) fun K hK => ?_
 refine call_ 159 #[.agg #[], .slice (some ⟨sb, 0, none⟩) 2 c, .pointer none] (by rfl) rfl ?_ ?_
 ·go_simp
 refine (HVIS.out.mono ?_)
 rintro e w1 ⟨rfl, hb1⟩
 have HB1 := Lib.hid hb1
 have hbx1 := (hb1.block wb (by rw [HW.out]; simp)).trans HBX.out
 have HX1 := Lib.hid hbx1
 clear hb1
 refine ⟨_, rfl, ?_⟩
 refine hK.out _ _ ⟨(blk_cell HX1.out 2).trans rfl, (blk_cell HX1.out 0).trans rfl, (blk_cell HX1.out 1).trans rfl⟩ (fun hHeld => ?_)
 clear hK K
 refine nr (some 29) ?_
 refine pu 9 (some 30) (bl 17 1023) ?_
 refine pu 10 (some 31) (bl 17 2047) ?_
 refine ls_ 11 (some 32) (bl 17 4095) fun K hK => ?_
 refine gs_ Tryz.func57 #[.slice (some ⟨sb, 0, none⟩) 2 c, .pointer (some ⟨r, 0, none⟩), .nilIface] ?_
 refine (HSET.out w1 HB1.out).mono ?_
 rintro e w2 ⟨rfl, hi2⟩
 have HI2 := Lib.hid hi2
 clear hi2
 refine ⟨_, rfl, ?_⟩
 refine hK.out _ _ ?_
 clear hK K
 refine nr (some 32) ?_
 refine pu 12 (some 20) (bl 17 8191) ?_
 refine pu 13 (some 33) (bl 17 16383) ?_
 refine pu 14 (some 34) (bl 17 32767) ?_
 refine pu 15 (some 4) (bl 17 65535) ?_
 refine pu 16 (some 5) (bl 17 131071) ?_
 refine done_ (by kernel_rfl) ?_
 clear HVIS HSET a2 a0 a1 hm3 hk
 have hx2 := HBOX.out _ _ HI2.out
 rw [← HW.out] at hx2
 have HX2 := Lib.hid hx2
 have HI3 := HI2
 have p0 : w2.cell? ⟨wb, 0, none⟩ = some (.iface T x) := (blk_cell hx2 0).trans rfl
 have p1 : w2.cell? ⟨wb, 1, none⟩ = some (.pointer none) := (blk_cell hx2 1).trans rfl
 have p2 : w2.cell? ⟨wb, 2, none⟩ = some (.slice (some ⟨sb, 0, none⟩) 2 c) := (blk_cell hx2 2).trans rfl
 have p3 : w2.cell? ⟨wb, 3, none⟩ = some (path) := (blk_cell hx2 3).trans rfl
 have p4 : w2.cell? ⟨wb, 4, none⟩ = some (.bool infer) := (blk_cell hx2 4).trans rfl
 have p5 : w2.cell? ⟨wb, 5, none⟩ = some (.bool false) := (blk_cell hx2 5).trans rfl
 have p6 : w2.cell? ⟨wb, 6, none⟩ = some (mo) := (blk_cell hx2 6).trans rfl
 have HNM := Lib.hid (HNAMES.out w2 HI2.out)
 clear hx2 HNAMES
 go_wp2_with fail
 refine Calls.mono HNM.out ?_
 rintro e w3 ⟨gn, capn, ns, rfl, hnd, hnm, hrow, hi3⟩
 have HROW0 := Lib.hid hrow
 have HNS := Lib.hid (And.intro hnd hnm)
 have HI := Lib.hid hi3
 have hlen := own_len hrow
 clear hnd hnm hrow hi3 p0 p1 p2 p3 p4 p5 p6 HNM HI2 HI3
 go_wp2_with fail
 have hwz := Lib.hid (show w.heap.size ≤ w2.heap.size by rw [← HW.out]; exact Nat.le_of_lt (lt_of_block HX2.out))
 obtain ⟨N, hN⟩ : ∃ N, N = ns.length := ⟨_, rfl⟩
 have HL := Lib.hid hN
 rw [← hN] at hlen
 rw [← hN] at HROW0
 rw [← hN]
 clear hN
 have hlen' : (N : Int) ≤ 9223372036854775807 := by unfold maxLen at hlen; omega
 go_loopg [45] N (fun k i wr => ∃ j : Nat, j + k = N ∧ i = .int .i64 (j : Int) ∧ Hid (I (ns.take j) wr ∧ wr.ownsRow w2.heap.size 9 1 (.slice (some ⟨gn, 0, none⟩) N capn) N (ns.map encStr)))
 case atStart =>
  exact ⟨0, by omega, rfl, Lib.hid ⟨HI.out, HROW0.out⟩⟩
 case round =>
  obtain ⟨j, hj, rfl, hI⟩ := hrel
  by_cases hlt : 1 ≤ gk
  ·have hj1 : (j : Int) < (N : Int) := by omega
   have hjl := HL.out
   obtain ⟨name, hname⟩ : ∃ name, ns[j]? = some name := ⟨_, List.getElem?_eq_getElem (by omega)⟩
   obtain ⟨g', hg', hcell⟩ := row_cell hI.out.2 j (encStr name) (by rw [List.getElem?_map, hname]; rfl)
   injection hg' with hg'
   injection hg' with hg'
   subst hg'
   have hcell : wr.cell? ⟨gn, j, none⟩ = some (.string ⟨name.toArray⟩) := hcell
   have hsplit : ns = ns.take j ++ name :: ns.drop (j + 1) := by
    have := List.getElem?_eq_some_iff.1 hname
    obtain ⟨hh, rfl⟩ := this
    simp
   have HSP := Lib.hid (And.intro hname hsplit)
   have hxr := HBOX.out _ _ hI.out.1
   rw [← HW.out] at hxr
   have p0 : wr.cell? ⟨wb, 0, none⟩ = some (.iface T x) := (blk_cell hxr 0).trans rfl
   have p1 : wr.cell? ⟨wb, 1, none⟩ = some (.pointer none) := (blk_cell hxr 1).trans rfl
   have p2 : wr.cell? ⟨wb, 2, none⟩ = some (.slice (some ⟨sb, 0, none⟩) 2 c) := (blk_cell hxr 2).trans rfl
   have p3 : wr.cell? ⟨wb, 3, none⟩ = some (path) := (blk_cell hxr 3).trans rfl
   have p4 : wr.cell? ⟨wb, 4, none⟩ = some (.bool infer) := (blk_cell hxr 4).trans rfl
   have p5 : wr.cell? ⟨wb, 5, none⟩ = some (.bool false) := (blk_cell hxr 5).trans rfl
   have p6 : wr.cell? ⟨wb, 6, none⟩ = some (mo) := (blk_cell hxr 6).trans rfl
   have HS61 := Lib.hid (HSTEP.out (ns.take j) name (ns.drop (j + 1)) wr (by rw [← hsplit]; exact HNS.out.2) (by rw [← hsplit]; exact HNS.out.1) hI.out.1)
   have HII := hI
   clear hI hname hsplit hxr hjl
   go_wp2_with fail
   refine Calls.mono HS61.out ?_
   rintro e w4 ⟨g2, cap2, sm, rfl, hpk4, hx4, hnext⟩
   rw [← HW.out] at hx4
   have HPATH := Lib.hid (show PathOk w4.drew path n from hpk4)
   have HX4 := Lib.hid (show w4.drew.heap[wb]? = some (.cells #[.iface T x, .pointer none, .slice (some ⟨sb, 0, none⟩) 2 c, path, .bool infer, .bool false, mo] 66 (0, 0)) from hx4)
   have HNEXT := Lib.hid (show ∀ path' w2, PathApp w4.drew w2 path path' n → _ from fun path' w2 hp => hnext path' w2 hp.of_drew)
   clear hnext hpk4 HS61 p0 p1 p2 p3 p4 p5 p6 hcell
   have p0 : w4.cell? ⟨wb, 0, none⟩ = some (.iface T x) := (blk_cell hx4 0).trans rfl
   have p1 : w4.cell? ⟨wb, 1, none⟩ = some (.pointer none) := (blk_cell hx4 1).trans rfl
   have p2 : w4.cell? ⟨wb, 2, none⟩ = some (.slice (some ⟨sb, 0, none⟩) 2 c) := (blk_cell hx4 2).trans rfl
   have p3 : w4.cell? ⟨wb, 3, none⟩ = some (path) := (blk_cell hx4 3).trans rfl
   have p4 : w4.cell? ⟨wb, 4, none⟩ = some (.bool infer) := (blk_cell hx4 4).trans rfl
   have p5 : w4.cell? ⟨wb, 5, none⟩ = some (.bool false) := (blk_cell hx4 5).trans rfl
   have p6 : w4.cell? ⟨wb, 6, none⟩ = some (mo) := (blk_cell hx4 6).trans rfl
   clear hx4
   go_wp2_with fail
   refine start_ (n := 22) (S := fun w' => w'.cell? ⟨wb, 0, none⟩ = some (.iface T x) ∧ w'.cell? ⟨wb, 1, none⟩ = some (.pointer none) ∧ w'.cell? ⟨wb, 2, none⟩ = some (.slice (some ⟨sb, 0, none⟩) 2 c) ∧ w'.cell? ⟨wb, 3, none⟩ = some (path) ∧ w'.cell? ⟨wb, 4, none⟩ = some (.bool infer) ∧ w'.cell? ⟨wb, 5, none⟩ = some (.bool false) ∧ w'.cell? ⟨wb, 6, none⟩ = some (mo)) (ds := [16]) #[false, false, false, false, false, false, false, false, false, false, false, false, false, false, false, false, false, false, false, false, false, false] (by kernel_rfl) rfl rfl ⟨p0, p1, p2, p3, p4, p5, p6⟩ (fun hHeld => ?_)
   refine pu 0 (some 121) (bl 22 1) ?_
   refine pu 2 (some 123) (bl 22 5) ?_
   refine pu 6 (some 127) (bl 22 69) ?_
   refine pu 7 (some 128) (bl 22 197) ?_
   refine pu 8 (some 129) (bl 22 453) ?_
   refine pu 10 (some 131) (bl 22 1477) ?_
   refine pu 12 (some 133) (bl 22 5573) ?_
   refine tk 1 (some 122) (bl 22 5575) hHeld ?_
   refine tk 3 (some 124) (bl 22 5583) hHeld ?_
   refine tk 4 (some 125) (bl 22 5599) hHeld ?_
   refine pu 5 (some 126) (bl 22 5631) ?_
   refine tk 9 (some 130) (bl 22 6143) hHeld ?_
   refine tk 11 (some 132) (bl 22 8191) hHeld ?_
   refine on_ 13 (some 134) (bl 22 16383) fun K hK => ?_
   refine value_ (w1 := ?_) (v := ?_) (by rfl) rfl ?_ ?_
   rotate_left 2
   ·go_simp
    constructor
    ·rfl
    ·rfl
   refine hK.out _ _ ⟨cell_old _ hHeld.1, cell_old _ hHeld.2.1, cell_old _ hHeld.2.2.1, cell_old _ hHeld.2.2.2.1, cell_old _ hHeld.2.2.2.2.1, cell_old _ hHeld.2.2.2.2.2.1, cell_old _ hHeld.2.2.2.2.2.2⟩ (fun hHeld => ?_)
   clear hK K
   refine nr (some 134) ?_
   refine on_ 14 (some 135) (bl 22 32767) fun K hK => ?_
   refine step_path ⟨name.toArray⟩ (by rfl) rfl rfl path n (by rfl) (by simp [Act.eval]) HPATH.out HN.out ?_
   intro path' w5 happ
   obtain ⟨A9, c9, rfl⟩ := happ.ok.slice
   have hbx5 := (happ.keep.block wb (lt_of_block HX4.out) (fun e => HPB.out e)).trans HX4.out
   have HX5 := Lib.hid hbx5
   have HAPP := Lib.hid happ
   clear happ hbx5
   refine hK.out _ _ ⟨(blk_cell HX5.out 0).trans rfl, (blk_cell HX5.out 1).trans rfl, (blk_cell HX5.out 2).trans rfl, (blk_cell HX5.out 3).trans rfl, (blk_cell HX5.out 4).trans rfl, (blk_cell HX5.out 5).trans rfl, (blk_cell HX5.out 6).trans rfl⟩ (fun hHeld => ?_)
   clear hK K
   refine nr (some 135) ?_
   refine pu 15 (some 136) (bl 22 65535) ?_
   refine ls_ 16 (some 137) (bl 22 131071) fun K hK => ?_
   refine gs_ Tryz.func38 #[wkV (.iface 66 (wkV (.iface T x) path mo sb c infer)) (.slice A9 (n + 1) c9) mo g2 cap2 infer] ?_
   refine (HNEXT.out (.slice A9 (n + 1) c9) w5 HAPP.out).mono ?_
   rintro e w6 ⟨q, rfl, hsty, hptr, hpipe⟩
   have HSTY := Lib.hid hsty
   have HPTR := Lib.hid hptr
   have HPIPE := Lib.hid hpipe
   clear hsty hptr hpipe
   refine ⟨_, rfl, ?_⟩
   refine hK.out _ _ ?_
   clear hK K
   refine nr (some 137) ?_
   refine pu 17 (some 120) (bl 22 262143) ?_
   refine pu 18 (some 138) (bl 22 524287) ?_
   refine pu 19 (some 139) (bl 22 1048575) ?_
   refine pu 20 (some 16) (bl 22 2097151) ?_
   refine pu 21 (some 17) (bl 22 4194303) ?_
   refine done_ (by kernel_rfl) ?_
   clear HNEXT HPATH HX4 p0 p1 p2 p3 p4 p5 p6 HAPP
   go_wp2_with fail
   refine Calls.mono (missing_nil _) ?_
   rintro e w7 ⟨rfl, rfl⟩
   have hB2 := below_alloc (Below.refl w6.heap.size w6) (.cells #[.string ⟨#[]⟩, .string ⟨#[]⟩, .string ⟨#[]⟩] 102)
   have hlk := lookup_sty _ (HSTY.out.under hB2) (HPTR.out.under hB2)
   have HB2 := Lib.hid hB2
   clear hB2 HSTY HPTR
   go_wp2_with fail
   have hB3 := below_alloc (below_alloc HB2.out (.cells #[.string ⟨#[]⟩, .string ⟨name.toArray⟩, .string ⟨#[]⟩, .string ⟨#[]⟩, .string ⟨#[]⟩, .pointer q, .string ⟨#[]⟩, .bool false, .int .u32 0] 104)) (.cells #[.iface 104 (fsV ⟨name.toArray⟩ q)] 135)
   refine (HPIPE.out (w6.heap.size + 1 + 1) _ hB3 ((blk_cell (blk_new (by simp) _) 0).trans rfl)).mono ?_
   rintro e w9 ⟨q', rfl, hi9, hk9⟩
   have H9 := Lib.hid (And.intro hi9 hk9)
   clear hi9 hk9 hB3 HPIPE HB2 hlk
   go_wp2_with fail
   go_roundg (gk - 1)
   case measure => omega
   case rel =>
    refine ⟨j + 1, by omega, by go_num, Lib.hid ⟨?_, ?_⟩⟩
    ·rw [List.take_add_one, HSP.out.1]
     exact H9.out.1
    ·refine own_move HII.out.2 fun k hk => H9.out.2.block k (own_lt HII.out.2 k hk) ?_
     rintro (hT | ⟨cs, t, hT, ht⟩)
     ·have := own_base HII.out.2 k hk
      have := hwz.out
      omega
     ·obtain ⟨cs', hc⟩ := own_typed HII.out.2 k hk
      rw [hc] at hT
      injection hT with hT
      injection hT with _ hT
      subst hT
      simp at ht
  ·have hj2 := Lib.hid (show j = N by omega)
   have hx : ¬ (j : Int) < (N : Int) := by omega
   have HII := hI
   clear hI
   go_wp2_with fail
   go_ret2
   refine ⟨rfl, ns, HNS.out.1, HNS.out.2, ?_⟩
   have := HII.out.1
   rw [hj2.out, HL.out, List.take_length] at this
   exact this
end Go.Proofs.YtghmajlfmoggfaaGreat
