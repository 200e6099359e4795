import Derived.LoopN
import Derived.LaidEqlPtr
import Derived.MapKept
import Derived.OwnWalk
import Derived.Laws.OwnMore
import Derived.Test.YtghmajlfmoggfaaGreatMB2
import Derived.Test.YtghmajlfmoggfaaGreatMB1
set_option linter.unusedSimpArgs false
set_option linter.unusedVariables false
namespace Go.Proofs.YtghmajlfmoggfaaGreat
open Go.RowKit Go.Proofs.YtghmajlfmoggfaaGreatW.PrintWords Go.Proofs.YtghmajlfmoggfaaGreatW.PrintLast PFnMerge
theorem meth60 (f : Nat) (w : World) : Sem.run Tryz.prog (method (f + 1) 60 (.agg #[]) "VisitScalar") w = .ok (160, .agg #[]) w ∧ Sem.run Tryz.prog (method (f + 1) 60 (.agg #[]) "VisitList") w = .ok (158, .agg #[]) w ∧ Sem.run Tryz.prog (method (f + 1) 60 (.agg #[]) "VisitMap") w = .ok (159, .agg #[]) w :=
 ⟨by kernel_rfl, by kernel_rfl, by kernel_rfl⟩
theorem meth66 (f T : Nat) (x a1 a2 a3 a4 a5 a6 : Value) (w : World) : Sem.run Tryz.prog (method (f + 1) 66 (.agg #[.iface T x, a1, a2, a3, a4, a5, a6]) "VisitScalar") w = Sem.run Tryz.prog (method f T x "VisitScalar") w ∧ Sem.run Tryz.prog (method (f + 1) 66 (.agg #[.iface T x, a1, a2, a3, a4, a5, a6]) "VisitList") w = Sem.run Tryz.prog (method f T x "VisitList") w ∧ Sem.run Tryz.prog (method (f + 1) 66 (.agg #[.iface T x, a1, a2, a3, a4, a5, a6]) "VisitMap") w = Sem.run Tryz.prog (method f T x "VisitMap") w :=
 ⟨by kernel_rfl, by kernel_rfl, by kernel_rfl⟩
def LiveQ (w : World) (q : Option Addr) (k : Int) : Prop := (∃ r b tag val A n c, q = some ⟨r, 0, none⟩ ∧ RNB w r b ∧ NodeB w b k tag val (.slice A n c) ∧ (k == 1) = false ∧ (tag.toList == [33, 33, 110, 117, 108, 108]) = false ∧ ((n : Int) % 2 != 0) = false ∧ (n : Int) ≤ 9223372036854775807) ∨
 ∃ r b tag val C, k ≠ 4 ∧ q = some ⟨r, 0, none⟩ ∧ RNB w r b ∧ NodeB w b k tag val C ∧ (k == 1) = false ∧ (tag.toList == [33, 33, 110, 117, 108, 108]) = false
def DeadQ (w : World) (q : Option Addr) : Prop := q = none ∨ ∃ r b k val C, q = some ⟨r, 0, none⟩ ∧ RNB w r b ∧ NodeB w b k nullTag val C ∧ (k == 1) = false
theorem LiveQ.under {w w' : World} {q : Option Addr} {k : Int} (h : LiveQ w q k) (hb : Below w.heap.size w w') : LiveQ w' q k := by
 rcases h with ⟨r, b, tag, val, A, n, c, h1, h2, h3, h4⟩ | ⟨r, b, tag, val, C, h0, h1, h2, h3, h4⟩
 ·exact .inl ⟨r, b, tag, val, A, n, c, h1, h2.under hb, h3.under hb, h4⟩
 ·exact .inr ⟨r, b, tag, val, C, h0, h1, h2.under hb, h3.under hb, h4⟩
theorem DeadQ.under {w w' : World} {q : Option Addr} (h : DeadQ w q) (hb : Below w.heap.size w w') : DeadQ w' q := by
 rcases h with h | ⟨r, b, k, val, C, h1, h2, h3, h4⟩
 ·exact .inl h
 ·exact .inr ⟨r, b, k, val, C, h1, h2.under hb, h3.under hb, h4⟩
theorem LiveQ.missing {w : World} {q : Option Addr} {k : Int} (h : LiveQ w q k) : Calls Tryz.prog 55 #[.pointer q] w fun e w' => e = .returned (.bool false) ∧ w = w' := by
 rcases h with ⟨r, b, tag, val, A, n, c, rfl, h2, h3, h4, h5, _⟩ | ⟨r, b, tag, val, C, h0, rfl, h2, h3, h4, h5⟩
 ·exact missing_no w h2 h3 h4 h5
 ·exact missing_no w h2 h3 h4 h5
theorem LiveQ.kind {w : World} {q : Option Addr} {k : Int} (h : LiveQ w q k) : ∃ b, Calls Tryz.prog 42 #[.pointer q] w (fun e w' => e = .returned (.pointer (some ⟨b, 0, none⟩)) ∧ w = w') ∧ w.cell? ⟨b, 0, none⟩ = some (.int .u32 k) := by
 rcases h with ⟨r, b, tag, val, A, n, c, rfl, h2, h3, h4, h5, _⟩ | ⟨r, b, tag, val, C, h0, rfl, h2, h3, h4, h5⟩
 ·exact ⟨b, ynode_some w h2 h3 h4, h3.c0⟩
 ·exact ⟨b, ynode_some w h2 h3 h4, h3.c0⟩
theorem DeadQ.missing {w : World} {q : Option Addr} (h : DeadQ w q) : Calls Tryz.prog 55 #[.pointer q] w fun e w' => e = .returned (.bool true) ∧ w = w' := by
 rcases h with rfl | ⟨r, b, k, val, C, rfl, h2, h3, h4⟩
 ·exact missing_nil w
 ·exact missing_yes w h2 h3 h4
theorem LiveQ.fine {w : World} {q : Option Addr} {k : Int} (h : LiveQ w q k) : Calls Tryz.prog 56 #[.pointer q, .int .u32 k] w fun e w' => e = .returned .nilIface ∧ w = w' := by
 rcases h with ⟨r, b, tag, val, A, n, c, rfl, h2, h3, h4, h5, h6, h7⟩ | ⟨r, b, tag, val, C, h0, rfl, h2, h3, h4, h5⟩
 ·by_cases hk : k = 4
  ·subst hk
   exact errInv_map w h2 h3 h5 h6 h7
  ·exact errInv_eq w h2 h3 h4 (by simpa using hk) h5
 ·exact errInv_eq w h2 h3 h4 (by simpa using h0) h5
variable {V path mo : Value} {infer : Bool} {sb c : Nat} {dp sp : Option Addr}
theorem present81_nil (w : World) :
  Calls Tryz.prog 81 #[.agg #[V, .pointer none, .slice (some ⟨sb, 0, none⟩) 2 c, path, .bool infer, .bool false, mo], .pointer none] w fun e w' => e = .returned (.tuple #[.pointer none, .pointer none]) ∧ Below w.heap.size w w' := by
 go_enter Tryz.func81, Tryz.ntmps81
 go_wp2_with fail
 go_ret2
 exact ⟨rfl, below_alloc (Below.refl _ _) _⟩
theorem present81_some {mb kr vr : Nat} (w : World) (hm : MNB w mb kr vr) :
  Calls Tryz.prog 81 #[.agg #[V, .pointer none, .slice (some ⟨sb, 0, none⟩) 2 c, path, .bool infer, .bool false, mo], .pointer (some ⟨mb, 0, none⟩)] w fun e w' => e = .returned (.tuple #[.pointer (some ⟨vr, 0, none⟩), .pointer none]) ∧ Below w.heap.size w w' := by
 have hc : (w.alloc (.cells #[V, .pointer none, .slice (some ⟨sb, 0, none⟩) 2 c, path, .bool infer, .bool false, mo] 66)).cell? ⟨mb, 1, none⟩ = some (.pointer (some ⟨vr, 0, none⟩)) := by
  exact (blk_cell (blk_old (.cells #[V, .pointer none, .slice (some ⟨sb, 0, none⟩) 2 c, path, .bool infer, .bool false, mo] 66) hm) 1).trans rfl
 clear hm
 go_enter Tryz.func81, Tryz.ntmps81
 go_wp2_with fail
 go_ret2
 exact ⟨rfl, below_alloc (Below.refl _ _) _⟩
theorem schema82 (w : World) : Calls Tryz.prog 82 #[.pointer none] w fun e w' => e = .returned (.bool true) ∧ w = w' := by
 go_enter Tryz.func82, Tryz.ntmps82
 go_wp2_with fail
 go_ret
 exact ⟨rfl, rfl⟩
theorem schema44 (w : World) :
  Calls Tryz.prog 44 #[.agg #[V, .pointer none, .slice (some ⟨sb, 0, none⟩) 2 c, path, .bool infer, .bool false, mo]] w fun e w' => e = .returned (.pointer none) ∧ Below w.heap.size w w' := by
 go_enter Tryz.func44, Tryz.ntmps44
 go_wp2_with fail
 go_ret
 exact ⟨rfl, below_alloc (Below.refl _ _) _⟩
theorem assoc48 {s : Value} (w : World) : Calls Tryz.prog 48 #[.pointer none, s, .bool false] w fun e w' => e = .returned (.bool false) ∧ w = w' := by
 go_enter Tryz.func48, Tryz.ntmps48
 go_wp2_with fail
 go_ret
 exact ⟨rfl, rfl⟩
theorem setDest57 {q : Option Addr} (w : World) (hs : SrcAt w sb dp sp) :
  Calls Tryz.prog 57 #[.slice (some ⟨sb, 0, none⟩) 2 c, .pointer q, .nilIface] w fun e w' => e = .returned (.tuple #[.pointer q, .nilIface]) ∧ SrcAt w' sb q sp ∧ Keep (fun k => k = sb) w w' := by
 have H := Lib.hid hs
 have h0 := hs.c0
 have hf := hs.fz 0
 clear hs
 go_enter Tryz.func57, Tryz.ntmps57
 go_wp2_with fail
 go_ret2
 obtain ⟨cur, hb, g0, g1⟩ := H.out
 refine ⟨rfl, ?_, (Keep.refl _ _).setCell _ _ fun _ => rfl⟩
 have hz : 0 < cur.size := by
  rcases Nat.eq_zero_or_pos cur.size with h | h
  ·simp [Array.getElem?_eq_none (show cur.size ≤ 0 by omega)] at g0
  ·exact h
 exact ⟨_, blk_set hb 0 _, by simp [hz], by rw [← g1]; simp⟩
theorem enter160 (args : Array Value) (w : World) : Sem.run Tryz.prog (callFunc 160 args) w = .ok (.enter 160 args) w := enterFn Tryz.func160 (by kernel_rfl) rfl args w
theorem enter158 (args : Array Value) (w : World) : Sem.run Tryz.prog (callFunc 158 args) w = .ok (.enter 158 args) w := enterFn Tryz.func158 (by kernel_rfl) rfl args w
theorem enter159 (args : Array Value) (w : World) : Sem.run Tryz.prog (callFunc 159 args) w = .ok (.enter 159 args) w := enterFn Tryz.func159 (by kernel_rfl) rfl args w
variable {n : Nat}
end Go.Proofs.YtghmajlfmoggfaaGreat
namespace Go.Proofs.YtghmajlfmoggfaaGreat
open Go.RowKit Go.Proofs.YtghmajlfmoggfaaGreatW.PrintWords Go.Proofs.YtghmajlfmoggfaaGreatW.PrintLast PFnMerge
variable {V path mo : Value} {infer : Bool} {sb c : Nat} {dp sp : Option Addr} {k : Int}
set_option maxRecDepth 20000 in
theorem kind45_d (w : World) (hs : SrcAt w sb dp sp) (hd : LiveQ w dp k) :
  Calls Tryz.prog 45 #[.agg #[V, .pointer none, .slice (some ⟨sb, 0, none⟩) 2 c, path, .bool infer, .bool false, mo]] w fun e w' => e = .returned (.int .u32 k) ∧ Below w.heap.size w w' := by
 have hb := below_alloc (Below.refl w.heap.size w) (.cells #[V, .pointer none, .slice (some ⟨sb, 0, none⟩) 2 c, path, .bool infer, .bool false, mo] 66)
 have h0 := (hs.under hb).c0
 obtain ⟨b, hy, hc0⟩ := (hd.under hb).kind
 have HM := Lib.hid (hd.under hb).missing
 have HY := Lib.hid hy
 have HB := Lib.hid hb
 clear hs hd hy hb
 go_enter Tryz.func45, Tryz.ntmps45
 go_wp2_with fail
 refine wp_loop_rounds 2 ?_
 rw [rounds_succ]
 go_wp2_with fail
 refine Calls.mono HM.out ?_
 rintro e w1 ⟨rfl, rfl⟩
 go_wp2_with fail
 refine Calls.mono HY.out ?_
 rintro e w1 ⟨rfl, rfl⟩
 go_wp2_with fail
 go_ret
 exact ⟨rfl, HB.out⟩
set_option maxRecDepth 20000 in
theorem kind45_s (w : World) (hs : SrcAt w sb dp sp) (hd : DeadQ w dp) (ho : LiveQ w sp k) :
  Calls Tryz.prog 45 #[.agg #[V, .pointer none, .slice (some ⟨sb, 0, none⟩) 2 c, path, .bool infer, .bool false, mo]] w fun e w' => e = .returned (.int .u32 k) ∧ Below w.heap.size w w' := by
 have hb := below_alloc (Below.refl w.heap.size w) (.cells #[V, .pointer none, .slice (some ⟨sb, 0, none⟩) 2 c, path, .bool infer, .bool false, mo] 66)
 have h0 := (hs.under hb).c0
 have h1 := (hs.under hb).c1
 obtain ⟨b, hy, hc0⟩ := (ho.under hb).kind
 have HM := Lib.hid (hd.under hb).missing
 have HN := Lib.hid (ho.under hb).missing
 have HY := Lib.hid hy
 have HB := Lib.hid hb
 clear hs hd hy hb ho
 go_enter Tryz.func45, Tryz.ntmps45
 go_wp2_with fail
 refine wp_loop_rounds 2 ?_
 rw [rounds_succ]
 go_wp2_with fail
 refine Calls.mono HM.out ?_
 rintro e w1 ⟨rfl, rfl⟩
 go_wp2_with fail
 rw [rounds_succ]
 go_wp2_with fail
 refine Calls.mono HN.out ?_
 rintro e w1 ⟨rfl, rfl⟩
 go_wp2_with fail
 refine Calls.mono HY.out ?_
 rintro e w1 ⟨rfl, rfl⟩
 go_wp2_with fail
 go_ret
 exact ⟨rfl, HB.out⟩
def EitherQ (w : World) (q : Option Addr) (k : Int) : Prop := DeadQ w q ∨ LiveQ w q k
set_option maxRecDepth 20000 in
theorem any46 (w : World) (hs : SrcAt w sb dp sp) (hd : EitherQ w dp k) (ho : EitherQ w sp k) :
  Calls Tryz.prog 46 #[.int .u32 k, .slice (some ⟨sb, 0, none⟩) 2 c] w fun e w' => e = .returned .nilIface ∧ w = w' := by
 have h0 := hs.c0
 have h1 := hs.c1
 have HD := Lib.hid hd
 have HO := Lib.hid ho
 clear hs hd ho
 go_enter Tryz.func46, Tryz.ntmps46
 go_wp2_with fail
 refine wp_loop_rounds 3 ?_
 rw [rounds_succ]
 rcases HD.out with hd | hd
 ·have HM := Lib.hid hd.missing
  clear hd HD
  go_wp2_with fail
  refine Calls.mono HM.out ?_
  rintro e w1 ⟨rfl, rfl⟩
  go_wp2_with fail
  rw [rounds_succ]
  rcases HO.out with ho | ho
  ·have HN := Lib.hid ho.missing
   clear ho HO
   go_wp2_with fail
   refine Calls.mono HN.out ?_
   rintro e w1 ⟨rfl, rfl⟩
   go_wp2_with fail
   rw [rounds_succ]
   go_wp2_with fail
   go_ret
   exact ⟨rfl, rfl⟩
  ·have HN := Lib.hid ho.missing
   have HF := Lib.hid ho.fine
   clear ho HO
   go_wp2_with fail
   refine Calls.mono HN.out ?_
   rintro e w1 ⟨rfl, rfl⟩
   go_wp2_with fail
   refine Calls.mono HF.out ?_
   rintro e w1 ⟨rfl, rfl⟩
   go_wp2_with fail
   rw [rounds_succ]
   go_wp2_with fail
   go_ret
   exact ⟨rfl, rfl⟩
 ·have HM := Lib.hid hd.missing
  have HG := Lib.hid hd.fine
  clear hd HD
  go_wp2_with fail
  refine Calls.mono HM.out ?_
  rintro e w1 ⟨rfl, rfl⟩
  go_wp2_with fail
  refine Calls.mono HG.out ?_
  rintro e w1 ⟨rfl, rfl⟩
  go_wp2_with fail
  rw [rounds_succ]
  rcases HO.out with ho | ho
  ·have HN := Lib.hid ho.missing
   clear ho HO
   go_wp2_with fail
   refine Calls.mono HN.out ?_
   rintro e w1 ⟨rfl, rfl⟩
   go_wp2_with fail
   rw [rounds_succ]
   go_wp2_with fail
   go_ret
   exact ⟨rfl, rfl⟩
  ·have HN := Lib.hid ho.missing
   have HF := Lib.hid ho.fine
   clear ho HO
   go_wp2_with fail
   refine Calls.mono HN.out ?_
   rintro e w1 ⟨rfl, rfl⟩
   go_wp2_with fail
   refine Calls.mono HF.out ?_
   rintro e w1 ⟨rfl, rfl⟩
   go_wp2_with fail
   rw [rounds_succ]
   go_wp2_with fail
   go_ret
   exact ⟨rfl, rfl⟩
end Go.Proofs.YtghmajlfmoggfaaGreat
namespace Go.Proofs.YtghmajlfmoggfaaGreat
open Go.RowKit Go.Proofs.YtghmajlfmoggfaaGreatW.PrintWords Go.Proofs.YtghmajlfmoggfaaGreatW.PrintLast PFnMerge
def StyE (w : World) (e : MapEntry) : Prop := e.val = .int .u32 0 ∧ ∃ r cs, e.key = .pointer (some ⟨r, 0, none⟩) ∧ w.heap[r]? = some (.cells cs 81 (0, 0))
def StyM (w : World) (m : Nat) : Prop := ∃ es clock, w.heap[m]? = some (.map es clock) ∧ ∀ e ∈ es.toList, StyE w e
theorem StyM.under {w w' : World} {m : Nat} (h : StyM w m) (hb : Below w.heap.size w w') : StyM w' m := by
 obtain ⟨es, clock, h1, h2⟩ := h
 refine ⟨es, clock, (hb.block _ (lt_of_block h1)).trans h1, fun e he => ?_⟩
 obtain ⟨g, r, cs, g1, g2⟩ := h2 e he
 exact ⟨g, r, cs, g1, (hb.block _ (lt_of_block g2)).trans g2⟩
theorem info81 : ∃ j, Tryz.prog.info? 81 = some j ∧ j.size ≠ 0 := by
 have h : (Tryz.prog.info? 81).map (·.size) = some 4 := by kernel_rfl
 cases hj : Tryz.prog.info? 81 with
 | none => rw [hj] at h; cases h
 | some j => rw [hj] at h; injection h with h; exact ⟨j, rfl, by change j.size = 4 at h; omega⟩
theorem eq_ptr (w : World) (r r' : Nat) {cs cs' : Array Value} {t t' : Nat} (h : w.heap[r]? = some (.cells cs t (0, 0))) (h' : w.heap[r']? = some (.cells cs' t' (0, 0))) :
  (Op.equal 47 (.pointer (some ⟨r, 0, none⟩)) (.pointer (some ⟨r', 0, none⟩))).run Tryz.prog w = .ok (decide (r = r')) w := by
 obtain ⟨j, hj, hz⟩ := info81
 by_cases hr : r = r'
 ·subst hr
  have h : ∀ d : Nat, (Op.equalIn (d + 1) 47 (.pointer (some ⟨r, 0, none⟩)) (.pointer (some ⟨r, 0, none⟩))).run Tryz.prog w = .ok true w := fun d => by
   simp [Op.equalIn, run_underlying Tryz.underlying47, sizeOf, typeInfo, hj, run_sameAddr_same]
  simp [Op.equal, Op.maxDepth, h 9999]
 ·have h : ∀ d : Nat, (Op.equalIn (d + 1) 47 (.pointer (some ⟨r, 0, none⟩)) (.pointer (some ⟨r', 0, none⟩))).run Tryz.prog w = .ok false w := fun d => by
   simp [Op.equalIn, run_underlying Tryz.underlying47, sizeOf, typeInfo, hj, hz, run_sameAddr_other w (show (⟨r, 0, none⟩ : Addr) ≠ ⟨r', 0, none⟩ by intro e; injection e with e; exact hr e) h h']
  simp [Op.equal, Op.maxDepth, h 9999, hr]
theorem eq_ptr_nil (w : World) (r' : Nat) : (Op.equal 47 (.pointer none) (.pointer (some ⟨r', 0, none⟩))).run Tryz.prog w = .ok false w := by
 have h : ∀ d : Nat, (Op.equalIn (d + 1) 47 (.pointer none) (.pointer (some ⟨r', 0, none⟩))).run Tryz.prog w = .ok false w := fun d => by
  simp [Op.equalIn, run_underlying Tryz.underlying47]
 simp [Op.equal, Op.maxDepth, h 9999]
def PtrQ (w : World) (q : Option Addr) : Prop := q = none ∨ ∃ r cs t, q = some ⟨r, 0, none⟩ ∧ w.heap[r]? = some (.cells cs t (0, 0))
theorem find_ptr (w : World) (q : Option Addr) (hq : PtrQ w q) : ∀ (es : List MapEntry) (i : Nat), (∀ e ∈ es, StyE w e) →
  ∃ o, (Instr.findAsking 47 (.pointer q) es i).run Tryz.prog w = .ok o w ∧ (o = none ∨ ∃ j e, o = some (i + j, .int .u32 0) ∧ es[j]? = some e ∧ e.key = .pointer q) := by
 intro es
 induction es with
 | nil => intro i _; exact ⟨none, rfl, .inl rfl⟩
 | cons e es ih =>
  intro i h
  obtain ⟨hv, r, cs, hk, hb⟩ := h e (by simp)
  have he : ∃ v, (Op.equal 47 (.pointer q) e.key).run Tryz.prog w = .ok v w ∧ (v = true → e.key = .pointer q) := by
   rcases hq with rfl | ⟨r', cs', t', rfl, hb'⟩
   ·exact ⟨false, by rw [hk]; exact eq_ptr_nil w r, by simp⟩
   ·exact ⟨_, by rw [hk]; exact eq_ptr w r' r hb' hb, by intro hd; rw [hk, of_decide_eq_true hd]⟩
  obtain ⟨v, he, hv1⟩ := he
  cases v with
  | true =>
   refine ⟨some (i, e.val), by simp [Instr.findAsking, he], .inr ⟨0, e, by rw [hv]; rfl, rfl, hv1 rfl⟩⟩
  | false =>
   obtain ⟨o, ho, hc⟩ := ih (i + 1) fun e he => h e (by simp [he])
   refine ⟨o, by simpa [Instr.findAsking, he] using ho, ?_⟩
   rcases hc with rfl | ⟨j, e', rfl, h1, h2⟩
   ·exact .inl rfl
   ·exact .inr ⟨j + 1, e', by rw [show i + 1 + j = i + (j + 1) by omega], by simpa using h1, h2⟩
theorem findKey_ptr (w : World) (q : Option Addr) (hq : PtrQ w q) (es : List MapEntry) (h : ∀ e ∈ es, StyE w e) :
  ∃ o, (Instr.findKey 47 (.pointer q) es).run Tryz.prog w = .ok o w ∧ (o = none ∨ ∃ j e, o = some (j, .int .u32 0) ∧ es[j]? = some e ∧ e.key = .pointer q) := by
 cases es with
 | nil => exact ⟨none, by simp [Instr.findKey, run_underlying Tryz.underlying47, Instr.findNow], .inl rfl⟩
 | cons e es =>
  obtain ⟨o, ho, hc⟩ := find_ptr w q hq (e :: es) 0 h
  refine ⟨o, ?_, ?_⟩
  ·simpa [Instr.findKey, run_underlying Tryz.underlying47, Instr.findNow, Instr.sameNow] using ho
  ·rcases hc with rfl | ⟨j, e', rfl, h1, h2⟩
   ·exact .inl rfl
   ·exact .inr ⟨j, e', by rw [Nat.zero_add], h1, h2⟩
theorem check_ptr (w : World) (q : Option Addr) (b : Bool) (n : Nat) : (Instr.checkKey b (n + 1) 47 (.pointer q)).run Tryz.prog w = .ok () w := by
 simp [Instr.checkKey, run_underlying Tryz.underlying47]
theorem lookup_sty (w : World) {m : Nat} {q : Option Addr} (hm : StyM w m) (hq : PtrQ w q) :
  (Instr.lookup 98 (.map (some m)) (.pointer q) false).run Tryz.prog w = .ok (.int .u32 0) w := by
 obtain ⟨es, clock, h1, h2⟩ := hm
 obtain ⟨o, ho, hc⟩ := findKey_ptr w q hq es.toList h2
 have hz : (zeroValue 76).run Tryz.prog w = .ok (.int .u32 0) w := by kernel_rfl
 have hck : ∀ b, (Instr.checkKey b 10000 47 (.pointer q)).run Tryz.prog w = .ok () w := fun b => check_ptr w q b 9999
 rcases hc with rfl | ⟨j, e', rfl, g1, g2⟩
 ·simp [Instr.lookup, run_underlying Tryz.underlying98, MapKept.run_getObj_map h1, hck, ho, hz, Result.andThen]
 ·simp [Instr.lookup, run_underlying Tryz.underlying98, MapKept.run_getObj_map h1, hck, ho, hz, Result.andThen]
theorem update_sty (w : World) {m r : Nat} {cs : Array Value} (hm : StyM w m) (hr : w.heap[r]? = some (.cells cs 81 (0, 0))) :
  ∃ w', (Instr.mapUpdate 98 (.map (some m)) (.pointer (some ⟨r, 0, none⟩)) (.int .u32 0)).run Tryz.prog w = .ok () w' ∧ StyM w' m ∧ w.grownBy w' (some m) := by
 obtain ⟨es, clock, h1, h2⟩ := hm
 obtain ⟨o, ho, hc⟩ := findKey_ptr w (some ⟨r, 0, none⟩) (.inr ⟨r, cs, 81, rfl, hr⟩) es.toList h2
 have hck : (Instr.checkKey false 10000 47 (.pointer (some ⟨r, 0, none⟩))).run Tryz.prog w = .ok () w := check_ptr w _ false 9999
 have hset : ∀ es' clock', (setObj m (.map es' clock')).run Tryz.prog w = .ok () { w with heap := w.heap.setIfInBounds m (.map es' clock') } := fun es' clock' => MapKept.run_setObj_map _ h1
 have hne : m ≠ r := by rintro rfl; rw [h1] at hr; cases hr
 have hpost : ∀ es' clock', (∀ e ∈ es'.toList, StyE w e) → StyM { w with heap := w.heap.setIfInBounds m (.map es' clock') } m ∧ w.grownBy { w with heap := w.heap.setIfInBounds m (.map es' clock') } (some m) := by
  intro es' clock' he
  refine ⟨⟨es', clock', (MapKept.heap_set h1).1, fun e hm => ?_⟩, rfl, rfl, rfl, by simp, fun k _ hk => (MapKept.heap_set h1).2 k (fun e => hk (by rw [e]))⟩
  obtain ⟨g, r', cs', g1, g2⟩ := he e hm
  refine ⟨g, r', cs', g1, ?_⟩
  rw [(MapKept.heap_set h1).2 r' (by rintro rfl; rw [h1] at g2; cases g2)]
  exact g2
 rcases hc with rfl | ⟨j, e', rfl, g1, g2⟩
 ·refine ⟨_, by simp [Instr.mapUpdate, run_underlying Tryz.underlying98, MapKept.run_getObj_map h1, hck, ho, hset, Result.andThen]; rfl, hpost _ _ ?_⟩
  intro e he
  simp at he
  rcases he with he | rfl
  ·exact h2 e (by simpa using he)
  ·exact ⟨rfl, r, cs, rfl, hr⟩
 ·have hks : (Instr.keyThatStays (.pointer (some ⟨r, 0, none⟩)) (.pointer (some ⟨r, 0, none⟩))).run Tryz.prog w = .ok (.pointer (some ⟨r, 0, none⟩)) w := by
   simp [Instr.keyThatStays, Instr.sameBits]
  have hj : es[j]? = some e' := by simpa using g1
  refine ⟨_, by simp [Instr.mapUpdate, run_underlying Tryz.underlying98, MapKept.run_getObj_map h1, hck, ho, hset, hj, g2, hks, Result.andThen]; rfl, hpost _ _ ?_⟩
  intro e he
  obtain ⟨i, hi⟩ := List.getElem?_of_mem he
  rw [Array.getElem?_toList, Array.getElem?_modify] at hi
  by_cases hji : j = i
  ·subst hji
   simp [hj] at hi
   subst hi
   exact ⟨rfl, r, cs, rfl, hr⟩
  ·simp [hji] at hi
   exact h2 e (by have := List.mem_of_getElem? (l := es.toList) (by simpa using hi); exact this)
theorem StyM.grown {w w' : World} {m : Nat} {row : Option Nat} (h : StyM w m) (hg : w.grownBy w' row) (hm : some m ≠ row) (hr : ∀ r cs, w.heap[r]? = some (.cells cs 81 (0, 0)) → some r ≠ row) : StyM w' m := by
 obtain ⟨es, clock, h1, h2⟩ := h
 refine ⟨es, clock, (hg.block _ (lt_of_block h1) hm).trans h1, fun e he => ?_⟩
 obtain ⟨g, r, cs, g1, g2⟩ := h2 e he
 exact ⟨g, r, cs, g1, (hg.block _ (lt_of_block g2) (hr r cs g2)).trans g2⟩
theorem row_ne_map {w : World} {m base n e : Nat} {v : Value} {xs : List Value} {es : Array MapEntry} {clock : Nat} (hm : w.heap[m]? = some (.map es clock)) (hr : w.ownsRow base e 1 v n xs) : (some m : Option Nat) ≠ v.ownBlock := by
 intro he
 rcases hr.2 with ⟨rfl, _⟩ | ⟨g, cap, cur, rfl, _, hb, _⟩
 ·simp [Value.ownBlock] at he
 ·simp [Value.ownBlock] at he
  subst he
  rw [hm] at hb
  cases hb
theorem StyM.row {w w' : World} {m base n : Nat} {v : Value} {xs : List Value} (h : StyM w m) (hr : w.ownsRow base 47 1 v n xs) (hg : w.grownBy w' v.ownBlock) : StyM w' m := by
 obtain ⟨es, clock, h1, h2⟩ := h
 exact StyM.grown ⟨es, clock, h1, h2⟩ hg (row_ne_map h1 hr) fun r cs hb => own_ne hr hb (by decide)
def KidsQ (w : World) (q : Option Addr) (kids : List Kid) : Prop := (q = none ∧ kids = []) ∨ ∃ r b C, q = some ⟨r, 0, none⟩ ∧ RNB w r b ∧ MapAt w b C kids
theorem KidsQ.under {w w' : World} {q : Option Addr} {kids : List Kid} (h : KidsQ w q kids) (hb : Below w.heap.size w w') : KidsQ w' q kids := by
 rcases h with h | ⟨r, b, C, h1, h2, h3⟩
 ·exact .inl h
 ·exact .inr ⟨r, b, C, h1, h2.under hb, h3.under hb⟩
theorem Found.under {w w' : World} {kids : List Kid} {name : ByteArray} {q : Option Addr} (h : Found kids name q w) (hb : Below w.heap.size w w') : Found kids name q w' :=
 ⟨h.1, fun kid hk => by obtain ⟨vr, h1, h2⟩ := h.2 kid hk; exact ⟨vr, h1, h2.under hb⟩⟩
def Vals (w : World) (kd ks : List Kid) (name : ByteArray) (ds : List (Option Addr)) : Prop := (∀ d, ds[0]? = some d → Found kd name d w) ∧ ∀ s, ds[1]? = some s → Found ks name s w
theorem Vals.under {w w' : World} {kd ks : List Kid} {name : ByteArray} {ds : List (Option Addr)} (h : Vals w kd ks name ds) (hb : Below w.heap.size w w') : Vals w' kd ks name ds :=
 ⟨fun d hd => (h.1 d hd).under hb, fun s hs => (h.2 s hs).under hb⟩
theorem Vals.snoc {w : World} {kd ks kq : List Kid} {name : ByteArray} {ds : List (Option Addr)} {q : Option Addr} (h : Vals w kd ks name ds) (hj : ds.length = 0 ∧ kq = kd ∨ ds.length = 1 ∧ kq = ks) (hq : Found kq name q w) : Vals w kd ks name (ds ++ [q]) := by
 rcases hj with ⟨hl, rfl⟩ | ⟨hl, rfl⟩
 ·obtain rfl := List.length_eq_zero_iff.1 hl
  exact ⟨fun d hd => by simp at hd; subst hd; exact hq, fun s hs => by simp at hs⟩
 ·obtain ⟨a, rfl⟩ := List.length_eq_one_iff.1 hl
  exact ⟨fun d hd => by simp at hd; subst hd; exact h.1 _ rfl, fun s hs => by simp at hs; subst hs; exact hq⟩
theorem run_make98 (w : World) : (Instr.makeMap 98 (some (.int .i64 2))).run Tryz.prog w = .ok (.map (some w.heap.size)) (w.alloc (.map #[] 0)) := by
 simp [Instr.makeMap, run_underlying Tryz.underlying98, asInt, asIntOf, Result.andThen]
theorem row_rnb {w w' : World} {base n r b : Nat} {v : Value} {xs : List Value} (hr : w.ownsRow base 47 1 v n xs) (hg : w.grownBy w' v.ownBlock) (h : RNB w r b) : RNB w' r b := (hg.block r (lt_of_block h) (own_ne hr h (by decide))).trans h
theorem row_node {w w' : World} {base n b : Nat} {k : Int} {tag val : ByteArray} {C v : Value} {xs : List Value} (hr : w.ownsRow base 47 1 v n xs) (hg : w.grownBy w' v.ownBlock) (h : NodeB w b k tag val C) : NodeB w' b k tag val C := (hg.block b (lt_of_block h) (own_ne hr h (by decide))).trans h
theorem Vals.row {w w' : World} {kd ks : List Kid} {name : ByteArray} {ds : List (Option Addr)} {base n : Nat} {v : Value} {xs : List Value} (h : Vals w kd ks name ds) (hr : w.ownsRow base 47 1 v n xs) (hg : w.grownBy w' v.ownBlock) : Vals w' kd ks name ds :=
 ⟨fun d hd => ⟨(h.1 d hd).1, fun kid hk => by obtain ⟨vr, h1, h2⟩ := (h.1 d hd).2 kid hk; exact ⟨vr, h1, row_rnb hr hg h2⟩⟩, fun d hd => ⟨(h.2 d hd).1, fun kid hk => by obtain ⟨vr, h1, h2⟩ := (h.2 d hd).2 kid hk; exact ⟨vr, h1, row_rnb hr hg h2⟩⟩⟩
theorem rnb_map {w w' : World} {m r b : Nat} (hm : StyM w m) (hg : w.grownBy w' (some m)) (h : RNB w r b) : RNB w' r b := by
 obtain ⟨es, clock, h1, _⟩ := hm
 exact (hg.block r (lt_of_block h) (fun e => by injection e with e; subst e; rw [RNB, h1] at h; cases h)).trans h
theorem Vals.map {w w' : World} {kd ks : List Kid} {name : ByteArray} {ds : List (Option Addr)} {m : Nat} (h : Vals w kd ks name ds) (hm : StyM w m) (hg : w.grownBy w' (some m)) : Vals w' kd ks name ds :=
 ⟨fun d hd => ⟨(h.1 d hd).1, fun kid hk => by obtain ⟨vr, h1, h2⟩ := (h.1 d hd).2 kid hk; exact ⟨vr, h1, rnb_map hm hg h2⟩⟩, fun d hd => ⟨(h.2 d hd).1, fun kid hk => by obtain ⟨vr, h1, h2⟩ := (h.2 d hd).2 kid hk; exact ⟨vr, h1, rnb_map hm hg h2⟩⟩⟩
theorem sty_ne_row {w : World} {m base n : Nat} {v : Value} {xs : List Value} (h : StyM w m) (hr : w.ownsRow base 47 1 v n xs) : (some m : Option Nat) ≠ v.ownBlock := by
 obtain ⟨es, clock, h1, _⟩ := h
 exact row_ne_map h1 hr
structure FV (w : World) (wb : Nat) (cs : Array Value) (kd ks : List Kid) (name : ByteArray) (j : Nat) (ds : List (Option Addr)) (v : Value) (wr : World) : Prop where
 below : Below wb w wr
 wz : wb ≤ wr.heap.size
 sty : StyM wr (wb + 1)
 box : wr.heap[wb]? = some (.cells cs 66 (0, 0))
 len : ds.length = j
 row : wr.ownsRow wb 47 1 v j (ds.map Value.pointer)
 vals : Vals wr kd ks name ds
theorem FV.under {w wr w' : World} {wb j : Nat} {cs : Array Value} {kd ks : List Kid} {name : ByteArray} {ds : List (Option Addr)} {v : Value} (h : FV w wb cs kd ks name j ds v wr) (hb : Below wr.heap.size wr w') : FV w wb cs kd ks name j ds v w' :=
 ⟨h.below.trans (hb.mono h.wz), Nat.le_trans h.wz hb.size, h.sty.under hb, (hb.block _ (lt_of_block h.box)).trans h.box, h.len, own_move h.row fun k hk => hb.block k (own_lt h.row k hk), h.vals.under hb⟩
theorem FV.append {w wr w' : World} {wb j : Nat} {cs : Array Value} {kd ks kq : List Kid} {name : ByteArray} {ds : List (Option Addr)} {v v1 : Value} {q : Option Addr} (h : FV w wb cs kd ks name j ds v wr)
  (hown : w'.ownsRow wb 47 1 v1 (j + 1) (ds.map Value.pointer ++ [.pointer q])) (hg : wr.grownBy w' v.ownBlock) (hj : ds.length = 0 ∧ kq = kd ∨ ds.length = 1 ∧ kq = ks) (hq : Found kq name q wr) : FV w wb cs kd ks name (j + 1) (ds ++ [q]) v1 w' :=
 ⟨h.below.grown hg h.wz fun k hk => own_base h.row k hk, Nat.le_trans h.wz hg.size, h.sty.row h.row hg, (hg.block _ (lt_of_block h.box) (own_ne h.row h.box (by decide))).trans h.box, by simp [h.len], by simpa using hown, (h.vals.snoc hj hq).row h.row hg⟩
theorem FV.style {w wr w' : World} {wb j : Nat} {cs : Array Value} {kd ks : List Kid} {name : ByteArray} {ds : List (Option Addr)} {v : Value} (h : FV w wb cs kd ks name j ds v wr) (hs : StyM w' (wb + 1)) (hg : wr.grownBy w' (some (wb + 1))) : FV w wb cs kd ks name j ds v w' :=
 ⟨h.below.grown hg h.wz fun k hk => by injection hk with hk; omega, Nat.le_trans h.wz hg.size, hs, (hg.block _ (lt_of_block h.box) (fun e => by injection e with e; omega)).trans h.box, h.len, own_other h.row hg (.inr (Ne.symm (sty_ne_row h.sty h.row))), h.vals.map h.sty hg⟩
theorem FV.after {w wr w1 : World} {wb j mb kr vr kb cb : Nat} {cs : Array Value} {kd ks : List Kid} {name key : ByteArray} {ds : List (Option Addr)} {v : Value} (h : FV w wb cs kd ks name j ds v wr)
  (hm : MNB wr mb kr vr) (hk : RNB wr kr kb ∧ NodeB wr kb 8 noStr key nilS) (hv : RNB wr vr cb) (hg : wr.grownBy w1 v.ownBlock) :
  w1.cell? ⟨mb, 0, none⟩ = some (.pointer (some ⟨kr, 0, none⟩)) ∧ Calls Tryz.prog 42 #[.pointer (some ⟨kr, 0, none⟩)] w1 (fun e w' => e = .returned (.pointer (some ⟨kb, 0, none⟩)) ∧ w1 = w') ∧ w1.cell? ⟨kb, 1, none⟩ = some (.int .u32 0) ∧
   ∃ w5, (Instr.mapUpdate 98 (.map (some (wb + 1))) (.pointer (some ⟨vr, 0, none⟩)) (.int .u32 0)).run Tryz.prog w1 = .ok () w5 ∧ StyM w5 (wb + 1) ∧ w1.grownBy w5 (some (wb + 1)) := by
 have hmb4 := (hg.block _ (lt_of_block hm) (own_ne h.row hm (by decide))).trans hm
 have hkb := row_node h.row hg hk.2
 exact ⟨(blk_cell hmb4 0).trans rfl, ynode_some w1 (row_rnb h.row hg hk.1) hkb rfl, hkb.c1, update_sty w1 (h.sty.row h.row hg) (row_rnb h.row hg hv)⟩
variable {V path mo : Value} {infer : Bool} {sb c : Nat} {dp sp : Option Addr}
end Go.Proofs.YtghmajlfmoggfaaGreat
namespace Go.Proofs.YtghmajlfmoggfaaGreat
open Go.RowKit Go.Proofs.YtghmajlfmoggfaaGreatW.PrintWords Go.Proofs.YtghmajlfmoggfaaGreatW.PrintLast PFnMerge
def Shape9 (w w' : World) : Prop := ∀ (k : Nat) (cur : Array Value), w.heap[k]? = some (.cells cur 9 (0, 0)) → ∃ cur', w'.heap[k]? = some (.cells cur' 9 (0, 0)) ∧ cur'.size = cur.size
theorem Shape9.trans {w w1 w2 : World} (h : Shape9 w w1) (h' : Shape9 w1 w2) : Shape9 w w2 := fun k cur hk => by
 obtain ⟨c1, h1, e1⟩ := h k cur hk
 obtain ⟨c2, h2, e2⟩ := h' k c1 h1
 exact ⟨c2, h2, e2.trans e1⟩
theorem Shape9.of_keep {T : Nat → Prop} {w w' : World} (h : Keep T w w') (ht : ∀ k cur, T k → w.heap[k]? ≠ some (.cells cur 9 (0, 0))) : Shape9 w w' := fun k cur hk => ⟨cur, (h.block k (lt_of_block hk) (fun hT => ht k cur hT hk)).trans hk, rfl⟩
theorem Shape9.of_below {w w' : World} (h : Below w.heap.size w w') : Shape9 w w' := fun k cur hk => ⟨cur, (h.block k (lt_of_block hk)).trans hk, rfl⟩
def PathOk (w : World) (path : Value) (n : Nat) : Prop := ∃ xs, w.ownsRow 0 9 1 path n xs
theorem PathOk.nil (w : World) : PathOk w (.slice none 0 0) 0 := ⟨[], own_nil _ _ _ _⟩
theorem PathOk.shape {w w' : World} {path : Value} {n : Nat} (h : PathOk w path n) (hs : Shape9 w w') : PathOk w' path n := by
 obtain ⟨xs, hl, h⟩ := h
 rcases h with ⟨rfl, rfl⟩ | ⟨g, cap, cur, rfl, h0, h1, h2, h3, h4, h5⟩
 ·exact ⟨[], own_nil _ _ _ _⟩
 ·obtain ⟨cur', g1, g2⟩ := hs g cur h1
  refine ⟨cur'.toList.take (n * 1), ?_, .inr ⟨g, cap, cur', rfl, h0, g1, h2, h3, g2.trans h4, rfl⟩⟩
  simp; omega
theorem PathOk.slice {w : World} {path : Value} {n : Nat} (h : PathOk w path n) : ∃ A c, path = .slice A n c := by
 obtain ⟨xs, h⟩ := h
 exact own_slice h
structure PathApp (w w' : World) (path path' : Value) (n : Nat) : Prop where
 keep : Keep (fun k => path.ownBlock = some k) w w'
 shape : Shape9 w w'
 ok : PathOk w' path' (n + 1)
 at_ : path'.ownBlock = path.ownBlock ∨ ∃ k, path'.ownBlock = some k ∧ w.heap.size ≤ k
theorem run_path {a : Act} {o : Oper} {W : World} {s x : Operand} (key : ByteArray)
  (ho : o.op = .call { callee := .builtin .append, args := #[s, x], argTypes := #[22, 22] })
  (v : Value) (n : Nat) (hs : a.eval s = v) (hx : a.eval x = .slice (some ⟨W.heap.size, 0, none⟩) 1 1)
  (HO : PathOk W v n) (hl : n ≤ 1000) :
  ∃ v1 w1, (execOp a.eval o).run Tryz.prog (W.alloc (.cells #[.string key] 9)) = .ok (.value v1) w1 ∧ PathApp W w1 v v1 n := by
 obtain ⟨xs, HO⟩ := HO
 obtain ⟨i0, hi, hzz⟩ := Option.map_eq_some_iff.1 info9
 simp only [Prod.mk.injEq] at hzz
 obtain ⟨hz0, hz1, hz2⟩ := hzz
 have hnews : ∀ j u, [Value.string key][j]? = some u → (W.alloc (.cells #[.string key] 9)).cell? ((⟨W.heap.size, 0, none⟩ : Addr).add j) = some u := by
  simpa using World.news_of_block (cs := #[.string key]) (t := 9) (fr := (0, 0)) (heap_alloc_new W (.cells #[.string key] 9))
 have HA := HO.alloc (.cells #[.string key] 9)
 have hexec : ∀ v1 w1, (Builtin.append_ #[22, 22] o.type #[v, .slice (some ⟨W.heap.size, 0, none⟩) 1 1]).run Tryz.prog (W.alloc (.cells #[.string key] 9)) = .ok v1 w1 → (execOp a.eval o).run Tryz.prog (W.alloc (.cells #[.string key] 9)) = .ok (.value v1) w1 := by
  intro v1 w1 hr
  unfold execOp
  simp only [ho, resolve, invoke, builtin, Sem.run_bind, Sem.run_pure, Result.andThen_ok, List.map_toArray, List.map_cons, List.map_nil, hs, hx, hr]
 obtain ⟨v1, w1, hr, hown, hg, _, hat⟩ := run_append_own_at (P := Tryz.prog) (W.alloc (.cells #[.string key] 9)) 0 22 o.type 9 i0 (.string ⟨#[]⟩) 1 16 Tryz.underlying22 hi hz0 hz1 hz2 rfl Nat.one_pos v n xs HA ⟨W.heap.size, 0, none⟩ 1 1 [.string key] rfl hnews (by simp [Value.oneCell']) (by simp only [maxLen]; omega) (by omega) (Nat.zero_le _)
 have hat' : v1.ownBlock = v.ownBlock ∨ ∃ k, v1.ownBlock = some k ∧ W.heap.size ≤ k := by
  rcases hat with hat | hat
  ·exact .inl hat
  ·exact .inr ⟨_, hat, by simp⟩
 have hgW := World.grownBy.trans (World.grownBy_alloc W (.cells #[.string key] 9) v.ownBlock) hg
 have hkeep : Keep (fun k => v.ownBlock = some k) W w1 := (Keep.refl _ _).grown hgW fun k _ hk => hk
 refine ⟨v1, w1, hexec v1 w1 hr, hkeep, ?_, ⟨_, hown⟩, hat'⟩
 rcases HO.2 with ⟨rfl, rfl⟩ | ⟨g, cap, cur, rfl, h0, h1, h2, h3, h4, h5⟩
 ·exact Shape9.of_keep hkeep fun k cur hk => by simp [Value.ownBlock] at hk
 ·by_cases hroom : n + 1 ≤ cap
  ·obtain ⟨w2, hr2, hown2, hg2⟩ := run_append_fits (P := Tryz.prog) (W.alloc (.cells #[.string key] 9)) 0 22 o.type 9 i0 1 Tryz.underlying22 hi hz1 g n cap xs HA ⟨W.heap.size, 0, none⟩ 1 1 [.string key] rfl hnews (by simp [Value.oneCell']) hroom
   rw [hr2] at hr
   injection hr with e1 e2
   subst e1 e2
   intro k c hk
   by_cases hkg : k = g
   ·subst hkg
    rw [h1] at hk
    injection hk with hk
    injection hk with hk
    subst hk
    rcases hown2.2 with ⟨hn, _⟩ | ⟨g', cap', cur', he, _, g1, _, _, g4, _⟩
    ·cases hn
    ·injection he with e1 e2 e3
     injection e1 with e1
     injection e1 with e1
     subst e1 e3
     exact ⟨cur', g1, g4.trans h4.symm⟩
   ·exact ⟨c, (hkeep.block k (lt_of_block hk) (fun e => hkg (by simp [Value.ownBlock] at e; exact e.symm))).trans hk, rfl⟩
  ·have holds : ∀ j u, xs[j]? = some u → (W.alloc (.cells #[.string key] 9)).cell? ((⟨g, 0, none⟩ : Addr).add j) = some u := HA.cells (g := g) rfl
   have hr2 := run_append_grow (P := Tryz.prog) (W.alloc (.cells #[.string key] 9)) 22 o.type 9 i0 (.string ⟨#[]⟩) Tryz.underlying22 hi hz0 ⟨g, 0, none⟩ n cap xs (by rw [hz1]; exact HA.1) holds ⟨W.heap.size, 0, none⟩ 1 1 [.string key] (by rw [hz1]; rfl) hnews (by omega) (by omega) (growslice_fits (by omega) (by rw [hz2]; omega))
   rw [hr2] at hr
   injection hr with e1 e2
   intro k c hk
   refine ⟨c, ?_, rfl⟩
   rw [← e2]
   exact blk_old _ (blk_drew (blk_old _ hk))
theorem step_path {ops : Array Oper} {o : Oper} {a : Act} {Q : Exit → Act → World → Prop} {K : Act → World → Prop} {W : World} {s x : Operand} (key : ByteArray)
  (hw : Region.wanted o (yielded ops a.tmps) = true) (hN : o.dst = some 135)
  (ho : o.op = .call { callee := .builtin .append, args := #[s, x], argTypes := #[22, 22] })
  (v : Value) (n : Nat) (hs : a.eval s = v) (hx : a.eval x = .slice (some ⟨W.heap.size, 0, none⟩) 1 1)
  (HO : PathOk W v n) (hl : n ≤ 1000) (h : ∀ v1 w1, PathApp W w1 v v1 n → K (a.put (some 135) v1) w1) :
  if Region.wanted o (yielded ops a.tmps) = true then Oper.wp Tryz.prog o a (W.alloc (.cells #[.string key] 9)) K Q else K (a.put (some 135) undef) (W.alloc (.cells #[.string key] 9)) := by
 rw [if_pos hw]
 obtain ⟨v1, w1, hr, h2⟩ := run_path key ho v n hs hx HO hl
 unfold Oper.wp
 rw [hr, ← hN] at *
 exact h v1 w1 h2
end Go.Proofs.YtghmajlfmoggfaaGreat
