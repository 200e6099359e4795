import Derived.Defers
import Derived.Recover
import Derived.Test.YtghmajlfmoggfaaGreatMG3
import Derived.Test.YtghmajlfmoggfaaGreatMX6
set_option linter.unusedSimpArgs false
set_option linter.unusedVariables false
namespace Go.Proofs.YtghmajlfmoggfaaGreat
open Go.RowKit Go.Proofs.YtghmajlfmoggfaaGreatW.PrintWords Go.Proofs.YtghmajlfmoggfaaGreatW.PrintLast PFnMerge
theorem catch37 (p : Addr) (w : World) : CallsD Tryz.prog 37 #[.pointer (some p)] .returning w fun e u' w' => e = .returned (.tuple #[]) ∧ u' = .returning ∧ w' = w := by
  refine callsD_of_wpS Tryz.func37 rfl fun c₀ cs hu => ?_
  apply wpS_seq
  apply wpS_region
  simp [wpOpsS, go_sem, recoverD, hu, Tryz.ntmps37, Exit.thenS]
  refine wpS_cond (t := false) (by simp [Act.eval, Array.replicate]) ?_
  simp only [Bool.false_eq_true, if_false]
  refine wpS_of_wp (wp_skip ?_)
  cases c₀
  simp_all [bodyPostS, results, Tryz.results37]
set_option maxRecDepth 20000 in
set_option maxHeartbeats 4000000 in
theorem tried27 (w : World) (cap : Array Value) (R : World → Prop) (hf : Calls Tryz.prog 28 cap (w.alloc (.cells #[.bool false] 4)) fun e w' => e = .returned (.bool true) ∧ R w') (hk : ∀ w', R w' → w'.heap[w.heap.size]? = some (.cells #[.bool false] 4 (0, 0))) :
    Calls Tryz.prog 27 #[.func (.func 28) #[] cap] w fun e w' => e = .returned (.bool true) ∧ ∃ w1, R w1 ∧ w' = w1.setCell ⟨w.heap.size, 0, none⟩ (.bool true) := by
  have hmf : ∀ (fn : Fn) (first cap : Array Value) (w : World), (Instr.makeFunc fn first cap).run Tryz.prog w = .ok (.func fn first cap) w := fun _ _ _ _ => rfl
  have H := Lib.hid (And.intro hf hk)
  clear hf hk
  go_enter_defers Tryz.func27, Tryz.ntmps27
  go_wp2_with fail
  refine H.out.1.mono ?_
  rintro e w' ⟨rfl, hr⟩
  have HR := Lib.hid hr
  have c0 : w'.cell? ⟨w.heap.size, 0, none⟩ = some (.bool false) := (blk_cell (H.out.2 w' hr) 0).trans rfl
  have z0 : w'.frozen? ⟨w.heap.size, 0, none⟩ = false := blk_frozen (H.out.2 w' hr) 0
  clear hr
  go_wp2_with fail
  refine leaves_cons (f := 37) (args := #[.pointer (some ⟨w.heap.size, 0, none⟩)]) (by simp) (by simp [go_sem]) ?_
  refine (catch37 _ _).mono ?_
  rintro e u' w'' ⟨rfl, rfl, rfl⟩
  have c1 : (w'.setCell ⟨w.heap.size, 0, none⟩ (.bool true)).cell? ⟨w.heap.size, 0, none⟩ = some (.bool true) := (blk_cell (blk_set (H.out.2 w' HR.out) 0 (.bool true)) 0).trans rfl
  refine ⟨.bool true, by simp [results, Tryz.results27, go_sem, c1], rfl, w', HR.out, rfl⟩
end Go.Proofs.YtghmajlfmoggfaaGreat
namespace Go.Proofs.YtghmajlfmoggfaaGreat
open Go.RowKit Go.Proofs.YtghmajlfmoggfaaGreatW.PrintWords Go.Proofs.YtghmajlfmoggfaaGreatW.PrintLast PFnMerge
def M2Q (y x : S25) (w : World) (e : Ending) (w' : World) : Prop := ∃ ym A3 c3 A4 c4, e = .returned (.tuple #[ndV ym A3 c3 A4 c4, .bool true]) ∧ MRel 6 y x ym ∧ NdR w' ym A3 c3 A4 c4 ∧ Below w.heap.size w w'
structure MB (w : World) (cx cy : Array Value) (ahead : Bool) (W : World) : Prop where
  below : Below w.heap.size w W
  bx : W.heap[w.heap.size]? = some (.cells cx 25 (0, 0))
  by_ : W.heap[w.heap.size + 1]? = some (.cells cy 25 (0, 0))
  bi : W.heap[w.heap.size + 1 + 1]? = some (.cells #[.bool false] 4 (0, 0))
  ba : W.heap[w.heap.size + 1 + 1 + 1]? = some (.cells #[.bool ahead] 4 (0, 0))
  br : W.heap[w.heap.size + 1 + 1 + 1 + 1]? = some (.cells #[.int .i64 0, .string noStr, .string noStr, nilS, nilS] 25 (0, 0))
  bo : W.heap[w.heap.size + 1 + 1 + 1 + 1 + 1]? = some (.cells #[.int .i64 0, .string noStr, .string noStr, nilS, nilS] 25 (0, 0))
theorem MB.under {w : World} {cx cy : Array Value} {ahead : Bool} {W W' : World} (h : MB w cx cy ahead W) (hb : Below W.heap.size W W') : MB w cx cy ahead W' :=
  ⟨h.below.trans (hb.mono h.below.size), (hb.block _ (lt_of_block h.bx)).trans h.bx, (hb.block _ (lt_of_block h.by_)).trans h.by_, (hb.block _ (lt_of_block h.bi)).trans h.bi, (hb.block _ (lt_of_block h.ba)).trans h.ba, (hb.block _ (lt_of_block h.br)).trans h.br, (hb.block _ (lt_of_block h.bo)).trans h.bo⟩
set_option maxRecDepth 20000 in
set_option maxHeartbeats 4000000 in
theorem merge2_13 (w : World) (x y : S25) (hx : TreeB 6 x) (hy : TreeB 6 y) (hal : AlikeN 6 y x) (A3 A4 B3 B4 : Option Addr) (c3 c4 d3 d4 : Nat) (hxr : NdR w x A3 c3 A4 c4) (hyr : NdR w y B3 d3 B4 d4) (ahead : Bool) :
    Calls Tryz.prog 13 #[ndV x A3 c3 A4 c4, ndV y B3 d3 B4 d4, .bool false, .bool ahead] w fun e w' => M2Q y x w e w' := by
  have hmf : ∀ (fn : Fn) (first cap : Array Value) (w : World), (Instr.makeFunc fn first cap).run Tryz.prog w = .ok (.func fn first cap) w := fun _ _ _ _ => rfl
  have H := Lib.hid (And.intro hx (And.intro hy (And.intro hal (And.intro hxr hyr))))
  clear hx hy hal hxr hyr
  go_enter Tryz.func13, Tryz.ntmps13
  go_wp2_with fail
  have hm0 : MB w #[.int .i64 x.f0, .string x.f1, .string x.f2, .slice A3 x.f3.length c3, .slice A4 x.f4.length c4] #[.int .i64 y.f0, .string y.f1, .string y.f2, .slice B3 y.f3.length d3, .slice B4 y.f4.length d4] ahead ((((((w.alloc (.cells #[.int .i64 x.f0, .string x.f1, .string x.f2, .slice A3 x.f3.length c3, .slice A4 x.f4.length c4] 25)).alloc (.cells #[.int .i64 y.f0, .string y.f1, .string y.f2, .slice B3 y.f3.length d3, .slice B4 y.f4.length d4] 25)).alloc (.cells #[.bool false] 4)).alloc (.cells #[.bool ahead] 4)).alloc (.cells #[.int .i64 0, .string noStr, .string noStr, nilS, nilS] 25)).alloc (.cells #[.int .i64 0, .string noStr, .string noStr, nilS, nilS] 25)) :=
    ⟨below_alloc (below_alloc (below_alloc (below_alloc (below_alloc (below_alloc (Below.refl _ _) _) _) _) _) _) _, blk_old _ (blk_old _ (blk_old _ (blk_old _ (blk_old _ (blk_new rfl _))))), blk_old _ (blk_old _ (blk_old _ (blk_old _ (blk_new (by simp) _)))), blk_old _ (blk_old _ (blk_old _ (blk_new (by simp) _))), blk_old _ (blk_old _ (blk_new (by simp) _)), blk_old _ (blk_new (by simp) _), blk_new (by simp) _⟩
  have HM0 := Lib.hid hm0
  clear hm0
  refine (taken26 _ x H.out.1 A3 A4 c3 c4 (H.out.2.2.2.1.below HM0.out.below)).mono ?_
  rintro e w1 ⟨rfl, hb1⟩
  have HM1 := Lib.hid (HM0.out.under hb1)
  clear hb1
  have y0 : w1.cell? ⟨w.heap.size + 1, 0, none⟩ = some (.int .i64 y.f0) := (blk_cell HM1.out.by_ 0).trans rfl
  have y1 : w1.cell? ⟨w.heap.size + 1, 1, none⟩ = some (.string y.f1) := (blk_cell HM1.out.by_ 1).trans rfl
  have y2 : w1.cell? ⟨w.heap.size + 1, 2, none⟩ = some (.string y.f2) := (blk_cell HM1.out.by_ 2).trans rfl
  have y3 : w1.cell? ⟨w.heap.size + 1, 3, none⟩ = some (.slice B3 y.f3.length d3) := (blk_cell HM1.out.by_ 3).trans rfl
  have y4 : w1.cell? ⟨w.heap.size + 1, 4, none⟩ = some (.slice B4 y.f4.length d4) := (blk_cell HM1.out.by_ 4).trans rfl
  go_wp2_with fail
  refine (taken26 w1 y H.out.2.1 B3 B4 d3 d4 (H.out.2.2.2.2.below HM1.out.below)).mono ?_
  rintro e w2 ⟨rfl, hb2⟩
  have HM2 := Lib.hid (HM1.out.under hb2)
  clear hb2 y0 y1 y2 y3 y4
  go_wp2_with fail
  have HM3 := Lib.hid (HM2.out.under (below_alloc (Below.refl _ _) (.cells #[.bool false] 4)))
  have hbo := lt_of_block HM2.out.bo
  refine (tried27 w2 _ (fun w' => ∃ ym M3 m3 M4 m4, MRel 6 y x ym ∧ w'.heap[w.heap.size + 1 + 1 + 1 + 1 + 1]? = some (.cells #[.int .i64 ym.f0, .string ym.f1, .string ym.f2, .slice M3 ym.f3.length m3, .slice M4 ym.f4.length m4] 25 (0, 0)) ∧ NdG w' (fun k => (w2.alloc (.cells #[.bool false] 4)).heap.size ≤ k) ym M3 m3 M4 m4 ∧ Keep (fun k => k = w.heap.size + 1 + 1 + 1 + 1 + 1) (w2.alloc (.cells #[.bool false] 4)) w') (merge28 (w2.alloc (.cells #[.bool false] 4)) x y H.out.1 H.out.2.1 H.out.2.2.1 A3 A4 B3 B4 c3 c4 d3 d4 (H.out.2.2.2.1.below HM3.out.below) (H.out.2.2.2.2.below HM3.out.below) _ _ _ _ _ ahead HM3.out.ba HM3.out.bx HM3.out.by_ HM3.out.bi HM3.out.bo) ?hk).mono ?_
  case hk =>
    rintro w' ⟨ym, M3, m3, M4, m4, _, _, _, hk⟩
    exact hk.at_ (blk_new rfl _) (by omega)
  rintro e w3' ⟨rfl, w3, ⟨ym, M3, m3, M4, m4, hmr, hbo3, hng, hk⟩, rfl⟩
  have hkb : Keep (fun k => k = w.heap.size + 1 + 1 + 1 + 1 + 1 ∨ k = w2.heap.size) (w2.alloc (.cells #[.bool false] 4)) (w3.setCell ⟨w2.heap.size, 0, none⟩ (.bool true)) := (hk.mono fun k _ e => .inl e).setCell _ _ fun _ => .inr rfl
  have hbo4 : (w3.setCell ⟨w2.heap.size, 0, none⟩ (.bool true)).heap[w.heap.size + 1 + 1 + 1 + 1 + 1]? = some (.cells #[.int .i64 ym.f0, .string ym.f1, .string ym.f2, .slice M3 ym.f3.length m3, .slice M4 ym.f4.length m4] 25 (0, 0)) := blk_else _ (by show _ ≠ w2.heap.size; omega) hbo3
  have hbr4 := hkb.at_ HM3.out.br (by omega)
  have hng4 : NdG (w3.setCell ⟨w2.heap.size, 0, none⟩ (.bool true)) (fun k => w2.heap.size < k) ym M3 m3 M4 m4 := (hng.keep ((Keep.refl (fun k => k = w2.heap.size) w3).setCell _ _ fun _ => rfl) fun k h1 h2 => by simp at h1; omega).mono fun k h1 => by simp at h1; omega
  have hsz := HM2.out.below.size
  have hbl : Below w.heap.size w (w3.setCell ⟨w2.heap.size, 0, none⟩ (.bool true)) := HM3.out.below.trans (hkb.below HM3.out.below.size fun k _ e => by omega)
  have HW3' := Lib.hid (And.intro hbo4 (And.intro hbr4 (And.intro hng4 (And.intro hbl (And.intro hmr hbo)))))
  obtain ⟨w4, hw4⟩ : ∃ w4, w4 = w3.setCell ⟨w2.heap.size, 0, none⟩ (.bool true) := ⟨_, rfl⟩
  rw [← hw4] at HW3'
  rw [← hw4]
  clear hw4 hkb hbo4 hbr4 hng4 hbl hmr hbo3 hng hk hbo hsz
  have HW3 := HW3'
  clear HW3'
  have o0 : w4.cell? ⟨w.heap.size + 1 + 1 + 1 + 1 + 1, 0, none⟩ = some (.int .i64 ym.f0) := (blk_cell HW3.out.1 0).trans rfl
  have o1 : w4.cell? ⟨w.heap.size + 1 + 1 + 1 + 1 + 1, 1, none⟩ = some (.string ym.f1) := (blk_cell HW3.out.1 1).trans rfl
  have o2 : w4.cell? ⟨w.heap.size + 1 + 1 + 1 + 1 + 1, 2, none⟩ = some (.string ym.f2) := (blk_cell HW3.out.1 2).trans rfl
  have o3 : w4.cell? ⟨w.heap.size + 1 + 1 + 1 + 1 + 1, 3, none⟩ = some (.slice M3 ym.f3.length m3) := (blk_cell HW3.out.1 3).trans rfl
  have o4 : w4.cell? ⟨w.heap.size + 1 + 1 + 1 + 1 + 1, 4, none⟩ = some (.slice M4 ym.f4.length m4) := (blk_cell HW3.out.1 4).trans rfl
  have r0 : w4.cell? ⟨w.heap.size + 1 + 1 + 1 + 1, 0, none⟩ = some (.int .i64 0) := (blk_cell HW3.out.2.1 0).trans rfl
  have rz0 := blk_frozen HW3.out.2.1 0
  have r1 : w4.cell? ⟨w.heap.size + 1 + 1 + 1 + 1, 1, none⟩ = some (.string noStr) := (blk_cell HW3.out.2.1 1).trans rfl
  have rz1 := blk_frozen HW3.out.2.1 1
  have r2 : w4.cell? ⟨w.heap.size + 1 + 1 + 1 + 1, 2, none⟩ = some (.string noStr) := (blk_cell HW3.out.2.1 2).trans rfl
  have rz2 := blk_frozen HW3.out.2.1 2
  have r3 : w4.cell? ⟨w.heap.size + 1 + 1 + 1 + 1, 3, none⟩ = some (nilS) := (blk_cell HW3.out.2.1 3).trans rfl
  have rz3 := blk_frozen HW3.out.2.1 3
  have r4 : w4.cell? ⟨w.heap.size + 1 + 1 + 1 + 1, 4, none⟩ = some (nilS) := (blk_cell HW3.out.2.1 4).trans rfl
  have rz4 := blk_frozen HW3.out.2.1 4
  go_wp2_with fail
  have hfar := keep_put5 w4 (w.heap.size + 1 + 1 + 1 + 1) (.int .i64 ym.f0) (.string ym.f1) (.string ym.f2) (.slice M3 ym.f3.length m3) (.slice M4 ym.f4.length m4)
  refine bodyPost_ret (results_ct rfl _ _ (w.heap.size + 1 + 1 + 1 + 1) 25 #[.int .i64 ym.f0, .string ym.f1, .string ym.f2, .slice M3 ym.f3.length m3, .slice M4 ym.f4.length m4] (0, 0) _ rfl (put5_blk HW3.out.2.1 _ _ _ _ _) Tryz.underlying25 rfl (by kernel_rfl)) rfl ?_
  have hbo := HW3.out.2.2.2.2.2
  exact ⟨ym, M3, m3, M4, m4, rfl, HW3.out.2.2.2.2.1, (HW3.out.2.2.1.keep hfar fun k h1 h2 => by omega).now, HW3.out.2.2.2.1.trans (hfar.below HW3.out.2.2.2.1.size fun k _ e => by omega)⟩
end Go.Proofs.YtghmajlfmoggfaaGreat
namespace Go.Proofs.YtghmajlfmoggfaaGreat
open Go.RowKit Go.Proofs.YtghmajlfmoggfaaGreatW.PrintWords Go.Proofs.YtghmajlfmoggfaaGreatW.PrintLast PFnMerge
abbrev kA : ByteArray := ⟨#[97]⟩
abbrev tB : ByteArray := ⟨#[98]⟩
abbrev tC : ByteArray := ⟨#[99]⟩
abbrev sT : ByteArray := ⟨#[33, 33, 115, 116, 114]⟩
abbrev wdT (s : ByteArray) : S25 := ⟨1, s, sT, [], []⟩
abbrev mpT (s : ByteArray) : S25 := ⟨2, noStr, noStr, [kA], [wdT s]⟩
theorem word_one (b : UInt8) (h : 97 ≤ b.toNat ∧ b.toNat ≤ 122) : WordP ⟨#[b]⟩ := by
  have hb : bt ⟨#[b]⟩ 0 = (b.toNat : Int) := rfl
  have hl : (⟨#[b]⟩ : ByteArray).toList = [b] := (ByteArray.toList_eq _).trans rfl
  have hs : (⟨#[b]⟩ : ByteArray).size = 1 := rfl
  refine ⟨by omega, by omega, by omega, fun i hi => ?_, ?_, ?_, ?_⟩
  · obtain rfl : i = 0 := by omega
    exact .inl (by show 97 ≤ bt ⟨#[b]⟩ 0 ∧ bt ⟨#[b]⟩ 0 ≤ 122; omega)
  · rw [hl]; simp
  · rw [hl]; simp
  · rw [hl]; simp
theorem tree_mp (b : UInt8) (h : 97 ≤ b.toNat ∧ b.toNat ≤ 122) : TreeB 6 (mpT ⟨#[b]⟩) := by
  refine ⟨.inr (.inl ⟨rfl, rfl, rfl, rfl, by simp, fun k hk => ?_, by simp, fun z hz => ?_⟩), by simp [nodesN]⟩
  · rw [List.mem_singleton.1 hk]; exact word_one 97 (by decide)
  · rw [List.mem_singleton.1 hz]
    exact .inl ⟨rfl, rfl, rfl, .inl ⟨(ByteArray.toList_eq _).trans rfl, word_one b h⟩⟩
theorem alike_mp (s t : ByteArray) : AlikeN 6 (mpT s) (mpT t) := by
  refine ⟨rfl, fun _ key a b ha hb => ?_⟩
  have h1 : (key, a) ∈ [(kA, wdT s)] := ha
  have h2 : (key, b) ∈ [(kA, wdT t)] := hb
  simp only [List.mem_singleton, Prod.mk.injEq] at h1 h2
  obtain ⟨_, rfl⟩ := h1
  obtain ⟨_, rfl⟩ := h2
  exact ⟨rfl, fun h => by simp at h⟩
theorem merged_mp {s t : ByteArray} {m : S25} (h : MRel 6 (mpT s) (mpT t) m) : m.f4 = [wdT t] := by
  rcases h with ⟨h, _⟩ | ⟨_, _, _, _, h1, h2, h3, h4⟩
  · exact absurd rfl h
  have hk : ∀ k ∈ m.f3, k = kA := fun k hk => by
    rcases (h3 k).1 hk with h | h
    · exact List.mem_singleton.1 h
    · exact List.mem_singleton.1 h
  have hm : kA ∈ m.f3 := (h3 kA).2 (.inl (by simp))
  have h5 : m.f3 = [kA] := by
    match hf : m.f3, hm, h2, hk with
    | [], hm, _, _ => cases hm
    | [a], _, _, hk => rw [hk a (by simp)]
    | a :: b :: l, _, h2, hk =>
      have e1 := hk a (by simp)
      have e2 := hk b (by simp)
      subst e1
      subst e2
      simp at h2
  rw [h5] at h1
  obtain ⟨v, hv⟩ : ∃ v, m.f4 = [v] := by
    match hf : m.f4, h1 with
    | [v], _ => exact ⟨v, rfl⟩
  have hf : fld m kA v := by unfold fld; rw [h5, hv]; simp
  rcases h4 kA v hf with ⟨a, b, ha, hb, hr⟩ | ⟨_, hn⟩ | ⟨_, hn⟩
  · have ha' : (kA, a) ∈ [(kA, wdT s)] := ha
    have hb' : (kA, b) ∈ [(kA, wdT t)] := hb
    simp only [List.mem_singleton, Prod.mk.injEq] at ha' hb'
    obtain ⟨_, rfl⟩ := ha'
    obtain ⟨_, rfl⟩ := hb'
    rcases hr with ⟨_, rfl⟩ | ⟨h, _⟩
    · exact hv
    · simp at h
  · exact absurd (by simp) hn
  · exact absurd (by simp) hn
theorem reads3 {name : ByteArray} {lb : Nat} {W : World} (h : W.heap[lb]? = some (.cells #[.string name] 9 (0, 0))) : Kd.C Kd.string W (some ⟨lb, 0, none⟩) 1 [name] := by
  have := (Lit3.mk (v := nilS) h (fun k hk => by simp [Value.ownBlock] at hk)).reads
  exact this
theorem reads4 {x : S25} {E3 E4 : Option Addr} {e3 e4 lb : Nat} {W : World} (h : W.heap[lb]? = some (.cells #[.int .i64 x.f0, .string x.f1, .string x.f2, .slice E3 x.f3.length e3, .slice E4 x.f4.length e4] 25 (0, 0))) (hx : NdR W x E3 e3 E4 e4) : Kd.C k25 W (some ⟨lb, 0, none⟩) 1 [x] := by
  refine ⟨rfl, by omega, fun _ => ⟨⟨lb, 0, none⟩, rfl, fun j p hj => ?_⟩⟩
  match j, hj with
  | 0, hj =>
    simp only [List.getElem?_cons_zero, Option.some.injEq] at hj
    subst hj
    refine ⟨_, rfl, k25_mk W x hx.kcap hx.keys hx.icap hx.items, fun i u hu => ?_⟩
    have hc := blk_cell h i
    rw [add_at, Nat.zero_add]
    simp only [Nat.zero_mul, Nat.zero_add]
    rw [hc]
    simpa using hu
set_option maxRecDepth 20000 in
set_option maxHeartbeats 4000000 in
theorem merges15 (w : World) : Calls Tryz.prog 15 #[] w fun e w' => YesQ w e w' := by
  go_enter Tryz.func15, Tryz.ntmps15
  go_wp2_with fail
  have hl0 := blk_new rfl (w := w) (.cells #[.string kA] 9)
  have hbl0 := below_alloc (Below.refl w.heap.size w) (.cells #[.string kA] 9)
  have H0 := Lib.hid (And.intro hl0 hbl0)
  clear hl0 hbl0
  refine (spec_Word.calls tC 1 tC sT [] [] _ rfl).mono ?_
  rintro e w1 ⟨v3, v4, rfl, h3, h4, hb1⟩
  obtain ⟨A3, c3, rfl⟩ := Kd.R_slice h3
  obtain ⟨A4, c4, rfl⟩ := Kd.R_slice h4
  have g3 := Kd.R_reads' h3
  have g4 := Kd.R_reads' h4
  have hnd : NdR w1 (wdT tC) A3 c3 A4 c4 := ⟨g3.2.2, g3.2.1, g4.2.2, g4.2.1⟩
  have hl1 : (w1.alloc (.cells #[.int .i64 1, .string tC, .string sT, .slice A3 0 c3, .slice A4 0 c4] 25)).heap[w1.heap.size]? = some (.cells #[.int .i64 1, .string tC, .string sT, .slice A3 0 c3, .slice A4 0 c4] 25 (0, 0)) := blk_new rfl _
  have H1 := Lib.hid (And.intro hnd (And.intro hb1 hl1))
  clear h3 h4 g3 g4 hnd hb1 hl1
  go_wp2_with fail
  refine (laws_pair.calls 2 noStr noStr [kA] [wdT tB] _ rfl).mono ?_
  rintro e w2 ⟨u3, u4, rfl, h3, h4, hb2⟩
  obtain ⟨B3, d3, rfl⟩ := Kd.R_slice h3
  obtain ⟨B4, d4, rfl⟩ := Kd.N_slice h4
  have g3 := Kd.R_reads' h3
  have g4 := Kd.N_reads' h4
  have hby : NdR w2 (mpT tB) B3 d3 B4 d4 := ⟨g3.2.2, g3.2.1, g4.2.2, g4.2.1⟩
  have hba : Below w1.heap.size w1 (w1.alloc (.cells #[.int .i64 1, .string tC, .string sT, .slice A3 0 c3, .slice A4 0 c4] 25)) := below_alloc (Below.refl _ _) _
  have hb12 : Below w1.heap.size w1 w2 := hba.trans (hb2.mono hba.size)
  have hbx : NdR w2 (mpT tC) (some ⟨w.heap.size, 0, none⟩) 1 (some ⟨w1.heap.size, 0, none⟩) 1 := by
    refine ⟨reads3 ((hb12.block _ (Nat.lt_of_lt_of_le (lt_of_block H0.out.1) H1.out.2.1.size)).trans ((H1.out.2.1.block _ (lt_of_block H0.out.1)).trans H0.out.1)), Nat.le_refl _, reads4 (E3 := A3) (E4 := A4) (e3 := c3) (e4 := c4) ((hb2.block _ (lt_of_block H1.out.2.2)).trans H1.out.2.2) (H1.out.1.below hb12), Nat.le_refl _⟩
  have hbw : Below w.heap.size w w2 := (H0.out.2.trans (H1.out.2.1.mono H0.out.2.size)).trans (hb12.mono (Nat.le_trans H0.out.2.size H1.out.2.1.size))
  have H2 := Lib.hid (And.intro hbx (And.intro hby hbw))
  clear h3 h4 g3 g4 hby hba hb12 hbx hbw hb2
  go_wp2_with fail
  refine (merge2_13 w2 (mpT tC) (mpT tB) (tree_mp 99 (by decide)) (tree_mp 98 (by decide)) (alike_mp _ _) (some ⟨w.heap.size, 0, none⟩) (some ⟨w1.heap.size, 0, none⟩) B3 B4 1 1 d3 d4 H2.out.1 H2.out.2.1 false).mono ?_
  rintro e w3 ⟨ym, M3, m3, M4, m4, rfl, hmr, hng, hb3⟩
  have hf4 := merged_mp hmr
  obtain ⟨y0, y1, y2, y3, y4⟩ := ym
  simp only at hf4
  subst hf4
  obtain ⟨ad, E3, e3, E4, e4, rfl, _, x1, _, _, _, _⟩ := nd_at hng.items 0 (wdT tC) (by simp) rfl
  have HB3 := Lib.hid hb3
  have x1' := ((below_alloc (Below.refl w3.heap.size w3) (.cells #[.int .i64 y0, .string y1, .string y2, .slice M3 y3.length m3, .slice (some ad) 1 m4] 25)).cell (World.block_lt_of_cell? w3 _ x1)).trans x1
  simp only [Nat.zero_mul] at x1'
  have x2 : (w3.alloc (.cells #[.int .i64 y0, .string y1, .string y2, .slice M3 y3.length m3, .slice (some ad) 1 m4] 25)).cell? ⟨ad.block, ad.off + 1, none⟩ = some (.string tC) := by simpa [Addr.add] using x1'
  clear hmr hng hb3 x1 x1'
  go_wp2_with fail
  exact bodyPost_ret (v := .bool true) (by simp [results, Tryz.results15, go_sem]) rfl ⟨rfl, below_alloc (H2.out.2.2.trans (HB3.out.mono H2.out.2.2.size)) _⟩
end Go.Proofs.YtghmajlfmoggfaaGreat
