import Derived.Laws.Strings
import Derived.Test.YtghmajlfmoggfaaGreatMX0
import Derived.Test.YtghmajlfmoggfaaGreatMX1
import Derived.Test.YtghmajlfmoggfaaGreatMX3
set_option linter.unusedSimpArgs false
set_option linter.unusedVariables false
namespace Go.Proofs.YtghmajlfmoggfaaGreat.PFnMerge
open Go.RowKit Go.Proofs.YtghmajlfmoggfaaGreatW.PrintWords Go.Proofs.YtghmajlfmoggfaaGreatW.PrintLast
def impl_digits.l0 : Nat → ByteArray → Int → Int → Option (Bool)
  | 0, _, _, _ => none
  | k + 1, x0, x5, x6 => if x6 < x5 then (if 0 ≤ x6 then (if x6 < (x0.size : Int) then (if (bt x0 x6) < 48 then (some false) else (if (bt x0 x6) > 57 then (some false) else (impl_digits.l0 k x0 x5 (wrap64 (x6 + 1))))) else (none)) else (none)) else (some (decide ((x0.size : Int) > 0)))
def impl_digits.f (k : Nat) (a0 : ByteArray) : Option (Bool) := impl_digits.l0 k a0 (a0.size : Int) 0
set_option maxHeartbeats 8000000 in
set_option maxRecDepth 100000 in
theorem impl_digits.calls (k : Nat) (a0 : ByteArray) (r : Bool) (w : World) (h : impl_digits.f k a0 = some r) :
    Calls Tryz.prog 70 #[.string a0] w fun e w' => e = .returned (.bool r) ∧ Drawn0 w w' := by
  have H : (impl_digits.l0 k a0 (a0.size : Int) 0) = some r := h
  clear h
  have H' := Aside0.mk H
  clear H
  go_enter Tryz.func70, Tryz.ntmps70
  go_wp2
  go_loopg [6] k (fun kq v6 w' => ∃ (x6_1 : Int), v6 = .int .i64 x6_1 ∧ Aside0 (impl_digits.l0 kq a0 (a0.size : Int) x6_1 = some r) ∧ Aside0 (kq ≤ k) ∧ Drawn0 w w')
  case atStart => exact ⟨(0), (by first | rfl | (simp; done) | (simp [*]; done)), H', ⟨Nat.le_refl _⟩, by repeat (first | exact Drawn0.refl _ | apply Drawn0.step)⟩
  case round =>
    clear H'
    obtain ⟨x6_1, rfl, HA, HK1, ⟨m1, rfl⟩⟩ := hrel
    cases gk with
    | zero => exact absurd HA.out (by simp [impl_digits.l0])
    | succ k1 =>
      have H := HA.out
      clear HA
      simp only [impl_digits.l0] at H
      by_cases c2 : x6_1 < (a0.size : Int)
      · rw [if_pos c2] at H
        have c2b0 : decide (x6_1 < (a0.size : Int)) = true := decide_eq_true c2
        clear c2
        by_cases c3 : 0 ≤ x6_1
        · rw [if_pos c3] at H
          have c3b0 : decide (0 ≤ x6_1) = true := decide_eq_true c3
          clear c3
          by_cases c4 : x6_1 < (a0.size : Int)
          · rw [if_pos c4] at H
            have c4b0 : decide (x6_1 < (a0.size : Int)) = true := decide_eq_true c4
            clear c4
            by_cases c6 : (bt a0 x6_1) < 48
            · rw [if_pos c6] at H
              have c6b0 : decide ((bt a0 x6_1) < 48) = true := decide_eq_true c6
              clear c6
              obtain rfl := Option.some.inj H
              have p5 : 0 ≤ (x6_1 : Int) := of_decide_eq_true (by first | (with_reducible assumption) | assumption)
              have q5 : x6_1 < (a0.size : Int) := of_decide_eq_true (by first | (with_reducible assumption) | assumption)
              have hx5 := bt_at a0 x6_1
              replace p5 := eq_true p5
              replace q5 := eq_true q5
              go_wp2
              go_ret
              exact ⟨by first | rfl | (simp; done) | (simp [*]; done), by repeat (first | exact Drawn0.refl _ | apply Drawn0.step)⟩
            · rw [if_neg c6] at H
              have c6b0 : decide ((bt a0 x6_1) < 48) = false := decide_eq_false c6
              clear c6
              by_cases c8 : (bt a0 x6_1) > 57
              · rw [if_pos c8] at H
                have c8b0 : decide (57 < (bt a0 x6_1)) = true := decide_eq_true c8
                clear c8
                obtain rfl := Option.some.inj H
                have p5 : 0 ≤ (x6_1 : Int) := of_decide_eq_true (by first | (with_reducible assumption) | assumption)
                have q5 : x6_1 < (a0.size : Int) := of_decide_eq_true (by first | (with_reducible assumption) | assumption)
                have hx5 := bt_at a0 x6_1
                replace p5 := eq_true p5
                replace q5 := eq_true q5
                have p7 : 0 ≤ (x6_1 : Int) := of_decide_eq_true (by first | (with_reducible assumption) | assumption)
                have q7 : x6_1 < (a0.size : Int) := of_decide_eq_true (by first | (with_reducible assumption) | assumption)
                have hx7 := bt_at a0 x6_1
                replace p7 := eq_true p7
                replace q7 := eq_true q7
                go_wp2
                go_ret
                exact ⟨by first | rfl | (simp; done) | (simp [*]; done), by repeat (first | exact Drawn0.refl _ | apply Drawn0.step)⟩
              · rw [if_neg c8] at H
                have c8b0 : decide (57 < (bt a0 x6_1)) = false := decide_eq_false c8
                clear c8
                have H' := Aside0.mk H
                clear H
                have p5 : 0 ≤ (x6_1 : Int) := of_decide_eq_true (by first | (with_reducible assumption) | assumption)
                have q5 : x6_1 < (a0.size : Int) := of_decide_eq_true (by first | (with_reducible assumption) | assumption)
                have hx5 := bt_at a0 x6_1
                replace p5 := eq_true p5
                replace q5 := eq_true q5
                have p7 : 0 ≤ (x6_1 : Int) := of_decide_eq_true (by first | (with_reducible assumption) | assumption)
                have q7 : x6_1 < (a0.size : Int) := of_decide_eq_true (by first | (with_reducible assumption) | assumption)
                have hx7 := bt_at a0 x6_1
                replace p7 := eq_true p7
                replace q7 := eq_true q7
                go_wp2
                go_roundg k1
                case measure => have := HK1.out; omega
                case rel => exact ⟨(wrap64 (x6_1 + 1)), (by first | rfl | (simp; done) | (simp [*]; done)), H', ⟨by have := HK1.out; omega⟩, by repeat (first | exact Drawn0.refl _ | apply Drawn0.step)⟩
          · rw [if_neg c4] at H
            exact absurd H (by simp)
        · rw [if_neg c3] at H
          exact absurd H (by simp)
      · rw [if_neg c2] at H
        have c2b0 : decide (x6_1 < (a0.size : Int)) = false := decide_eq_false c2
        clear c2
        obtain rfl := Option.some.inj H
        go_wp2
        go_ret
        exact ⟨by first | rfl | (simp; done) | (simp [*]; done), by repeat (first | exact Drawn0.refl _ | apply Drawn0.step)⟩
def impl_typed.j0 : Nat → ByteArray → ByteArray → Bool → Option (Bool)
  | 0, _, _, _ => none
  | k + 1, x0, x1, x13 => if x13 = true then (some (x1.toList == ([33, 33, 98, 111, 111, 108] : List UInt8))) else ((impl_digits.f k x0).bind fun t242 => (if t242 = true then (some (x1.toList == ([33, 33, 105, 110, 116] : List UInt8))) else (if x1.toList = ([33, 33, 115, 116, 114] : List UInt8) then (if 0 < (x0.size : Int) then (some (decide ((bt x0 0) > 57))) else (none)) else (some false))))
def impl_typed.f (k : Nat) (a0 : ByteArray) (a1 : ByteArray) : Option (Bool) := if a0.toList = ([110, 117, 108, 108] : List UInt8) then (some (a1.toList == ([33, 33, 110, 117, 108, 108] : List UInt8))) else (if a1.toList = ([] : List UInt8) then (some true) else (if a0.toList = ([116, 114, 117, 101] : List UInt8) then (impl_typed.j0 k a0 a1 true) else (impl_typed.j0 k a0 a1 (a0.toList == ([102, 97, 108, 115, 101] : List UInt8)))))
set_option maxHeartbeats 8000000 in
set_option maxRecDepth 100000 in
theorem impl_typed.calls (k : Nat) (a0 : ByteArray) (a1 : ByteArray) (r : Bool) (w : World) (h : impl_typed.f k a0 a1 = some r) :
    Calls Tryz.prog 53 #[.string a0, .string a1] w fun e w' => e = .returned (.bool r) ∧ Drawn0 w w' := by
  have H : (if a0.toList = ([110, 117, 108, 108] : List UInt8) then (some (a1.toList == ([33, 33, 110, 117, 108, 108] : List UInt8))) else (if a1.toList = ([] : List UInt8) then (some true) else (if a0.toList = ([116, 114, 117, 101] : List UInt8) then (impl_typed.j0 k a0 a1 true) else (impl_typed.j0 k a0 a1 (a0.toList == ([102, 97, 108, 115, 101] : List UInt8)))))) = some r := h
  clear h
  by_cases c3 : a0.toList = ([110, 117, 108, 108] : List UInt8)
  · rw [if_pos c3] at H
    have c3b0 : (a0.toList == ([110, 117, 108, 108] : List UInt8)) = true := beq_iff_eq.mpr c3
    have c3b1 : (a0.toList != ([110, 117, 108, 108] : List UInt8)) = false := bne_eq_false_iff_eq.mpr c3
    clear c3
    obtain rfl := Option.some.inj H
    go_enter Tryz.func53, Tryz.ntmps53
    go_wp2
    go_ret
    exact ⟨by first | rfl | (simp; done) | (simp [*]; done), by repeat (first | exact Drawn0.refl _ | apply Drawn0.step)⟩
  · rw [if_neg c3] at H
    have c3b0 : (a0.toList == ([110, 117, 108, 108] : List UInt8)) = false := beq_eq_false_iff_ne.mpr c3
    have c3b1 : (a0.toList != ([110, 117, 108, 108] : List UInt8)) = true := bne_iff_ne.mpr c3
    by_cases c4 : a1.toList = ([] : List UInt8)
    · rw [if_pos c4] at H
      have c4b0 : (a1.toList == ([] : List UInt8)) = true := beq_iff_eq.mpr c4
      have c4b1 : (a1.toList != ([] : List UInt8)) = false := bne_eq_false_iff_eq.mpr c4
      clear c4
      obtain rfl := Option.some.inj H
      go_enter Tryz.func53, Tryz.ntmps53
      go_wp2
      go_ret
      exact ⟨by first | rfl | (simp; done) | (simp [*]; done), by repeat (first | exact Drawn0.refl _ | apply Drawn0.step)⟩
    · rw [if_neg c4] at H
      have c4b0 : (a1.toList == ([] : List UInt8)) = false := beq_eq_false_iff_ne.mpr c4
      have c4b1 : (a1.toList != ([] : List UInt8)) = true := bne_iff_ne.mpr c4
      have HC5 := Aside0.mk H
      clear H
      go_enter Tryz.func53, Tryz.ntmps53
      go_upto_region 5 with (fail)
      go_cut [13] (fun v13 wc => ∃ (kq : Nat) (x13_4 : Bool), v13 = .bool x13_4 ∧ Aside0 (impl_typed.j0 kq a0 a1 x13_4 = some r) ∧ Aside0 (kq ≤ k) ∧ Drawn0 w wc)
      case first =>
        have H := HC5.out
        clear HC5
        by_cases c6 : a0.toList = ([116, 114, 117, 101] : List UInt8)
        · rw [if_pos c6] at H
          have c6b0 : (a0.toList == ([116, 114, 117, 101] : List UInt8)) = true := beq_iff_eq.mpr c6
          have c6b1 : (a0.toList != ([116, 114, 117, 101] : List UInt8)) = false := bne_eq_false_iff_eq.mpr c6
          clear c6
          (first | rw [c6b0] | (simp only [i64_w, i32_w]; rw [c6b0]) | skip)
          have H' := Aside0.mk H
          clear H
          go_wp2
          go_meet
          case rel => exact ⟨_, (true), (by first | rfl | (simp; done) | (simp [*]; done)), H', ⟨by first | omega | exact Nat.le_refl _⟩, by repeat (first | exact Drawn0.refl _ | apply Drawn0.step)⟩
        · rw [if_neg c6] at H
          have c6b0 : (a0.toList == ([116, 114, 117, 101] : List UInt8)) = false := beq_eq_false_iff_ne.mpr c6
          have c6b1 : (a0.toList != ([116, 114, 117, 101] : List UInt8)) = true := bne_iff_ne.mpr c6
          (first | rw [c6b0] | (simp only [i64_w, i32_w]; rw [c6b0]) | skip)
          have H' := Aside0.mk H
          clear H
          go_wp2
          go_meet
          case rel => exact ⟨_, ((a0.toList == ([102, 97, 108, 115, 101] : List UInt8))), (by first | rfl | (simp; done) | (simp [*]; done)), H', ⟨by first | omega | exact Nat.le_refl _⟩, by repeat (first | exact Drawn0.refl _ | apply Drawn0.step)⟩
      case rest =>
        clear HC5
        try clear p2
        try clear c3
        try clear c3b0
        try clear c3b1
        try clear c4
        try clear c4b0
        try clear c4b1
        try clear c5
        try clear c6
        try clear c6b0
        try clear c6b1
        obtain ⟨kq, x13_4, rfl, HA, HJ4, ⟨mc4, rfl⟩⟩ := hcut
        cases kq with
        | zero => exact absurd HA.out (by simp [impl_typed.j0])
        | succ kj4 =>
          have H := HA.out
          clear HA
          simp only [impl_typed.j0] at H
          by_cases c7 : x13_4 = true
          · subst c7
            have H1 : (some (a1.toList == ([33, 33, 98, 111, 111, 108] : List UInt8))) = some r := by rw [if_pos rfl] at H; exact H
            clear H
            have H := H1
            clear H1
            obtain rfl := Option.some.inj H
            go_wp2
            go_ret
            exact ⟨by first | rfl | (simp; done) | (simp [*]; done), by repeat (first | exact Drawn0.refl _ | apply Drawn0.step)⟩
          · replace c7 := Bool.eq_false_iff.mpr c7
            subst c7
            have H1 : ((impl_digits.f kj4 a0).bind fun t242 => (if t242 = true then (some (a1.toList == ([33, 33, 105, 110, 116] : List UInt8))) else (if a1.toList = ([33, 33, 115, 116, 114] : List UInt8) then (if 0 < (a0.size : Int) then (some (decide ((bt a0 0) > 57))) else (none)) else (some false)))) = some r := by rw [if_neg (show ¬ (false = true) by decide)] at H; exact H
            clear H
            have H := H1
            clear H1
            replace H := Option.bind_eq_some_iff.mp H
            obtain ⟨t242, A80, H⟩ := H
            replace H : (if t242 = true then (some (a1.toList == ([33, 33, 105, 110, 116] : List UInt8))) else (if a1.toList = ([33, 33, 115, 116, 114] : List UInt8) then (if 0 < (a0.size : Int) then (some (decide ((bt a0 0) > 57))) else (none)) else (some false))) = some r := H
            have A8 := Aside0.mk A80
            clear A80
            by_cases c9 : t242 = true
            · subst c9
              have H1 : (some (a1.toList == ([33, 33, 105, 110, 116] : List UInt8))) = some r := by rw [if_pos rfl] at H; exact H
              clear H
              have H := H1
              clear H1
              obtain rfl := Option.some.inj H
              go_wp2_with (first | ((with_reducible refine gate_callee (f := 70) rfl ?_); refine goesL_ (some 24) rfl rfl Tryz.func70 (by kernel_rfl) rfl #[.string a0] rfl (by (try simp only [List.map_toArray, List.map_cons, List.map_nil]); first | done | rfl | (simp only [List.length_drop, List.length_take]; rfl)) ?_; (with_reducible refine (impl_digits.calls kj4 a0 true _ A8.out).mono ?_); rintro e w' ⟨rfl, ⟨nd, rfl⟩⟩; refine ⟨_, rfl, ?_⟩))
              go_ret
              exact ⟨by first | rfl | (simp; done) | (simp [*]; done), by repeat (first | exact Drawn0.refl _ | apply Drawn0.step)⟩
            · replace c9 := Bool.eq_false_iff.mpr c9
              subst c9
              have H1 : (if a1.toList = ([33, 33, 115, 116, 114] : List UInt8) then (if 0 < (a0.size : Int) then (some (decide ((bt a0 0) > 57))) else (none)) else (some false)) = some r := by rw [if_neg (show ¬ (false = true) by decide)] at H; exact H
              clear H
              have H := H1
              clear H1
              by_cases c10 : a1.toList = ([33, 33, 115, 116, 114] : List UInt8)
              · rw [if_pos c10] at H
                have c10b0 : (a1.toList == ([33, 33, 115, 116, 114] : List UInt8)) = true := beq_iff_eq.mpr c10
                have c10b1 : (a1.toList != ([33, 33, 115, 116, 114] : List UInt8)) = false := bne_eq_false_iff_eq.mpr c10
                clear c10
                by_cases c11 : 0 < (a0.size : Int)
                · rw [if_pos c11] at H
                  have c11b0 : decide (0 < (a0.size : Int)) = true := decide_eq_true c11
                  have c11b1 : decide (0 < a0.size) = true := decide_eq_true (by omega)
                  clear c11
                  obtain rfl := Option.some.inj H
                  go_wp2_with (first | ((with_reducible refine gate_callee (f := 70) rfl ?_); refine goesL_ (some 24) rfl rfl Tryz.func70 (by kernel_rfl) rfl #[.string a0] rfl (by (try simp only [List.map_toArray, List.map_cons, List.map_nil]); first | done | rfl | (simp only [List.length_drop, List.length_take]; rfl)) ?_; (with_reducible refine (impl_digits.calls kj4 a0 false _ A8.out).mono ?_); rintro e w' ⟨rfl, ⟨nd, rfl⟩⟩; refine ⟨_, rfl, ?_⟩; have p12 : 0 ≤ (0 : Int) := (by omega); have q12 : 0 < a0.size := (by have : (0 : Int) < (a0.size : Int) := of_decide_eq_true (by first | (with_reducible assumption) | assumption); omega); have hx12 : ∀ h : 0 < a0.size, ((a0[0]'h).toNat : Int) = bt a0 0 := bt_at a0 0; clear p12; have qi12 : (0 < (a0.size : Int)) = True := eq_true (of_decide_eq_true (by first | (with_reducible assumption) | assumption)); replace q12 := eq_true q12))
                  go_ret
                  exact ⟨by first | rfl | (simp; done) | (simp [*]; done), by repeat (first | exact Drawn0.refl _ | apply Drawn0.step)⟩
                · rw [if_neg c11] at H
                  exact absurd H (by simp)
              · rw [if_neg c10] at H
                have c10b0 : (a1.toList == ([33, 33, 115, 116, 114] : List UInt8)) = false := beq_eq_false_iff_ne.mpr c10
                have c10b1 : (a1.toList != ([33, 33, 115, 116, 114] : List UInt8)) = true := bne_iff_ne.mpr c10
                obtain rfl := Option.some.inj H
                go_wp2_with (first | ((with_reducible refine gate_callee (f := 70) rfl ?_); refine goesL_ (some 24) rfl rfl Tryz.func70 (by kernel_rfl) rfl #[.string a0] rfl (by (try simp only [List.map_toArray, List.map_cons, List.map_nil]); first | done | rfl | (simp only [List.length_drop, List.length_take]; rfl)) ?_; (with_reducible refine (impl_digits.calls kj4 a0 false _ A8.out).mono ?_); rintro e w' ⟨rfl, ⟨nd, rfl⟩⟩; refine ⟨_, rfl, ?_⟩))
                go_ret
                exact ⟨by first | rfl | (simp; done) | (simp [*]; done), by repeat (first | exact Drawn0.refl _ | apply Drawn0.step)⟩
def slices_Index_string_string.l0 : Nat → List ByteArray → ByteArray → Int → Int → Option (Int)
  | 0, _, _, _, _ => none
  | k + 1, x0, x1, x7, x8 => if x8 < x7 then (if 0 ≤ x8 then (if x8 < (x0.length : Int) then (if x1.toList = (rdOf ByteArray.empty x0 x8).toList then (some x8) else (slices_Index_string_string.l0 k x0 x1 x7 (wrap64 (x8 + 1)))) else (none)) else (none)) else (some (-1))
def slices_Index_string_string.f (k : Nat) (l0 : List ByteArray) (a1 : ByteArray) : Option (Int) := slices_Index_string_string.l0 k l0 a1 (l0.length : Int) 0
set_option maxHeartbeats 8000000 in
set_option maxRecDepth 100000 in
theorem slices_Index_string_string.calls (k : Nat) (A0 : Option Addr) (c0 : Nat) (l0 : List ByteArray) (a1 : ByteArray) (r : Int) (w : World) (hr0 : Kd.C Kd.string w A0 l0.length l0) (hc0 : l0.length ≤ c0) (h : slices_Index_string_string.f k l0 a1 = some r) :
    Calls Tryz.prog 71 #[.slice A0 l0.length c0, .string a1] w fun e w' => e = .returned (.int .i64 r) ∧ Drawn0 w w' := by
  have HR0 := Aside0.mk hr0
  have HC0 := Aside0.mk hc0
  clear hr0 hc0
  have H : (slices_Index_string_string.l0 k l0 a1 (l0.length : Int) 0) = some r := h
  clear h
  have H' := Aside0.mk H
  clear H
  go_enter Tryz.func71, Tryz.ntmps71
  go_wp2
  go_loopg [8] k (fun kq v8 w' => ∃ (x8_1 : Int), v8 = .int .i64 x8_1 ∧ Aside0 (slices_Index_string_string.l0 kq l0 a1 (l0.length : Int) x8_1 = some r) ∧ Aside0 (kq ≤ k) ∧ Drawn0 w w')
  case atStart => exact ⟨(0), (by first | rfl | (simp; done) | (simp [*]; done)), H', ⟨Nat.le_refl _⟩, by repeat (first | exact Drawn0.refl _ | apply Drawn0.step)⟩
  case round =>
    clear H'
    try clear p2
    obtain ⟨x8_1, rfl, HA, HK1, ⟨m1, rfl⟩⟩ := hrel
    cases gk with
    | zero => exact absurd HA.out (by simp [slices_Index_string_string.l0])
    | succ k1 =>
      have H := HA.out
      clear HA
      simp only [slices_Index_string_string.l0] at H
      by_cases c3 : x8_1 < (l0.length : Int)
      · rw [if_pos c3] at H
        have c3b0 : decide (x8_1 < (l0.length : Int)) = true := decide_eq_true c3
        clear c3
        by_cases c4 : 0 ≤ x8_1
        · rw [if_pos c4] at H
          have c4b0 : decide (0 ≤ x8_1) = true := decide_eq_true c4
          clear c4
          by_cases c5 : x8_1 < (l0.length : Int)
          · rw [if_pos c5] at H
            have c5b0 : decide (x8_1 < (l0.length : Int)) = true := decide_eq_true c5
            clear c5
            by_cases c6 : a1.toList = (rdOf ByteArray.empty l0 x8_1).toList
            · rw [if_pos c6] at H
              have c6b0 : (a1.toList == (rdOf ByteArray.empty l0 x8_1).toList) = true := beq_iff_eq.mpr c6
              have c6b1 : (a1.toList != (rdOf ByteArray.empty l0 x8_1).toList) = false := bne_eq_false_iff_eq.mpr c6
              clear c6
              obtain rfl := Option.some.inj H
              have p243 : 0 ≤ (x8_1 : Int) := of_decide_eq_true (by first | (with_reducible assumption) | assumption)
              have q243 : x8_1 < (l0.length : Int) := of_decide_eq_true (by first | (with_reducible assumption) | assumption)
              obtain ⟨ad243, e243, hx243_0⟩ := Kd.at_string HR0.out x8_1 p243 q243
              cases e243
              replace p243 := eq_true p243
              replace q243 := eq_true q243
              go_wp2
              go_ret
              exact ⟨by first | rfl | (simp; done) | (simp [*]; done), by repeat (first | exact Drawn0.refl _ | apply Drawn0.step)⟩
            · rw [if_neg c6] at H
              have c6b0 : (a1.toList == (rdOf ByteArray.empty l0 x8_1).toList) = false := beq_eq_false_iff_ne.mpr c6
              have c6b1 : (a1.toList != (rdOf ByteArray.empty l0 x8_1).toList) = true := bne_iff_ne.mpr c6
              have H' := Aside0.mk H
              clear H
              have p243 : 0 ≤ (x8_1 : Int) := of_decide_eq_true (by first | (with_reducible assumption) | assumption)
              have q243 : x8_1 < (l0.length : Int) := of_decide_eq_true (by first | (with_reducible assumption) | assumption)
              obtain ⟨ad243, e243, hx243_0⟩ := Kd.at_string HR0.out x8_1 p243 q243
              cases e243
              replace p243 := eq_true p243
              replace q243 := eq_true q243
              go_wp2
              go_roundg k1
              case measure => have := HK1.out; omega
              case rel => exact ⟨(wrap64 (x8_1 + 1)), (by first | rfl | (simp; done) | (simp [*]; done)), H', ⟨by have := HK1.out; omega⟩, by repeat (first | exact Drawn0.refl _ | apply Drawn0.step)⟩
          · rw [if_neg c5] at H
            exact absurd H (by simp)
        · rw [if_neg c4] at H
          exact absurd H (by simp)
      · rw [if_neg c3] at H
        have c3b0 : decide (x8_1 < (l0.length : Int)) = false := decide_eq_false c3
        clear c3
        obtain rfl := Option.some.inj H
        go_wp2
        go_ret
        exact ⟨by first | rfl | (simp; done) | (simp [*]; done), by repeat (first | exact Drawn0.refl _ | apply Drawn0.step)⟩
def slices_Contains_string_string.f (k : Nat) (l0 : List ByteArray) (a1 : ByteArray) : Option (Bool) := (slices_Index_string_string.f k l0 a1).bind fun t244 => (some (decide (t244 ≥ 0)))
set_option maxHeartbeats 8000000 in
set_option maxRecDepth 100000 in
theorem slices_Contains_string_string.calls (k : Nat) (A0 : Option Addr) (c0 : Nat) (l0 : List ByteArray) (a1 : ByteArray) (r : Bool) (w : World) (hr0 : Kd.C Kd.string w A0 l0.length l0) (hc0 : l0.length ≤ c0) (h : slices_Contains_string_string.f k l0 a1 = some r) :
    Calls Tryz.prog 54 #[.slice A0 l0.length c0, .string a1] w fun e w' => e = .returned (.bool r) ∧ Drawn0 w w' := by
  have HR0 := Aside0.mk hr0
  have HC0 := Aside0.mk hc0
  clear hr0 hc0
  have H : ((slices_Index_string_string.f k l0 a1).bind fun t244 => (some (decide (t244 ≥ 0)))) = some r := h
  clear h
  replace H := Option.bind_eq_some_iff.mp H
  obtain ⟨t244, A30, H⟩ := H
  replace H : (some (decide (t244 ≥ 0))) = some r := H
  have A3 := Aside0.mk A30
  clear A30
  obtain rfl := Option.some.inj H
  go_enter Tryz.func54, Tryz.ntmps54
  go_wp2_with (first | ((with_reducible refine gate_callee (f := 71) rfl ?_); refine goesL_ (some 7) rfl rfl Tryz.func71 (by kernel_rfl) rfl #[.slice A0 l0.length c0, .string a1] rfl (by (try simp only [List.map_toArray, List.map_cons, List.map_nil]); first | done | rfl | (simp only [List.length_drop, List.length_take]; rfl)) ?_; (with_reducible refine (slices_Index_string_string.calls k _ _ l0 a1 t244 _ ?side1 ?side2 A3.out).mono ?_); (case side1 => repeat (first | exact HR0.out | (with_reducible refine Kd.C_alloc ?_ _) | (with_reducible refine Kd.C_drewN ?_ _) | (with_reducible refine Kd.C_drew ?_))); (case side2 => exact HC0.out); rintro e w' ⟨rfl, ⟨nd, rfl⟩⟩; refine ⟨_, rfl, ?_⟩))
  go_ret
  exact ⟨by first | rfl | (simp; done) | (simp [*]; done), by repeat (first | exact Drawn0.refl _ | apply Drawn0.step)⟩
end Go.Proofs.YtghmajlfmoggfaaGreat.PFnMerge
namespace Go.Proofs.YtghmajlfmoggfaaGreat
open Go.RowKit Go.Proofs.YtghmajlfmoggfaaGreatW.PrintWords Go.Proofs.YtghmajlfmoggfaaGreatW.PrintLast PFnMerge
theorem wr (n : Int) (h1 : -9223372036854775808 ≤ n) (h2 : n ≤ 9223372036854775807) : wrap64 n = n := by unfold wrap64; omega
theorem toList_inj {a b : ByteArray} (h : a.toList = b.toList) : a = b := by
  rw [ByteArray.toList_eq, ByteArray.toList_eq] at h
  cases a; cases b
  simp only at h
  congr 1
  exact Array.ext' h
theorem place_at (l : List ByteArray) (a : ByteArray) (hl : l.length ≤ 9223372036854775807) : ∀ (m j : Nat), j + m = l.length →
    ∃ k r, spec_Place.l0 k l a (l.length : Int) (j : Int) = some r ∧ (r = -1 ∧ (∀ i : Nat, j ≤ i → l[i]? ≠ some a) ∨ ∃ i : Nat, r = (i : Int) ∧ j ≤ i ∧ l[i]? = some a ∧ ∀ i' : Nat, j ≤ i' → i' < i → l[i']? ≠ some a) := by
  intro m
  induction m with
  | zero =>
    intro j hj
    refine ⟨1, -1, ?_, .inl ⟨rfl, fun i hi => ?_⟩⟩
    · rw [spec_Place.l0, if_neg (by omega)]
    · rw [List.getElem?_eq_none (by omega)]; simp
  | succ m ih =>
    intro j hj
    have hlt : j < l.length := by omega
    have hg : rdOf ByteArray.empty l (j : Int) = l[j] := by simp [rdOf, List.getD, hlt]
    by_cases h : l[j] = a
    · refine ⟨1, (j : Int), ?_, .inr ⟨j, rfl, Nat.le_refl _, by rw [List.getElem?_eq_getElem hlt, h], fun i' h1 h2 => by omega⟩⟩
      rw [spec_Place.l0, if_pos (by omega), if_pos (by omega), if_pos (by omega), hg, h, if_pos rfl]
    · obtain ⟨k, r, hk, hr⟩ := ih (j + 1) (by omega)
      refine ⟨k + 1, r, ?_, ?_⟩
      · rw [spec_Place.l0, if_pos (by omega), if_pos (by omega), if_pos (by omega), hg, if_neg (fun e => h (toList_inj e)), wr _ (by omega) (by omega)]
        exact hk
      · have hne : l[j]? ≠ some a := by rw [List.getElem?_eq_getElem hlt]; intro e; injection e with e; exact h e
        rcases hr with ⟨h1, h2⟩ | ⟨i, h1, h2, h3, h4⟩
        · refine .inl ⟨h1, fun i hi => ?_⟩
          rcases Nat.lt_or_ge j i with h5 | h5
          · exact h2 i h5
          · obtain rfl : i = j := by omega
            exact hne
        · refine .inr ⟨i, h1, by omega, h3, fun i' h5 h6 => ?_⟩
          rcases Nat.lt_or_ge j i' with h7 | h7
          · exact h4 i' h7 h6
          · obtain rfl : i' = j := by omega
            exact hne
theorem place_some (l : List ByteArray) (a : ByteArray) (hl : l.length ≤ 9223372036854775807) : ∃ k r, spec_Place.f k l a = some r ∧ (r = -1 ∧ a ∉ l ∨ ∃ i : Nat, r = (i : Int) ∧ i < l.length ∧ l[i]? = some a) := by
  obtain ⟨k, r, h1, h2⟩ := place_at l a hl l.length 0 (by omega)
  refine ⟨k, r, h1, ?_⟩
  rcases h2 with ⟨h2, h3⟩ | ⟨i, h2, _, h3, _⟩
  · refine .inl ⟨h2, fun hm => ?_⟩
    obtain ⟨i, hi⟩ := List.getElem?_of_mem hm
    exact h3 i (by omega) hi
  · exact .inr ⟨i, h2, (List.getElem?_eq_some_iff.1 h3).1, h3⟩
theorem index_at (l : List ByteArray) (a : ByteArray) (hl : l.length ≤ 9223372036854775807) (hn : a ∉ l) : ∀ (m j : Nat), j + m = l.length →
    ∃ k, slices_Index_string_string.l0 k l a (l.length : Int) (j : Int) = some (-1) := by
  intro m
  induction m with
  | zero =>
    intro j hj
    exact ⟨1, by rw [slices_Index_string_string.l0, if_neg (by omega)]⟩
  | succ m ih =>
    intro j hj
    have hlt : j < l.length := by omega
    have hg : rdOf ByteArray.empty l (j : Int) = l[j] := by simp [rdOf, List.getD, hlt]
    obtain ⟨k, hk⟩ := ih (j + 1) (by omega)
    refine ⟨k + 1, ?_⟩
    rw [slices_Index_string_string.l0, if_pos (by omega), if_pos (by omega), if_pos (by omega), hg, if_neg (fun e => hn (by rw [toList_inj e]; exact List.getElem_mem hlt)), wr _ (by omega) (by omega)]
    exact hk
theorem contains_no (l : List ByteArray) (a : ByteArray) (hl : l.length ≤ 9223372036854775807) (hn : a ∉ l) : ∃ k, slices_Contains_string_string.f k l a = some false := by
  obtain ⟨k, hk⟩ := index_at l a hl hn l.length 0 (by omega)
  refine ⟨k, ?_⟩
  have hk' : slices_Index_string_string.f k l a = some (-1) := hk
  simp [slices_Contains_string_string.f, hk']
def okB (b : Int) : Prop := (97 ≤ b ∧ b ≤ 122) ∨ (48 ≤ b ∧ b ≤ 57) ∨ b = 45
structure WordP (s : ByteArray) : Prop where
  pos : 1 ≤ s.size
  le : s.size ≤ 20
  first : 97 ≤ bt s 0 ∧ bt s 0 ≤ 122
  all : ∀ i : Nat, i < s.size → okB (bt s (i : Int))
  t : s.toList ≠ [116, 114, 117, 101]
  f : s.toList ≠ [102, 97, 108, 115, 101]
  n : s.toList ≠ [110, 117, 108, 108]
structure DigP (s : ByteArray) : Prop where
  pos : 1 ≤ s.size
  le : s.size ≤ 9
  all : ∀ i : Nat, i < s.size → 48 ≤ bt s (i : Int) ∧ bt s (i : Int) ≤ 57
theorem word_at (s : ByteArray) (hs : s.size ≤ 9223372036854775807) : ∀ (m j : Nat), j + m = s.size →
    ∃ k r, spec_IsWord.l0 k s (j : Int) = some r ∧ (r = true → (1 ≤ s.size ∧ s.size ≤ 20 ∧ s.toList ≠ [116, 114, 117, 101] ∧ s.toList ≠ [102, 97, 108, 115, 101] ∧ s.toList ≠ [110, 117, 108, 108]) ∧ ∀ i : Nat, j ≤ i → i < s.size → (97 ≤ bt s (i : Int) ∧ bt s (i : Int) ≤ 122) ∨ i ≠ 0 ∧ okB (bt s (i : Int))) := by
  intro m
  induction m with
  | zero =>
    intro j hj
    by_cases h1 : s.toList = [116, 114, 117, 101]
    · exact ⟨1, false, by rw [spec_IsWord.l0, if_neg (by omega), if_pos h1], by simp⟩
    by_cases h2 : s.toList = [102, 97, 108, 115, 101]
    · exact ⟨1, false, by rw [spec_IsWord.l0, if_neg (by omega), if_neg h1, if_pos h2], by simp⟩
    by_cases h3 : s.toList = [110, 117, 108, 108]
    · exact ⟨1, false, by rw [spec_IsWord.l0, if_neg (by omega), if_neg h1, if_neg h2, if_pos h3], by simp⟩
    by_cases h4 : 1 ≤ s.size ∧ s.size ≤ 20
    · refine ⟨1, ?_⟩
      rw [spec_IsWord.l0, if_neg (by omega), if_neg h1, if_neg h2, if_neg h3, if_pos (show (s.size : Int) ≥ 1 by omega), if_pos (show (s.size : Int) ≤ 20 by omega), wr _ (by omega) (by omega), if_pos (show 0 ≤ (s.size : Int) - 1 by omega), if_pos (show (s.size : Int) - 1 < (s.size : Int) by omega)]
      have key : ∀ o : Option Bool, (∃ r, o = some r) → ∃ r, o = some r ∧ (r = true → (1 ≤ s.size ∧ s.size ≤ 20 ∧ s.toList ≠ [116, 114, 117, 101] ∧ s.toList ≠ [102, 97, 108, 115, 101] ∧ s.toList ≠ [110, 117, 108, 108]) ∧ ∀ i : Nat, j ≤ i → i < s.size → (97 ≤ bt s (i : Int) ∧ bt s (i : Int) ≤ 122) ∨ i ≠ 0 ∧ okB (bt s (i : Int))) := by
        rintro o ⟨r, hr⟩
        exact ⟨r, hr, fun _ => ⟨⟨h4.1, h4.2, h1, h2, h3⟩, fun i h5 h6 => by omega⟩⟩
      refine key _ ?_
      repeat' split
      all_goals exact ⟨_, rfl⟩
    · refine ⟨1, false, ?_, by simp⟩
      rw [spec_IsWord.l0, if_neg (by omega), if_neg h1, if_neg h2, if_neg h3]
      repeat' split
      all_goals first | rfl | (exfalso; omega)
  | succ m ih =>
    intro j hj
    obtain ⟨k, r, hk, hr⟩ := ih (j + 1) (by omega)
    have hw : wrap64 ((j : Int) + 1) = ((j + 1 : Nat) : Int) := by rw [wr _ (by omega) (by omega)]; omega
    by_cases hb : (97 ≤ bt s (j : Int) ∧ bt s (j : Int) ≤ 122) ∨ j ≠ 0 ∧ okB (bt s (j : Int))
    · refine ⟨k + 1, r, ?_, fun h => ⟨(hr h).1, fun i h1 h2 => ?_⟩⟩
      · rw [spec_IsWord.l0, if_pos (by omega), if_pos (by omega), hw]
        unfold okB at hb
        repeat' split
        all_goals first | exact hk | (exfalso; omega)
      · rcases Nat.lt_or_ge j i with h5 | h5
        · exact (hr h).2 i h5 h2
        · obtain rfl : i = j := by omega
          exact hb
    · refine ⟨k + 1, false, ?_, by simp⟩
      rw [spec_IsWord.l0, if_pos (by omega), if_pos (by omega), hw]
      unfold okB at hb
      repeat' split
      all_goals first | rfl | (exfalso; omega)
theorem word_some (s : ByteArray) (hs : s.size ≤ 9223372036854775807) : ∃ k r, spec_IsWord.f k s = some r ∧ (r = true → WordP s) := by
  obtain ⟨k, r, h1, h2⟩ := word_at s hs s.size 0 (by omega)
  refine ⟨k, r, h1, fun h => ?_⟩
  obtain ⟨⟨h3, h4, h5, h6, h7⟩, h8⟩ := h2 h
  refine ⟨h3, h4, ?_, fun i hi => ?_, h5, h6, h7⟩
  · rcases h8 0 (by omega) (by omega) with h9 | ⟨h9, _⟩
    · exact h9
    · exact absurd rfl h9
  · rcases h8 i (by omega) hi with h9 | ⟨_, h9⟩
    · exact .inl h9
    · exact h9
theorem scal_at (f0 : Int) (s tag : ByteArray) (f3 : List ByteArray) (f4 : List S25) (hs : s.size ≤ 9223372036854775807) : ∀ (m j : Nat), j + m = s.size →
    ∃ k r, spec_isScalar.l0 k (j : Int) f0 s tag f3 f4 = some r ∧ (r = true → tag.toList = [33, 33, 105, 110, 116] ∧ 1 ≤ s.size ∧ s.size ≤ 9 ∧ ∀ i : Nat, j ≤ i → i < s.size → 48 ≤ bt s (i : Int) ∧ bt s (i : Int) ≤ 57) := by
  intro m
  induction m with
  | zero =>
    intro j hj
    by_cases h1 : tag.toList = [33, 33, 105, 110, 116]
    · by_cases h2 : (s.size : Int) ≥ 1
      · refine ⟨1, decide ((s.size : Int) ≤ 9), by rw [spec_isScalar.l0, if_neg (by omega), if_pos h1, if_pos h2], fun h => ?_⟩
        have := of_decide_eq_true h
        exact ⟨h1, by omega, by omega, fun i h5 h6 => by omega⟩
      · exact ⟨1, false, by rw [spec_isScalar.l0, if_neg (by omega), if_pos h1, if_neg h2], by simp⟩
    · exact ⟨1, false, by rw [spec_isScalar.l0, if_neg (by omega), if_neg h1], by simp⟩
  | succ m ih =>
    intro j hj
    obtain ⟨k, r, hk, hr⟩ := ih (j + 1) (by omega)
    have hw : wrap64 ((j : Int) + 1) = ((j + 1 : Nat) : Int) := by rw [wr _ (by omega) (by omega)]; omega
    by_cases h1 : bt s (j : Int) < 48
    · exact ⟨1, false, by rw [spec_isScalar.l0, if_pos (by omega), if_pos (by omega), if_pos h1], by simp⟩
    by_cases h2 : bt s (j : Int) > 57
    · exact ⟨1, false, by rw [spec_isScalar.l0, if_pos (by omega), if_pos (by omega), if_neg h1, if_pos h2], by simp⟩
    by_cases h3 : bt s 0 = 48
    · exact ⟨1, false, by rw [spec_isScalar.l0, if_pos (by omega), if_pos (by omega), if_neg h1, if_neg h2, if_pos (by omega), if_pos h3], by simp⟩
    refine ⟨k + 1, r, by rw [spec_isScalar.l0, if_pos (by omega), if_pos (by omega), if_neg h1, if_neg h2, if_pos (by omega), if_neg h3, hw]; exact hk, fun h => ?_⟩
    obtain ⟨h5, h6, h7, h8⟩ := hr h
    refine ⟨h5, h6, h7, fun i h9 h10 => ?_⟩
    rcases Nat.lt_or_ge j i with h11 | h11
    · exact h8 i h11 h10
    · obtain rfl : i = j := by omega
      omega
def ScalP (s tag : ByteArray) : Prop := (tag.toList = [33, 33, 115, 116, 114] ∧ WordP s) ∨ (tag.toList = [33, 33, 105, 110, 116] ∧ DigP s)
theorem scalar_some (f0 : Int) (s tag : ByteArray) (f3 : List ByteArray) (f4 : List S25) (hs : s.size ≤ 9223372036854775807) : ∃ k r, spec_isScalar.f k f0 s tag f3 f4 = some r ∧ (r = true → f3 = [] ∧ f4 = [] ∧ ScalP s tag) := by
  by_cases h3 : (f3.length : Int) > 0
  · exact ⟨1, false, by rw [spec_isScalar.f, if_pos h3, spec_isScalar.j0, if_pos rfl], by simp⟩
  by_cases h4 : (f4.length : Int) > 0
  · exact ⟨1, false, by rw [spec_isScalar.f, if_neg h3, decide_eq_true h4, spec_isScalar.j0, if_pos rfl], by simp⟩
  have e3 : f3 = [] := List.eq_nil_of_length_eq_zero (by omega)
  have e4 : f4 = [] := List.eq_nil_of_length_eq_zero (by omega)
  by_cases ht : tag.toList = [33, 33, 115, 116, 114]
  · obtain ⟨k, r, hk, hr⟩ := word_some s hs
    exact ⟨k + 1, r, by rw [spec_isScalar.f, if_neg h3, decide_eq_false h4, spec_isScalar.j0, if_neg (by simp), if_pos ht, hk]; rfl, fun h => ⟨e3, e4, .inl ⟨ht, hr h⟩⟩⟩
  · obtain ⟨k, r, hk, hr⟩ := scal_at f0 s tag f3 f4 hs s.size 0 (by omega)
    refine ⟨k + 1, r, by rw [spec_isScalar.f, if_neg h3, decide_eq_false h4, spec_isScalar.j0, if_neg (by simp), if_neg ht]; exact hk, fun h => ⟨e3, e4, ?_⟩⟩
    obtain ⟨h5, h6, h7, h8⟩ := hr h
    exact .inr ⟨h5, h6, h7, fun i hi => h8 i (by omega) hi⟩
theorem plain_at (s : ByteArray) (h1 : 1 ≤ s.size) (h2 : s.size ≤ 40) (h0 : bt s 0 ≠ 45) (hall : ∀ i : Nat, i < s.size → okB (bt s (i : Int))) : ∀ (m j : Nat), j + m = s.size → ∃ k, impl_plain.l0 k s (s.size : Int) (j : Int) = some true := by
  intro m
  induction m with
  | zero =>
    intro j hj
    exact ⟨1, by rw [impl_plain.l0, if_neg (by omega), if_pos (by omega), decide_eq_true (by omega)]⟩
  | succ m ih =>
    intro j hj
    obtain ⟨k, hk⟩ := ih (j + 1) (by omega)
    have hw : wrap64 ((j : Int) + 1) = ((j + 1 : Nat) : Int) := by rw [wr _ (by omega) (by omega)]; omega
    refine ⟨k + 1, ?_⟩
    have hb := hall j (by omega)
    have hj0 : (j : Int) = 0 → bt s (j : Int) ≠ 45 := fun e => by rw [e]; exact h0
    unfold okB at hb
    rw [impl_plain.l0, if_pos (by omega), if_pos (by omega), if_pos (by omega), hw]
    rcases hb with hb | hb | hb
    · rw [if_pos (by omega), if_pos (by omega)]; exact hk
    · rw [if_neg (by omega), if_neg (by omega), if_pos (by omega), if_pos (by omega)]; exact hk
    · rw [if_neg (by omega), if_neg (by omega), if_neg (by omega), if_neg (fun e => hj0 e hb), if_neg (by omega), if_neg (by omega), if_neg (by omega), if_pos hb]; exact hk
theorem WordP.plain {s : ByteArray} (h : WordP s) : ∃ k, impl_plain.f k s = some true := by
  refine plain_at s h.pos (by have := h.le; omega) (by have := h.first; omega) h.all s.size 0 (by omega)
theorem DigP.plain {s : ByteArray} (h : DigP s) : ∃ k, impl_plain.f k s = some true := by
  refine plain_at s h.pos (by have := h.le; omega) (by have := h.all 0 h.pos; simp only [Int.natCast_zero] at this; omega) (fun i hi => .inr (.inl (h.all i hi))) s.size 0 (by omega)
theorem ScalP.plain {s tag : ByteArray} (h : ScalP s tag) : ∃ k, impl_plain.f k s = some true := by
  rcases h with ⟨_, h⟩ | ⟨_, h⟩
  · exact h.plain
  · exact h.plain
theorem digits_at (s : ByteArray) (hs : s.size ≤ 9) (h1 : 1 ≤ s.size) (hall : ∀ i : Nat, i < s.size → 48 ≤ bt s (i : Int) ∧ bt s (i : Int) ≤ 57) : ∀ (m j : Nat), j + m = s.size → ∃ k, impl_digits.l0 k s (s.size : Int) (j : Int) = some true := by
  intro m
  induction m with
  | zero =>
    intro j hj
    exact ⟨1, by rw [impl_digits.l0, if_neg (by omega), decide_eq_true (by omega)]⟩
  | succ m ih =>
    intro j hj
    obtain ⟨k, hk⟩ := ih (j + 1) (by omega)
    have hw : wrap64 ((j : Int) + 1) = ((j + 1 : Nat) : Int) := by rw [wr _ (by omega) (by omega)]; omega
    have hb := hall j (by omega)
    exact ⟨k + 1, by rw [impl_digits.l0, if_pos (by omega), if_pos (by omega), if_pos (by omega), if_neg (by omega), if_neg (by omega), hw]; exact hk⟩
theorem tag_ne {tag : ByteArray} (h : tag.toList = [33, 33, 115, 116, 114] ∨ tag.toList = [33, 33, 105, 110, 116]) : (tag.toList == [33, 33, 110, 117, 108, 108]) = false ∧ tag.toList ≠ [] := by
  rcases h with h | h <;> rw [h] <;> exact ⟨by decide, by decide⟩
theorem ScalP.tag_ne {s tag : ByteArray} (h : ScalP s tag) : (tag.toList == [33, 33, 110, 117, 108, 108]) = false ∧ tag.toList ≠ [] := by
  rcases h with ⟨h, _⟩ | ⟨h, _⟩
  · exact Go.Proofs.YtghmajlfmoggfaaGreat.tag_ne (.inl h)
  · exact Go.Proofs.YtghmajlfmoggfaaGreat.tag_ne (.inr h)
theorem bt_head {s : ByteArray} {a : UInt8} {l : List UInt8} (h : s.toList = a :: l) : bt s 0 = (a.toNat : Int) := by
  rw [ByteArray.toList_eq] at h
  obtain ⟨⟨d⟩⟩ := s
  simp only at h
  subst h
  rfl
theorem ScalP.typed {s tag : ByteArray} (h : ScalP s tag) : ∃ k, impl_typed.f k s tag = some true := by
  have htn := h.tag_ne.2
  rcases h with ⟨ht, hw⟩ | ⟨ht, hd⟩
  · have hf : bt s 0 > 57 := by have := hw.first; omega
    refine ⟨2, ?_⟩
    have hdig : impl_digits.f 1 s = some false := by
      rw [impl_digits.f, impl_digits.l0, if_pos (by have := hw.pos; omega), if_pos (by omega), if_pos (by have := hw.pos; omega), if_neg (by omega), if_pos hf]
    rw [impl_typed.f, if_neg hw.n, if_neg htn, if_neg hw.t, show (s.toList == ([102, 97, 108, 115, 101] : List UInt8)) = false from beq_false_of_ne hw.f, impl_typed.j0, if_neg (by simp), hdig]
    simp only [Option.bind_some, Bool.false_eq_true, if_false]
    rw [if_pos ht, if_pos (by have := hw.pos; omega), decide_eq_true hf]
  · obtain ⟨k, hk⟩ := digits_at s hd.le hd.pos hd.all s.size 0 (by omega)
    have hk' : impl_digits.f k s = some true := hk
    have hno : ∀ (a : UInt8) (l : List UInt8), 57 < (a.toNat : Int) → s.toList ≠ a :: l := fun a l ha e => by
      have := hd.all 0 hd.pos
      simp only [Int.natCast_zero] at this
      rw [bt_head e] at this
      omega
    refine ⟨k + 1, ?_⟩
    rw [impl_typed.f, if_neg (hno _ _ (by decide)), if_neg htn, if_neg (hno _ _ (by decide)), show (s.toList == ([102, 97, 108, 115, 101] : List UInt8)) = false from beq_false_of_ne (hno _ _ (by decide)), impl_typed.j0, if_neg (by simp), hk']
    simp only [Option.bind_some, if_true]
    rw [ht]
    rfl
end Go.Proofs.YtghmajlfmoggfaaGreat
