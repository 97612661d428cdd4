/- The text of a program (the kit's print) for the functions named below, mended where it fell: what each function of the given Go program comes to. -/
import Derived.Test.YtcedefabmelogaaGreatDoorV02
namespace Go.Proofs.YtcedefabmelogaaGreatDoor.PFnAllowed
open Go.RowKit Go.Proofs.YtcedefabmelogaaGreatDoorW.PrintWords Go.Proofs.YtcedefabmelogaaGreatDoorW.PrintLast Go.Proofs.YtcedefabmelogaaGreatDoorW.PrintMore
attribute [local go_sem] max2_int min2_int max_two min_two max_three min_three max_four min_four   -- for this text's walks alone
set_option linter.unusedVariables false
set_option linter.unusedSimpArgs false
def spec_Method.l0 : Nat → ByteArray → Int → Int → Option (Bool)
  | 0, _, _, _ => none
  | k + 1, x0, x5, x6 => if x6 < x5 then (if 0 ≤ x6 then (if x6 < (x0.size : Int) then (if (bt x0 x6) < 65 then (if (bt x0 x6) < 97 then (some false) else (if (bt x0 x6) > 122 then (some false) else (spec_Method.l0 k x0 x5 (wrap64 (x6 + 1))))) else (if (bt x0 x6) > 90 then (if (bt x0 x6) < 97 then (some false) else (if (bt x0 x6) > 122 then (some false) else (spec_Method.l0 k x0 x5 (wrap64 (x6 + 1))))) else (spec_Method.l0 k x0 x5 (wrap64 (x6 + 1))))) else (none)) else (none)) else (some (decide ((x0.size : Int) < 12)))
def spec_Method.f (k : Nat) (a0 : ByteArray) : Option (Bool) := spec_Method.l0 k a0 (a0.size : Int) 0
set_option maxHeartbeats 8000000 in
set_option maxRecDepth 100000 in
theorem spec_Method.calls (k : Nat) (a0 : ByteArray) (r : Bool) (w : World) (h : spec_Method.f k a0 = some r) :
    Calls Tryz.prog 23 #[.string a0] w fun e w' => e = .returned (.bool r) ∧ Drawn0 w w' := by
  have H : (spec_Method.l0 k a0 (a0.size : Int) 0) = some r := h
  clear h
  have H' := Aside0.mk H
  clear H
  go_enter Tryz.func23, Tryz.ntmps23
  go_wp2
  go_loopg [6] k (fun kq v6 w' => ∃ (x6_1 : Int), v6 = .int .i64 x6_1 ∧ Aside0 (spec_Method.l0 kq a0 (a0.size : Int) x6_1 = some r) ∧ Aside0 (kq ≤ k) ∧ Drawn0 w w')
  case atStart => exact ⟨(0), (by first | rfl | (simp; done) | (simp [*]; done)), H', ⟨Nat.le_refl _⟩, by repeat (first | exact Drawn0.refl _ | apply Drawn0.step)⟩
  case round =>
    clear H'
    obtain ⟨x6_1, rfl, HA, HK1, ⟨m1, rfl⟩⟩ := hrel
    cases gk with
    | zero => exact absurd HA.out (by simp [spec_Method.l0])
    | succ k1 =>
      have H := HA.out
      clear HA
      simp only [spec_Method.l0] at H
      by_cases c2 : x6_1 < (a0.size : Int)
      · rw [if_pos c2] at H
        have c2b0 : decide (x6_1 < (a0.size : Int)) = true := decide_eq_true c2
        clear c2
        by_cases c3 : 0 ≤ x6_1
        · rw [if_pos c3] at H
          have c3b0 : decide (0 ≤ x6_1) = true := decide_eq_true c3
          clear c3
          by_cases c4 : x6_1 < (a0.size : Int)
          · rw [if_pos c4] at H
            have c4b0 : decide (x6_1 < (a0.size : Int)) = true := decide_eq_true c4
            clear c4
            by_cases c6 : (bt a0 x6_1) < 65
            · rw [if_pos c6] at H
              have c6b0 : decide ((bt a0 x6_1) < 65) = true := decide_eq_true c6
              clear c6
              by_cases c8 : (bt a0 x6_1) < 97
              · rw [if_pos c8] at H
                have c8b0 : decide ((bt a0 x6_1) < 97) = true := decide_eq_true c8
                clear c8
                obtain rfl := Option.some.inj H
                have p5 : 0 ≤ (x6_1 : Int) := of_decide_eq_true (by first | (with_reducible assumption) | assumption)
                have q5 : x6_1 < (a0.size : Int) := of_decide_eq_true (by first | (with_reducible assumption) | assumption)
                have hx5 := bt_at a0 x6_1
                replace p5 := eq_true p5
                replace q5 := eq_true q5
                have p7 : 0 ≤ (x6_1 : Int) := of_decide_eq_true (by first | (with_reducible assumption) | assumption)
                have q7 : x6_1 < (a0.size : Int) := of_decide_eq_true (by first | (with_reducible assumption) | assumption)
                have hx7 := bt_at a0 x6_1
                replace p7 := eq_true p7
                replace q7 := eq_true q7
                go_wp2
                go_ret
                exact ⟨by first | rfl | (simp; done) | (simp [*]; done), by repeat (first | exact Drawn0.refl _ | apply Drawn0.step)⟩
              · rw [if_neg c8] at H
                have c8b0 : decide ((bt a0 x6_1) < 97) = false := decide_eq_false c8
                clear c8
                by_cases c10 : (bt a0 x6_1) > 122
                · rw [if_pos c10] at H
                  have c10b0 : decide (122 < (bt a0 x6_1)) = true := decide_eq_true c10
                  clear c10
                  obtain rfl := Option.some.inj H
                  have p5 : 0 ≤ (x6_1 : Int) := of_decide_eq_true (by first | (with_reducible assumption) | assumption)
                  have q5 : x6_1 < (a0.size : Int) := of_decide_eq_true (by first | (with_reducible assumption) | assumption)
                  have hx5 := bt_at a0 x6_1
                  replace p5 := eq_true p5
                  replace q5 := eq_true q5
                  have p7 : 0 ≤ (x6_1 : Int) := of_decide_eq_true (by first | (with_reducible assumption) | assumption)
                  have q7 : x6_1 < (a0.size : Int) := of_decide_eq_true (by first | (with_reducible assumption) | assumption)
                  have hx7 := bt_at a0 x6_1
                  replace p7 := eq_true p7
                  replace q7 := eq_true q7
                  have p9 : 0 ≤ (x6_1 : Int) := of_decide_eq_true (by first | (with_reducible assumption) | assumption)
                  have q9 : x6_1 < (a0.size : Int) := of_decide_eq_true (by first | (with_reducible assumption) | assumption)
                  have hx9 := bt_at a0 x6_1
                  replace p9 := eq_true p9
                  replace q9 := eq_true q9
                  go_wp2
                  go_ret
                  exact ⟨by first | rfl | (simp; done) | (simp [*]; done), by repeat (first | exact Drawn0.refl _ | apply Drawn0.step)⟩
                · rw [if_neg c10] at H
                  have c10b0 : decide (122 < (bt a0 x6_1)) = false := decide_eq_false c10
                  clear c10
                  have H' := Aside0.mk H
                  clear H
                  have p5 : 0 ≤ (x6_1 : Int) := of_decide_eq_true (by first | (with_reducible assumption) | assumption)
                  have q5 : x6_1 < (a0.size : Int) := of_decide_eq_true (by first | (with_reducible assumption) | assumption)
                  have hx5 := bt_at a0 x6_1
                  replace p5 := eq_true p5
                  replace q5 := eq_true q5
                  have p7 : 0 ≤ (x6_1 : Int) := of_decide_eq_true (by first | (with_reducible assumption) | assumption)
                  have q7 : x6_1 < (a0.size : Int) := of_decide_eq_true (by first | (with_reducible assumption) | assumption)
                  have hx7 := bt_at a0 x6_1
                  replace p7 := eq_true p7
                  replace q7 := eq_true q7
                  have p9 : 0 ≤ (x6_1 : Int) := of_decide_eq_true (by first | (with_reducible assumption) | assumption)
                  have q9 : x6_1 < (a0.size : Int) := of_decide_eq_true (by first | (with_reducible assumption) | assumption)
                  have hx9 := bt_at a0 x6_1
                  replace p9 := eq_true p9
                  replace q9 := eq_true q9
                  go_wp2
                  go_roundg k1
                  case measure => have := HK1.out; omega
                  case rel => exact ⟨(wrap64 (x6_1 + 1)), (by first | rfl | (simp; done) | (simp [*]; done)), H', ⟨by have := HK1.out; omega⟩, by repeat (first | exact Drawn0.refl _ | apply Drawn0.step)⟩
            · rw [if_neg c6] at H
              have c6b0 : decide ((bt a0 x6_1) < 65) = false := decide_eq_false c6
              clear c6
              by_cases c12 : (bt a0 x6_1) > 90
              · rw [if_pos c12] at H
                have c12b0 : decide (90 < (bt a0 x6_1)) = true := decide_eq_true c12
                clear c12
                by_cases c14 : (bt a0 x6_1) < 97
                · rw [if_pos c14] at H
                  have c14b0 : decide ((bt a0 x6_1) < 97) = true := decide_eq_true c14
                  clear c14
                  obtain rfl := Option.some.inj H
                  have p5 : 0 ≤ (x6_1 : Int) := of_decide_eq_true (by first | (with_reducible assumption) | assumption)
                  have q5 : x6_1 < (a0.size : Int) := of_decide_eq_true (by first | (with_reducible assumption) | assumption)
                  have hx5 := bt_at a0 x6_1
                  replace p5 := eq_true p5
                  replace q5 := eq_true q5
                  have p11 : 0 ≤ (x6_1 : Int) := of_decide_eq_true (by first | (with_reducible assumption) | assumption)
                  have q11 : x6_1 < (a0.size : Int) := of_decide_eq_true (by first | (with_reducible assumption) | assumption)
                  have hx11 := bt_at a0 x6_1
                  replace p11 := eq_true p11
                  replace q11 := eq_true q11
                  have p13 : 0 ≤ (x6_1 : Int) := of_decide_eq_true (by first | (with_reducible assumption) | assumption)
                  have q13 : x6_1 < (a0.size : Int) := of_decide_eq_true (by first | (with_reducible assumption) | assumption)
                  have hx13 := bt_at a0 x6_1
                  replace p13 := eq_true p13
                  replace q13 := eq_true q13
                  go_wp2
                  go_ret
                  exact ⟨by first | rfl | (simp; done) | (simp [*]; done), by repeat (first | exact Drawn0.refl _ | apply Drawn0.step)⟩
                · rw [if_neg c14] at H
                  have c14b0 : decide ((bt a0 x6_1) < 97) = false := decide_eq_false c14
                  clear c14
                  by_cases c16 : (bt a0 x6_1) > 122
                  · rw [if_pos c16] at H
                    have c16b0 : decide (122 < (bt a0 x6_1)) = true := decide_eq_true c16
                    clear c16
                    obtain rfl := Option.some.inj H
                    have p5 : 0 ≤ (x6_1 : Int) := of_decide_eq_true (by first | (with_reducible assumption) | assumption)
                    have q5 : x6_1 < (a0.size : Int) := of_decide_eq_true (by first | (with_reducible assumption) | assumption)
                    have hx5 := bt_at a0 x6_1
                    replace p5 := eq_true p5
                    replace q5 := eq_true q5
                    have p11 : 0 ≤ (x6_1 : Int) := of_decide_eq_true (by first | (with_reducible assumption) | assumption)
                    have q11 : x6_1 < (a0.size : Int) := of_decide_eq_true (by first | (with_reducible assumption) | assumption)
                    have hx11 := bt_at a0 x6_1
                    replace p11 := eq_true p11
                    replace q11 := eq_true q11
                    have p13 : 0 ≤ (x6_1 : Int) := of_decide_eq_true (by first | (with_reducible assumption) | assumption)
                    have q13 : x6_1 < (a0.size : Int) := of_decide_eq_true (by first | (with_reducible assumption) | assumption)
                    have hx13 := bt_at a0 x6_1
                    replace p13 := eq_true p13
                    replace q13 := eq_true q13
                    have p15 : 0 ≤ (x6_1 : Int) := of_decide_eq_true (by first | (with_reducible assumption) | assumption)
                    have q15 : x6_1 < (a0.size : Int) := of_decide_eq_true (by first | (with_reducible assumption) | assumption)
                    have hx15 := bt_at a0 x6_1
                    replace p15 := eq_true p15
                    replace q15 := eq_true q15
                    go_wp2
                    go_ret
                    exact ⟨by first | rfl | (simp; done) | (simp [*]; done), by repeat (first | exact Drawn0.refl _ | apply Drawn0.step)⟩
                  · rw [if_neg c16] at H
                    have c16b0 : decide (122 < (bt a0 x6_1)) = false := decide_eq_false c16
                    clear c16
                    have H' := Aside0.mk H
                    clear H
                    have p5 : 0 ≤ (x6_1 : Int) := of_decide_eq_true (by first | (with_reducible assumption) | assumption)
                    have q5 : x6_1 < (a0.size : Int) := of_decide_eq_true (by first | (with_reducible assumption) | assumption)
                    have hx5 := bt_at a0 x6_1
                    replace p5 := eq_true p5
                    replace q5 := eq_true q5
                    have p11 : 0 ≤ (x6_1 : Int) := of_decide_eq_true (by first | (with_reducible assumption) | assumption)
                    have q11 : x6_1 < (a0.size : Int) := of_decide_eq_true (by first | (with_reducible assumption) | assumption)
                    have hx11 := bt_at a0 x6_1
                    replace p11 := eq_true p11
                    replace q11 := eq_true q11
                    have p13 : 0 ≤ (x6_1 : Int) := of_decide_eq_true (by first | (with_reducible assumption) | assumption)
                    have q13 : x6_1 < (a0.size : Int) := of_decide_eq_true (by first | (with_reducible assumption) | assumption)
                    have hx13 := bt_at a0 x6_1
                    replace p13 := eq_true p13
                    replace q13 := eq_true q13
                    have p15 : 0 ≤ (x6_1 : Int) := of_decide_eq_true (by first | (with_reducible assumption) | assumption)
                    have q15 : x6_1 < (a0.size : Int) := of_decide_eq_true (by first | (with_reducible assumption) | assumption)
                    have hx15 := bt_at a0 x6_1
                    replace p15 := eq_true p15
                    replace q15 := eq_true q15
                    go_wp2
                    go_roundg k1
                    case measure => have := HK1.out; omega
                    case rel => exact ⟨(wrap64 (x6_1 + 1)), (by first | rfl | (simp; done) | (simp [*]; done)), H', ⟨by have := HK1.out; omega⟩, by repeat (first | exact Drawn0.refl _ | apply Drawn0.step)⟩
              · rw [if_neg c12] at H
                have c12b0 : decide (90 < (bt a0 x6_1)) = false := decide_eq_false c12
                clear c12
                have H' := Aside0.mk H
                clear H
                have p5 : 0 ≤ (x6_1 : Int) := of_decide_eq_true (by first | (with_reducible assumption) | assumption)
                have q5 : x6_1 < (a0.size : Int) := of_decide_eq_true (by first | (with_reducible assumption) | assumption)
                have hx5 := bt_at a0 x6_1
                replace p5 := eq_true p5
                replace q5 := eq_true q5
                have p11 : 0 ≤ (x6_1 : Int) := of_decide_eq_true (by first | (with_reducible assumption) | assumption)
                have q11 : x6_1 < (a0.size : Int) := of_decide_eq_true (by first | (with_reducible assumption) | assumption)
                have hx11 := bt_at a0 x6_1
                replace p11 := eq_true p11
                replace q11 := eq_true q11
                go_wp2
                go_roundg k1
                case measure => have := HK1.out; omega
                case rel => exact ⟨(wrap64 (x6_1 + 1)), (by first | rfl | (simp; done) | (simp [*]; done)), H', ⟨by have := HK1.out; omega⟩, by repeat (first | exact Drawn0.refl _ | apply Drawn0.step)⟩
          · rw [if_neg c4] at H
            exact absurd H (by simp)
        · rw [if_neg c3] at H
          exact absurd H (by simp)
      · rw [if_neg c2] at H
        have c2b0 : decide (x6_1 < (a0.size : Int)) = false := decide_eq_false c2
        clear c2
        obtain rfl := Option.some.inj H
        go_wp2
        go_ret
        exact ⟨by first | rfl | (simp; done) | (simp [*]; done), by repeat (first | exact Drawn0.refl _ | apply Drawn0.step)⟩
def spec_Name.l0 : Nat → ByteArray → Int → Int → Option (Bool)
  | 0, _, _, _ => none
  | k + 1, x0, x7, x8 => if x8 < x7 then (if 0 ≤ x8 then (if x8 < (x0.size : Int) then (if (bt x0 x8) = 95 then (spec_Name.l0 k x0 x7 (wrap64 (x8 + 1))) else (if (bt x0 x8) ≥ 97 then (if (bt x0 x8) ≤ 122 then (spec_Name.l0 k x0 x7 (wrap64 (x8 + 1))) else (if (bt x0 x8) ≥ 65 then (if ((bt x0 x8) ≤ 90) then (spec_Name.l0 k x0 x7 (wrap64 (x8 + 1))) else (if x8 = 0 then (some false) else (if (bt x0 x8) < 48 then (some false) else (if (bt x0 x8) > 57 then (some false) else (spec_Name.l0 k x0 x7 (wrap64 (x8 + 1))))))) else (if x8 = 0 then (some false) else (if (bt x0 x8) < 48 then (some false) else (if (bt x0 x8) > 57 then (some false) else (spec_Name.l0 k x0 x7 (wrap64 (x8 + 1)))))))) else (if (bt x0 x8) ≥ 65 then (if ((bt x0 x8) ≤ 90) then (spec_Name.l0 k x0 x7 (wrap64 (x8 + 1))) else (if x8 = 0 then (some false) else (if (bt x0 x8) < 48 then (some false) else (if (bt x0 x8) > 57 then (some false) else (spec_Name.l0 k x0 x7 (wrap64 (x8 + 1))))))) else (if x8 = 0 then (some false) else (if (bt x0 x8) < 48 then (some false) else (if (bt x0 x8) > 57 then (some false) else (spec_Name.l0 k x0 x7 (wrap64 (x8 + 1))))))))) else (none)) else (none)) else (some (x0.toList != ([] : List UInt8)))
def spec_Name.f (k : Nat) (a0 : ByteArray) : Option (Bool) := spec_Name.l0 k a0 (a0.size : Int) 0
set_option maxHeartbeats 8000000 in
set_option maxRecDepth 100000 in
theorem spec_Name.calls (k : Nat) (a0 : ByteArray) (r : Bool) (w : World) (h : spec_Name.f k a0 = some r) :
    Calls Tryz.prog 24 #[.string a0] w fun e w' => e = .returned (.bool r) ∧ Drawn0 w w' := by
  have H : (spec_Name.l0 k a0 (a0.size : Int) 0) = some r := h
  clear h
  have H' := Aside0.mk H
  clear H
  go_enter Tryz.func24, Tryz.ntmps24
  go_wp2
  go_loopg [8] k (fun kq v8 w' => ∃ (x8_1 : Int), v8 = .int .i64 x8_1 ∧ Aside0 (spec_Name.l0 kq a0 (a0.size : Int) x8_1 = some r) ∧ Aside0 (kq ≤ k) ∧ Drawn0 w w')
  case atStart => exact ⟨(0), (by first | rfl | (simp; done) | (simp [*]; done)), H', ⟨Nat.le_refl _⟩, by repeat (first | exact Drawn0.refl _ | apply Drawn0.step)⟩
  case round =>
    clear H'
    obtain ⟨x8_1, rfl, HA, HK1, ⟨m1, rfl⟩⟩ := hrel
    cases gk with
    | zero => exact absurd HA.out (by simp [spec_Name.l0])
    | succ k1 =>
      have H := HA.out
      clear HA
      simp only [spec_Name.l0] at H
      by_cases c2 : x8_1 < (a0.size : Int)
      · rw [if_pos c2] at H
        have c2b0 : decide (x8_1 < (a0.size : Int)) = true := decide_eq_true c2
        clear c2
        by_cases c3 : 0 ≤ x8_1
        · rw [if_pos c3] at H
          have c3b0 : decide (0 ≤ x8_1) = true := decide_eq_true c3
          clear c3
          by_cases c4 : x8_1 < (a0.size : Int)
          · rw [if_pos c4] at H
            have c4b0 : decide (x8_1 < (a0.size : Int)) = true := decide_eq_true c4
            clear c4
            by_cases c6 : (bt a0 x8_1) = 95
            · rw [if_pos c6] at H
              have c6b0 : ((bt a0 x8_1) == 95) = true := beq_iff_eq.mpr c6
              have c6b1 : ((bt a0 x8_1) != 95) = false := bne_eq_false_iff_eq.mpr c6
              clear c6
              have H' := Aside0.mk H
              clear H
              have p5 : 0 ≤ (x8_1 : Int) := of_decide_eq_true (by first | (with_reducible assumption) | assumption)
              have q5 : x8_1 < (a0.size : Int) := of_decide_eq_true (by first | (with_reducible assumption) | assumption)
              have hx5 := bt_at a0 x8_1
              replace p5 := eq_true p5
              replace q5 := eq_true q5
              go_wp2
              go_roundg k1
              case measure => have := HK1.out; omega
              case rel => exact ⟨(wrap64 (x8_1 + 1)), (by first | rfl | (simp; done) | (simp [*]; done)), H', ⟨by have := HK1.out; omega⟩, by repeat (first | exact Drawn0.refl _ | apply Drawn0.step)⟩
            · rw [if_neg c6] at H
              have c6b0 : ((bt a0 x8_1) == 95) = false := beq_eq_false_iff_ne.mpr c6
              have c6b1 : ((bt a0 x8_1) != 95) = true := bne_iff_ne.mpr c6
              by_cases c7 : (bt a0 x8_1) ≥ 97
              · rw [if_pos c7] at H
                have c7b0 : decide (97 ≤ (bt a0 x8_1)) = true := decide_eq_true c7
                clear c7
                by_cases c8 : (bt a0 x8_1) ≤ 122
                · rw [if_pos c8] at H
                  have c8b0 : decide ((bt a0 x8_1) ≤ 122) = true := decide_eq_true c8
                  clear c8
                  have H' := Aside0.mk H
                  clear H
                  have p5 : 0 ≤ (x8_1 : Int) := of_decide_eq_true (by first | (with_reducible assumption) | assumption)
                  have q5 : x8_1 < (a0.size : Int) := of_decide_eq_true (by first | (with_reducible assumption) | assumption)
                  have hx5 := bt_at a0 x8_1
                  replace p5 := eq_true p5
                  replace q5 := eq_true q5
                  go_wp2
                  go_roundg k1
                  case measure => have := HK1.out; omega
                  case rel => exact ⟨(wrap64 (x8_1 + 1)), (by first | rfl | (simp; done) | (simp [*]; done)), H', ⟨by have := HK1.out; omega⟩, by repeat (first | exact Drawn0.refl _ | apply Drawn0.step)⟩
                · rw [if_neg c8] at H
                  have c8b0 : decide ((bt a0 x8_1) ≤ 122) = false := decide_eq_false c8
                  clear c8
                  by_cases c9 : (bt a0 x8_1) ≥ 65
                  · rw [if_pos c9] at H
                    have c9b0 : decide (65 ≤ (bt a0 x8_1)) = true := decide_eq_true c9
                    clear c9
                    by_cases c10 : ((bt a0 x8_1) ≤ 90)
                    · rw [if_pos c10] at H
                      have c10b0 : decide ((bt a0 x8_1) ≤ 90) = true := decide_eq_true c10
                      clear c10
                      have H' := Aside0.mk H
                      clear H
                      have p5 : 0 ≤ (x8_1 : Int) := of_decide_eq_true (by first | (with_reducible assumption) | assumption)
                      have q5 : x8_1 < (a0.size : Int) := of_decide_eq_true (by first | (with_reducible assumption) | assumption)
                      have hx5 := bt_at a0 x8_1
                      replace p5 := eq_true p5
                      replace q5 := eq_true q5
                      go_wp2
                      go_roundg k1
                      case measure => have := HK1.out; omega
                      case rel => exact ⟨(wrap64 (x8_1 + 1)), (by first | rfl | (simp; done) | (simp [*]; done)), H', ⟨by have := HK1.out; omega⟩, by repeat (first | exact Drawn0.refl _ | apply Drawn0.step)⟩
                    · rw [if_neg c10] at H
                      have c10b0 : decide ((bt a0 x8_1) ≤ 90) = false := decide_eq_false c10
                      clear c10
                      by_cases c11 : x8_1 = 0
                      · rw [if_pos c11] at H
                        have c11b0 : (x8_1 == 0) = true := beq_iff_eq.mpr c11
                        have c11b1 : (x8_1 != 0) = false := bne_eq_false_iff_eq.mpr c11
                        clear c11
                        obtain rfl := Option.some.inj H
                        have p5 : 0 ≤ (x8_1 : Int) := of_decide_eq_true (by first | (with_reducible assumption) | assumption)
                        have q5 : x8_1 < (a0.size : Int) := of_decide_eq_true (by first | (with_reducible assumption) | assumption)
                        have hx5 := bt_at a0 x8_1
                        replace p5 := eq_true p5
                        replace q5 := eq_true q5
                        go_wp2
                        go_ret
                        exact ⟨by first | rfl | (simp; done) | (simp [*]; done), by repeat (first | exact Drawn0.refl _ | apply Drawn0.step)⟩
                      · rw [if_neg c11] at H
                        have c11b0 : (x8_1 == 0) = false := beq_eq_false_iff_ne.mpr c11
                        have c11b1 : (x8_1 != 0) = true := bne_iff_ne.mpr c11
                        by_cases c12 : (bt a0 x8_1) < 48
                        · rw [if_pos c12] at H
                          have c12b0 : decide ((bt a0 x8_1) < 48) = true := decide_eq_true c12
                          clear c12
                          obtain rfl := Option.some.inj H
                          have p5 : 0 ≤ (x8_1 : Int) := of_decide_eq_true (by first | (with_reducible assumption) | assumption)
                          have q5 : x8_1 < (a0.size : Int) := of_decide_eq_true (by first | (with_reducible assumption) | assumption)
                          have hx5 := bt_at a0 x8_1
                          replace p5 := eq_true p5
                          replace q5 := eq_true q5
                          go_wp2
                          go_ret
                          exact ⟨by first | rfl | (simp; done) | (simp [*]; done), by repeat (first | exact Drawn0.refl _ | apply Drawn0.step)⟩
                        · rw [if_neg c12] at H
                          have c12b0 : decide ((bt a0 x8_1) < 48) = false := decide_eq_false c12
                          clear c12
                          by_cases c13 : (bt a0 x8_1) > 57
                          · rw [if_pos c13] at H
                            have c13b0 : decide (57 < (bt a0 x8_1)) = true := decide_eq_true c13
                            clear c13
                            obtain rfl := Option.some.inj H
                            have p5 : 0 ≤ (x8_1 : Int) := of_decide_eq_true (by first | (with_reducible assumption) | assumption)
                            have q5 : x8_1 < (a0.size : Int) := of_decide_eq_true (by first | (with_reducible assumption) | assumption)
                            have hx5 := bt_at a0 x8_1
                            replace p5 := eq_true p5
                            replace q5 := eq_true q5
                            go_wp2
                            go_ret
                            exact ⟨by first | rfl | (simp; done) | (simp [*]; done), by repeat (first | exact Drawn0.refl _ | apply Drawn0.step)⟩
                          · rw [if_neg c13] at H
                            have c13b0 : decide (57 < (bt a0 x8_1)) = false := decide_eq_false c13
                            clear c13
                            have H' := Aside0.mk H
                            clear H
                            have p5 : 0 ≤ (x8_1 : Int) := of_decide_eq_true (by first | (with_reducible assumption) | assumption)
                            have q5 : x8_1 < (a0.size : Int) := of_decide_eq_true (by first | (with_reducible assumption) | assumption)
                            have hx5 := bt_at a0 x8_1
                            replace p5 := eq_true p5
                            replace q5 := eq_true q5
                            go_wp2
                            go_roundg k1
                            case measure => have := HK1.out; omega
                            case rel => exact ⟨(wrap64 (x8_1 + 1)), (by first | rfl | (simp; done) | (simp [*]; done)), H', ⟨by have := HK1.out; omega⟩, by repeat (first | exact Drawn0.refl _ | apply Drawn0.step)⟩
                  · rw [if_neg c9] at H
                    have c9b0 : decide (65 ≤ (bt a0 x8_1)) = false := decide_eq_false c9
                    clear c9
                    by_cases c14 : x8_1 = 0
                    · rw [if_pos c14] at H
                      have c14b0 : (x8_1 == 0) = true := beq_iff_eq.mpr c14
                      have c14b1 : (x8_1 != 0) = false := bne_eq_false_iff_eq.mpr c14
                      clear c14
                      obtain rfl := Option.some.inj H
                      have p5 : 0 ≤ (x8_1 : Int) := of_decide_eq_true (by first | (with_reducible assumption) | assumption)
                      have q5 : x8_1 < (a0.size : Int) := of_decide_eq_true (by first | (with_reducible assumption) | assumption)
                      have hx5 := bt_at a0 x8_1
                      replace p5 := eq_true p5
                      replace q5 := eq_true q5
                      go_wp2
                      go_ret
                      exact ⟨by first | rfl | (simp; done) | (simp [*]; done), by repeat (first | exact Drawn0.refl _ | apply Drawn0.step)⟩
                    · rw [if_neg c14] at H
                      have c14b0 : (x8_1 == 0) = false := beq_eq_false_iff_ne.mpr c14
                      have c14b1 : (x8_1 != 0) = true := bne_iff_ne.mpr c14
                      by_cases c15 : (bt a0 x8_1) < 48
                      · rw [if_pos c15] at H
                        have c15b0 : decide ((bt a0 x8_1) < 48) = true := decide_eq_true c15
                        clear c15
                        obtain rfl := Option.some.inj H
                        have p5 : 0 ≤ (x8_1 : Int) := of_decide_eq_true (by first | (with_reducible assumption) | assumption)
                        have q5 : x8_1 < (a0.size : Int) := of_decide_eq_true (by first | (with_reducible assumption) | assumption)
                        have hx5 := bt_at a0 x8_1
                        replace p5 := eq_true p5
                        replace q5 := eq_true q5
                        go_wp2
                        go_ret
                        exact ⟨by first | rfl | (simp; done) | (simp [*]; done), by repeat (first | exact Drawn0.refl _ | apply Drawn0.step)⟩
                      · rw [if_neg c15] at H
                        have c15b0 : decide ((bt a0 x8_1) < 48) = false := decide_eq_false c15
                        clear c15
                        by_cases c16 : (bt a0 x8_1) > 57
                        · rw [if_pos c16] at H
                          have c16b0 : decide (57 < (bt a0 x8_1)) = true := decide_eq_true c16
                          clear c16
                          obtain rfl := Option.some.inj H
                          have p5 : 0 ≤ (x8_1 : Int) := of_decide_eq_true (by first | (with_reducible assumption) | assumption)
                          have q5 : x8_1 < (a0.size : Int) := of_decide_eq_true (by first | (with_reducible assumption) | assumption)
                          have hx5 := bt_at a0 x8_1
                          replace p5 := eq_true p5
                          replace q5 := eq_true q5
                          go_wp2
                          go_ret
                          exact ⟨by first | rfl | (simp; done) | (simp [*]; done), by repeat (first | exact Drawn0.refl _ | apply Drawn0.step)⟩
                        · rw [if_neg c16] at H
                          have c16b0 : decide (57 < (bt a0 x8_1)) = false := decide_eq_false c16
                          clear c16
                          have H' := Aside0.mk H
                          clear H
                          have p5 : 0 ≤ (x8_1 : Int) := of_decide_eq_true (by first | (with_reducible assumption) | assumption)
                          have q5 : x8_1 < (a0.size : Int) := of_decide_eq_true (by first | (with_reducible assumption) | assumption)
                          have hx5 := bt_at a0 x8_1
                          replace p5 := eq_true p5
                          replace q5 := eq_true q5
                          go_wp2
                          go_roundg k1
                          case measure => have := HK1.out; omega
                          case rel => exact ⟨(wrap64 (x8_1 + 1)), (by first | rfl | (simp; done) | (simp [*]; done)), H', ⟨by have := HK1.out; omega⟩, by repeat (first | exact Drawn0.refl _ | apply Drawn0.step)⟩
              · rw [if_neg c7] at H
                have c7b0 : decide (97 ≤ (bt a0 x8_1)) = false := decide_eq_false c7
                clear c7
                by_cases c17 : (bt a0 x8_1) ≥ 65
                · rw [if_pos c17] at H
                  have c17b0 : decide (65 ≤ (bt a0 x8_1)) = true := decide_eq_true c17
                  clear c17
                  by_cases c18 : ((bt a0 x8_1) ≤ 90)
                  · rw [if_pos c18] at H
                    have c18b0 : decide ((bt a0 x8_1) ≤ 90) = true := decide_eq_true c18
                    clear c18
                    have H' := Aside0.mk H
                    clear H
                    have p5 : 0 ≤ (x8_1 : Int) := of_decide_eq_true (by first | (with_reducible assumption) | assumption)
                    have q5 : x8_1 < (a0.size : Int) := of_decide_eq_true (by first | (with_reducible assumption) | assumption)
                    have hx5 := bt_at a0 x8_1
                    replace p5 := eq_true p5
                    replace q5 := eq_true q5
                    go_wp2
                    go_roundg k1
                    case measure => have := HK1.out; omega
                    case rel => exact ⟨(wrap64 (x8_1 + 1)), (by first | rfl | (simp; done) | (simp [*]; done)), H', ⟨by have := HK1.out; omega⟩, by repeat (first | exact Drawn0.refl _ | apply Drawn0.step)⟩
                  · rw [if_neg c18] at H
                    have c18b0 : decide ((bt a0 x8_1) ≤ 90) = false := decide_eq_false c18
                    clear c18
                    by_cases c19 : x8_1 = 0
                    · rw [if_pos c19] at H
                      have c19b0 : (x8_1 == 0) = true := beq_iff_eq.mpr c19
                      have c19b1 : (x8_1 != 0) = false := bne_eq_false_iff_eq.mpr c19
                      clear c19
                      obtain rfl := Option.some.inj H
                      have p5 : 0 ≤ (x8_1 : Int) := of_decide_eq_true (by first | (with_reducible assumption) | assumption)
                      have q5 : x8_1 < (a0.size : Int) := of_decide_eq_true (by first | (with_reducible assumption) | assumption)
                      have hx5 := bt_at a0 x8_1
                      replace p5 := eq_true p5
                      replace q5 := eq_true q5
                      go_wp2
                      go_ret
                      exact ⟨by first | rfl | (simp; done) | (simp [*]; done), by repeat (first | exact Drawn0.refl _ | apply Drawn0.step)⟩
                    · rw [if_neg c19] at H
                      have c19b0 : (x8_1 == 0) = false := beq_eq_false_iff_ne.mpr c19
                      have c19b1 : (x8_1 != 0) = true := bne_iff_ne.mpr c19
                      by_cases c20 : (bt a0 x8_1) < 48
                      · rw [if_pos c20] at H
                        have c20b0 : decide ((bt a0 x8_1) < 48) = true := decide_eq_true c20
                        clear c20
                        obtain rfl := Option.some.inj H
                        have p5 : 0 ≤ (x8_1 : Int) := of_decide_eq_true (by first | (with_reducible assumption) | assumption)
                        have q5 : x8_1 < (a0.size : Int) := of_decide_eq_true (by first | (with_reducible assumption) | assumption)
                        have hx5 := bt_at a0 x8_1
                        replace p5 := eq_true p5
                        replace q5 := eq_true q5
                        go_wp2
                        go_ret
                        exact ⟨by first | rfl | (simp; done) | (simp [*]; done), by repeat (first | exact Drawn0.refl _ | apply Drawn0.step)⟩
                      · rw [if_neg c20] at H
                        have c20b0 : decide ((bt a0 x8_1) < 48) = false := decide_eq_false c20
                        clear c20
                        by_cases c21 : (bt a0 x8_1) > 57
                        · rw [if_pos c21] at H
                          have c21b0 : decide (57 < (bt a0 x8_1)) = true := decide_eq_true c21
                          clear c21
                          obtain rfl := Option.some.inj H
                          have p5 : 0 ≤ (x8_1 : Int) := of_decide_eq_true (by first | (with_reducible assumption) | assumption)
                          have q5 : x8_1 < (a0.size : Int) := of_decide_eq_true (by first | (with_reducible assumption) | assumption)
                          have hx5 := bt_at a0 x8_1
                          replace p5 := eq_true p5
                          replace q5 := eq_true q5
                          go_wp2
                          go_ret
                          exact ⟨by first | rfl | (simp; done) | (simp [*]; done), by repeat (first | exact Drawn0.refl _ | apply Drawn0.step)⟩
                        · rw [if_neg c21] at H
                          have c21b0 : decide (57 < (bt a0 x8_1)) = false := decide_eq_false c21
                          clear c21
                          have H' := Aside0.mk H
                          clear H
                          have p5 : 0 ≤ (x8_1 : Int) := of_decide_eq_true (by first | (with_reducible assumption) | assumption)
                          have q5 : x8_1 < (a0.size : Int) := of_decide_eq_true (by first | (with_reducible assumption) | assumption)
                          have hx5 := bt_at a0 x8_1
                          replace p5 := eq_true p5
                          replace q5 := eq_true q5
                          go_wp2
                          go_roundg k1
                          case measure => have := HK1.out; omega
                          case rel => exact ⟨(wrap64 (x8_1 + 1)), (by first | rfl | (simp; done) | (simp [*]; done)), H', ⟨by have := HK1.out; omega⟩, by repeat (first | exact Drawn0.refl _ | apply Drawn0.step)⟩
                · rw [if_neg c17] at H
                  have c17b0 : decide (65 ≤ (bt a0 x8_1)) = false := decide_eq_false c17
                  clear c17
                  by_cases c22 : x8_1 = 0
                  · rw [if_pos c22] at H
                    have c22b0 : (x8_1 == 0) = true := beq_iff_eq.mpr c22
                    have c22b1 : (x8_1 != 0) = false := bne_eq_false_iff_eq.mpr c22
                    clear c22
                    obtain rfl := Option.some.inj H
                    have p5 : 0 ≤ (x8_1 : Int) := of_decide_eq_true (by first | (with_reducible assumption) | assumption)
                    have q5 : x8_1 < (a0.size : Int) := of_decide_eq_true (by first | (with_reducible assumption) | assumption)
                    have hx5 := bt_at a0 x8_1
                    replace p5 := eq_true p5
                    replace q5 := eq_true q5
                    go_wp2
                    go_ret
                    exact ⟨by first | rfl | (simp; done) | (simp [*]; done), by repeat (first | exact Drawn0.refl _ | apply Drawn0.step)⟩
                  · rw [if_neg c22] at H
                    have c22b0 : (x8_1 == 0) = false := beq_eq_false_iff_ne.mpr c22
                    have c22b1 : (x8_1 != 0) = true := bne_iff_ne.mpr c22
                    by_cases c23 : (bt a0 x8_1) < 48
                    · rw [if_pos c23] at H
                      have c23b0 : decide ((bt a0 x8_1) < 48) = true := decide_eq_true c23
                      clear c23
                      obtain rfl := Option.some.inj H
                      have p5 : 0 ≤ (x8_1 : Int) := of_decide_eq_true (by first | (with_reducible assumption) | assumption)
                      have q5 : x8_1 < (a0.size : Int) := of_decide_eq_true (by first | (with_reducible assumption) | assumption)
                      have hx5 := bt_at a0 x8_1
                      replace p5 := eq_true p5
                      replace q5 := eq_true q5
                      go_wp2
                      go_ret
                      exact ⟨by first | rfl | (simp; done) | (simp [*]; done), by repeat (first | exact Drawn0.refl _ | apply Drawn0.step)⟩
                    · rw [if_neg c23] at H
                      have c23b0 : decide ((bt a0 x8_1) < 48) = false := decide_eq_false c23
                      clear c23
                      by_cases c24 : (bt a0 x8_1) > 57
                      · rw [if_pos c24] at H
                        have c24b0 : decide (57 < (bt a0 x8_1)) = true := decide_eq_true c24
                        clear c24
                        obtain rfl := Option.some.inj H
                        have p5 : 0 ≤ (x8_1 : Int) := of_decide_eq_true (by first | (with_reducible assumption) | assumption)
                        have q5 : x8_1 < (a0.size : Int) := of_decide_eq_true (by first | (with_reducible assumption) | assumption)
                        have hx5 := bt_at a0 x8_1
                        replace p5 := eq_true p5
                        replace q5 := eq_true q5
                        go_wp2
                        go_ret
                        exact ⟨by first | rfl | (simp; done) | (simp [*]; done), by repeat (first | exact Drawn0.refl _ | apply Drawn0.step)⟩
                      · rw [if_neg c24] at H
                        have c24b0 : decide (57 < (bt a0 x8_1)) = false := decide_eq_false c24
                        clear c24
                        have H' := Aside0.mk H
                        clear H
                        have p5 : 0 ≤ (x8_1 : Int) := of_decide_eq_true (by first | (with_reducible assumption) | assumption)
                        have q5 : x8_1 < (a0.size : Int) := of_decide_eq_true (by first | (with_reducible assumption) | assumption)
                        have hx5 := bt_at a0 x8_1
                        replace p5 := eq_true p5
                        replace q5 := eq_true q5
                        go_wp2
                        go_roundg k1
                        case measure => have := HK1.out; omega
                        case rel => exact ⟨(wrap64 (x8_1 + 1)), (by first | rfl | (simp; done) | (simp [*]; done)), H', ⟨by have := HK1.out; omega⟩, by repeat (first | exact Drawn0.refl _ | apply Drawn0.step)⟩
          · rw [if_neg c4] at H
            exact absurd H (by simp)
        · rw [if_neg c3] at H
          exact absurd H (by simp)
      · rw [if_neg c2] at H
        have c2b0 : decide (x8_1 < (a0.size : Int)) = false := decide_eq_false c2
        clear c2
        obtain rfl := Option.some.inj H
        go_wp2
        go_ret
        exact ⟨by first | rfl | (simp; done) | (simp [*]; done) | (cases hl : a0.toList <;> simp [hl]; done) | (cases hl : a0.toList <;> rfl), by repeat (first | exact Drawn0.refl _ | apply Drawn0.step)⟩
end Go.Proofs.YtcedefabmelogaaGreatDoor.PFnAllowed
