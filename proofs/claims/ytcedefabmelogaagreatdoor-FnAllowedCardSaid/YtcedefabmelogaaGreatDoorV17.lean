/- What spec.Literal comes to. -/
import Derived.Test.YtcedefabmelogaaGreatDoorV02
namespace Go.Proofs.YtcedefabmelogaaGreatDoor.PFnAllowed
open Go.RowKit Go.Proofs.YtcedefabmelogaaGreatDoorW.PrintWords Go.Proofs.YtcedefabmelogaaGreatDoorW.PrintLast Go.Proofs.YtcedefabmelogaaGreatDoorW.PrintMore
attribute [local go_sem] max2_int min2_int max_two min_two max_three min_three max_four min_four   -- for this text's walks alone
set_option linter.unusedVariables false
set_option linter.unusedSimpArgs false
mutual
def spec_Literal.j0 : Nat → ByteArray → Bool → Option (Bool)
  | 0, _, _ => none
  | k + 1, x0, x18 => if x18 = true then (some false) else (spec_Literal.l0 k x0 (x0.size : Int) 0)
def spec_Literal.l0 : Nat → ByteArray → Int → Int → Option (Bool)
  | 0, _, _, _ => none
  | k + 1, x0, x20, x21 => if x21 < x20 then (if 0 ≤ x21 then (if x21 < (x0.size : Int) then (if (bt x0 x21) ≤ 32 then (some false) else (if (bt x0 x21) > 126 then (some false) else (if (bt x0 x21) = 47 then (some false) else (if (bt x0 x21) = 37 then (some false) else (if (bt x0 x21) = 123 then (some false) else (if (bt x0 x21) = 125 then (some false) else (spec_Literal.l0 k x0 x20 (wrap64 (x21 + 1))))))))) else (none)) else (none)) else (some true)
end
def spec_Literal.f (k : Nat) (a0 : ByteArray) : Option (Bool) := if a0.toList = ([] : List UInt8) then (spec_Literal.j0 k a0 true) else (if a0.toList = ([46] : List UInt8) then (spec_Literal.j0 k a0 true) else (if a0.toList = ([46, 46] : List UInt8) then (spec_Literal.j0 k a0 true) else (spec_Literal.j0 k a0 (decide ((a0.size : Int) > 16)))))
set_option maxHeartbeats 8000000 in
set_option maxRecDepth 100000 in
theorem spec_Literal.calls (k : Nat) (a0 : ByteArray) (r : Bool) (w : World) (h : spec_Literal.f k a0 = some r) :
    Calls Tryz.prog 25 #[.string a0] w fun e w' => e = .returned (.bool r) ∧ Drawn0 w w' := by
  have H : (if a0.toList = ([] : List UInt8) then (spec_Literal.j0 k a0 true) else (if a0.toList = ([46] : List UInt8) then (spec_Literal.j0 k a0 true) else (if a0.toList = ([46, 46] : List UInt8) then (spec_Literal.j0 k a0 true) else (spec_Literal.j0 k a0 (decide ((a0.size : Int) > 16)))))) = some r := h
  clear h
  have HC2 := Aside0.mk H
  clear H
  go_enter Tryz.func25, Tryz.ntmps25
  go_upto_region 1 with (fail)
  go_cut [18] (fun v18 wc => ∃ (kq : Nat) (x18_1 : Bool), v18 = .bool x18_1 ∧ Aside0 (spec_Literal.j0 kq a0 x18_1 = some r) ∧ Aside0 (kq ≤ k) ∧ Drawn0 w wc)
  case first =>
    have H := HC2.out
    clear HC2
    by_cases c3 : a0.toList = ([] : List UInt8)
    · rw [if_pos c3] at H
      have c3b0 : (a0.toList == ([] : List UInt8)) = true := beq_iff_eq.mpr c3
      have c3b1 : (a0.toList != ([] : List UInt8)) = false := bne_eq_false_iff_eq.mpr c3
      clear c3
      (first | rw [c3b0] | (simp only [i64_w, i32_w]; rw [c3b0]) | skip)
      have H' := Aside0.mk H
      clear H
      go_wp2
      go_meet
      case rel => exact ⟨_, (true), (by first | rfl | (simp; done) | (simp [*]; done)), H', ⟨by first | omega | exact Nat.le_refl _⟩, by repeat (first | exact Drawn0.refl _ | apply Drawn0.step)⟩
    · rw [if_neg c3] at H
      have c3b0 : (a0.toList == ([] : List UInt8)) = false := beq_eq_false_iff_ne.mpr c3
      have c3b1 : (a0.toList != ([] : List UInt8)) = true := bne_iff_ne.mpr c3
      (first | rw [c3b0] | (simp only [i64_w, i32_w]; rw [c3b0]) | skip)
      by_cases c4 : a0.toList = ([46] : List UInt8)
      · rw [if_pos c4] at H
        have c4b0 : (a0.toList == ([46] : List UInt8)) = true := beq_iff_eq.mpr c4
        have c4b1 : (a0.toList != ([46] : List UInt8)) = false := bne_eq_false_iff_eq.mpr c4
        clear c4
        have H' := Aside0.mk H
        clear H
        go_wp2
        go_meet
        case rel => exact ⟨_, (true), (by first | rfl | (simp; done) | (simp [*]; done)), H', ⟨by first | omega | exact Nat.le_refl _⟩, by repeat (first | exact Drawn0.refl _ | apply Drawn0.step)⟩
      · rw [if_neg c4] at H
        have c4b0 : (a0.toList == ([46] : List UInt8)) = false := beq_eq_false_iff_ne.mpr c4
        have c4b1 : (a0.toList != ([46] : List UInt8)) = true := bne_iff_ne.mpr c4
        by_cases c5 : a0.toList = ([46, 46] : List UInt8)
        · rw [if_pos c5] at H
          have c5b0 : (a0.toList == ([46, 46] : List UInt8)) = true := beq_iff_eq.mpr c5
          have c5b1 : (a0.toList != ([46, 46] : List UInt8)) = false := bne_eq_false_iff_eq.mpr c5
          clear c5
          have H' := Aside0.mk H
          clear H
          go_wp2
          go_meet
          case rel => exact ⟨_, (true), (by first | rfl | (simp; done) | (simp [*]; done)), H', ⟨by first | omega | exact Nat.le_refl _⟩, by repeat (first | exact Drawn0.refl _ | apply Drawn0.step)⟩
        · rw [if_neg c5] at H
          have c5b0 : (a0.toList == ([46, 46] : List UInt8)) = false := beq_eq_false_iff_ne.mpr c5
          have c5b1 : (a0.toList != ([46, 46] : List UInt8)) = true := bne_iff_ne.mpr c5
          have H' := Aside0.mk H
          clear H
          go_wp2
          go_meet
          case rel => exact ⟨_, (decide ((a0.size : Int) > 16)), (by first | rfl | (simp; done) | (simp [*]; done)), H', ⟨by first | omega | exact Nat.le_refl _⟩, by repeat (first | exact Drawn0.refl _ | apply Drawn0.step)⟩
  case rest =>
    clear HC2
    try clear c2
    try clear p2
    try clear c3
    try clear c3b0
    try clear c3b1
    try clear c4
    try clear c4b0
    try clear c4b1
    try clear c5
    try clear c5b0
    try clear c5b1
    obtain ⟨kq, x18_1, rfl, HA, HJ1, ⟨mc1, rfl⟩⟩ := hcut
    cases kq with
    | zero => exact absurd HA.out (by simp [spec_Literal.j0])
    | succ kj1 =>
      have H := HA.out
      clear HA
      simp only [spec_Literal.j0] at H
      by_cases c6 : x18_1 = true
      · subst c6
        have H1 : (some false) = some r := by rw [if_pos rfl] at H; exact H
        clear H
        have H := H1
        clear H1
        obtain rfl := Option.some.inj H
        go_wp2
        go_ret
        exact ⟨by first | rfl | (simp; done) | (simp [*]; done), by repeat (first | exact Drawn0.refl _ | apply Drawn0.step)⟩
      · replace c6 := Bool.eq_false_iff.mpr c6
        subst c6
        have H1 : (spec_Literal.l0 kj1 a0 (a0.size : Int) 0) = some r := by rw [if_neg (show ¬ (false = true) by decide)] at H; exact H
        clear H
        have H := H1
        clear H1
        have H' := Aside0.mk H
        clear H
        go_wp2
        go_loopg [21] kj1 (fun kq v21 w' => ∃ (x21_2 : Int), v21 = .int .i64 x21_2 ∧ Aside0 (spec_Literal.l0 kq a0 (a0.size : Int) x21_2 = some r) ∧ Aside0 (kq ≤ kj1) ∧ Drawn0 w w')
        case atStart => exact ⟨(0), (by first | rfl | (simp; done) | (simp [*]; done)), H', ⟨Nat.le_refl _⟩, by repeat (first | exact Drawn0.refl _ | apply Drawn0.step)⟩
        case round =>
          clear H'
          try clear c1
          try clear c2
          try clear p2
          try clear c3
          try clear c3b0
          try clear c3b1
          try clear c4
          try clear c4b0
          try clear c4b1
          try clear c5
          try clear c5b0
          try clear c5b1
          try clear c6
          try clear p2
          obtain ⟨x21_2, rfl, HA, HK2, ⟨m2, rfl⟩⟩ := hrel
          cases gk with
          | zero => exact absurd HA.out (by simp [spec_Literal.l0])
          | succ k2 =>
            have H := HA.out
            clear HA
            simp only [spec_Literal.l0] at H
            by_cases c7 : x21_2 < (a0.size : Int)
            · rw [if_pos c7] at H
              have c7b0 : decide (x21_2 < (a0.size : Int)) = true := decide_eq_true c7
              clear c7
              by_cases c8 : 0 ≤ x21_2
              · rw [if_pos c8] at H
                have c8b0 : decide (0 ≤ x21_2) = true := decide_eq_true c8
                clear c8
                by_cases c9 : x21_2 < (a0.size : Int)
                · rw [if_pos c9] at H
                  have c9b0 : decide (x21_2 < (a0.size : Int)) = true := decide_eq_true c9
                  clear c9
                  by_cases c11 : (bt a0 x21_2) ≤ 32
                  · rw [if_pos c11] at H
                    have c11b0 : decide ((bt a0 x21_2) ≤ 32) = true := decide_eq_true c11
                    clear c11
                    obtain rfl := Option.some.inj H
                    have p10 : 0 ≤ (x21_2 : Int) := of_decide_eq_true (by first | (with_reducible assumption) | assumption)
                    have q10 : x21_2 < (a0.size : Int) := of_decide_eq_true (by first | (with_reducible assumption) | assumption)
                    have hx10 := bt_at a0 x21_2
                    replace p10 := eq_true p10
                    replace q10 := eq_true q10
                    go_wp2
                    go_ret
                    exact ⟨by first | rfl | (simp; done) | (simp [*]; done), by repeat (first | exact Drawn0.refl _ | apply Drawn0.step)⟩
                  · rw [if_neg c11] at H
                    have c11b0 : decide ((bt a0 x21_2) ≤ 32) = false := decide_eq_false c11
                    clear c11
                    by_cases c13 : (bt a0 x21_2) > 126
                    · rw [if_pos c13] at H
                      have c13b0 : decide (126 < (bt a0 x21_2)) = true := decide_eq_true c13
                      clear c13
                      obtain rfl := Option.some.inj H
                      have p10 : 0 ≤ (x21_2 : Int) := of_decide_eq_true (by first | (with_reducible assumption) | assumption)
                      have q10 : x21_2 < (a0.size : Int) := of_decide_eq_true (by first | (with_reducible assumption) | assumption)
                      have hx10 := bt_at a0 x21_2
                      replace p10 := eq_true p10
                      replace q10 := eq_true q10
                      have p12 : 0 ≤ (x21_2 : Int) := of_decide_eq_true (by first | (with_reducible assumption) | assumption)
                      have q12 : x21_2 < (a0.size : Int) := of_decide_eq_true (by first | (with_reducible assumption) | assumption)
                      have hx12 := bt_at a0 x21_2
                      replace p12 := eq_true p12
                      replace q12 := eq_true q12
                      go_wp2
                      go_ret
                      exact ⟨by first | rfl | (simp; done) | (simp [*]; done), by repeat (first | exact Drawn0.refl _ | apply Drawn0.step)⟩
                    · rw [if_neg c13] at H
                      have c13b0 : decide (126 < (bt a0 x21_2)) = false := decide_eq_false c13
                      clear c13
                      by_cases c15 : (bt a0 x21_2) = 47
                      · rw [if_pos c15] at H
                        have c15b0 : ((bt a0 x21_2) == 47) = true := beq_iff_eq.mpr c15
                        have c15b1 : ((bt a0 x21_2) != 47) = false := bne_eq_false_iff_eq.mpr c15
                        clear c15
                        obtain rfl := Option.some.inj H
                        have p10 : 0 ≤ (x21_2 : Int) := of_decide_eq_true (by first | (with_reducible assumption) | assumption)
                        have q10 : x21_2 < (a0.size : Int) := of_decide_eq_true (by first | (with_reducible assumption) | assumption)
                        have hx10 := bt_at a0 x21_2
                        replace p10 := eq_true p10
                        replace q10 := eq_true q10
                        have p12 : 0 ≤ (x21_2 : Int) := of_decide_eq_true (by first | (with_reducible assumption) | assumption)
                        have q12 : x21_2 < (a0.size : Int) := of_decide_eq_true (by first | (with_reducible assumption) | assumption)
                        have hx12 := bt_at a0 x21_2
                        replace p12 := eq_true p12
                        replace q12 := eq_true q12
                        have p14 : 0 ≤ (x21_2 : Int) := of_decide_eq_true (by first | (with_reducible assumption) | assumption)
                        have q14 : x21_2 < (a0.size : Int) := of_decide_eq_true (by first | (with_reducible assumption) | assumption)
                        have hx14 := bt_at a0 x21_2
                        replace p14 := eq_true p14
                        replace q14 := eq_true q14
                        go_wp2
                        go_ret
                        exact ⟨by first | rfl | (simp; done) | (simp [*]; done), by repeat (first | exact Drawn0.refl _ | apply Drawn0.step)⟩
                      · rw [if_neg c15] at H
                        have c15b0 : ((bt a0 x21_2) == 47) = false := beq_eq_false_iff_ne.mpr c15
                        have c15b1 : ((bt a0 x21_2) != 47) = true := bne_iff_ne.mpr c15
                        by_cases c17 : (bt a0 x21_2) = 37
                        · rw [if_pos c17] at H
                          have c17b0 : ((bt a0 x21_2) == 37) = true := beq_iff_eq.mpr c17
                          have c17b1 : ((bt a0 x21_2) != 37) = false := bne_eq_false_iff_eq.mpr c17
                          clear c17
                          obtain rfl := Option.some.inj H
                          have p10 : 0 ≤ (x21_2 : Int) := of_decide_eq_true (by first | (with_reducible assumption) | assumption)
                          have q10 : x21_2 < (a0.size : Int) := of_decide_eq_true (by first | (with_reducible assumption) | assumption)
                          have hx10 := bt_at a0 x21_2
                          replace p10 := eq_true p10
                          replace q10 := eq_true q10
                          have p12 : 0 ≤ (x21_2 : Int) := of_decide_eq_true (by first | (with_reducible assumption) | assumption)
                          have q12 : x21_2 < (a0.size : Int) := of_decide_eq_true (by first | (with_reducible assumption) | assumption)
                          have hx12 := bt_at a0 x21_2
                          replace p12 := eq_true p12
                          replace q12 := eq_true q12
                          have p14 : 0 ≤ (x21_2 : Int) := of_decide_eq_true (by first | (with_reducible assumption) | assumption)
                          have q14 : x21_2 < (a0.size : Int) := of_decide_eq_true (by first | (with_reducible assumption) | assumption)
                          have hx14 := bt_at a0 x21_2
                          replace p14 := eq_true p14
                          replace q14 := eq_true q14
                          have p16 : 0 ≤ (x21_2 : Int) := of_decide_eq_true (by first | (with_reducible assumption) | assumption)
                          have q16 : x21_2 < (a0.size : Int) := of_decide_eq_true (by first | (with_reducible assumption) | assumption)
                          have hx16 := bt_at a0 x21_2
                          replace p16 := eq_true p16
                          replace q16 := eq_true q16
                          go_wp2
                          go_ret
                          exact ⟨by first | rfl | (simp; done) | (simp [*]; done), by repeat (first | exact Drawn0.refl _ | apply Drawn0.step)⟩
                        · rw [if_neg c17] at H
                          have c17b0 : ((bt a0 x21_2) == 37) = false := beq_eq_false_iff_ne.mpr c17
                          have c17b1 : ((bt a0 x21_2) != 37) = true := bne_iff_ne.mpr c17
                          by_cases c19 : (bt a0 x21_2) = 123
                          · rw [if_pos c19] at H
                            have c19b0 : ((bt a0 x21_2) == 123) = true := beq_iff_eq.mpr c19
                            have c19b1 : ((bt a0 x21_2) != 123) = false := bne_eq_false_iff_eq.mpr c19
                            clear c19
                            obtain rfl := Option.some.inj H
                            have p10 : 0 ≤ (x21_2 : Int) := of_decide_eq_true (by first | (with_reducible assumption) | assumption)
                            have q10 : x21_2 < (a0.size : Int) := of_decide_eq_true (by first | (with_reducible assumption) | assumption)
                            have hx10 := bt_at a0 x21_2
                            replace p10 := eq_true p10
                            replace q10 := eq_true q10
                            have p12 : 0 ≤ (x21_2 : Int) := of_decide_eq_true (by first | (with_reducible assumption) | assumption)
                            have q12 : x21_2 < (a0.size : Int) := of_decide_eq_true (by first | (with_reducible assumption) | assumption)
                            have hx12 := bt_at a0 x21_2
                            replace p12 := eq_true p12
                            replace q12 := eq_true q12
                            have p14 : 0 ≤ (x21_2 : Int) := of_decide_eq_true (by first | (with_reducible assumption) | assumption)
                            have q14 : x21_2 < (a0.size : Int) := of_decide_eq_true (by first | (with_reducible assumption) | assumption)
                            have hx14 := bt_at a0 x21_2
                            replace p14 := eq_true p14
                            replace q14 := eq_true q14
                            have p16 : 0 ≤ (x21_2 : Int) := of_decide_eq_true (by first | (with_reducible assumption) | assumption)
                            have q16 : x21_2 < (a0.size : Int) := of_decide_eq_true (by first | (with_reducible assumption) | assumption)
                            have hx16 := bt_at a0 x21_2
                            replace p16 := eq_true p16
                            replace q16 := eq_true q16
                            have p18 : 0 ≤ (x21_2 : Int) := of_decide_eq_true (by first | (with_reducible assumption) | assumption)
                            have q18 : x21_2 < (a0.size : Int) := of_decide_eq_true (by first | (with_reducible assumption) | assumption)
                            have hx18 := bt_at a0 x21_2
                            replace p18 := eq_true p18
                            replace q18 := eq_true q18
                            go_wp2
                            go_ret
                            exact ⟨by first | rfl | (simp; done) | (simp [*]; done), by repeat (first | exact Drawn0.refl _ | apply Drawn0.step)⟩
                          · rw [if_neg c19] at H
                            have c19b0 : ((bt a0 x21_2) == 123) = false := beq_eq_false_iff_ne.mpr c19
                            have c19b1 : ((bt a0 x21_2) != 123) = true := bne_iff_ne.mpr c19
                            by_cases c21 : (bt a0 x21_2) = 125
                            · rw [if_pos c21] at H
                              have c21b0 : ((bt a0 x21_2) == 125) = true := beq_iff_eq.mpr c21
                              have c21b1 : ((bt a0 x21_2) != 125) = false := bne_eq_false_iff_eq.mpr c21
                              clear c21
                              obtain rfl := Option.some.inj H
                              have p10 : 0 ≤ (x21_2 : Int) := of_decide_eq_true (by first | (with_reducible assumption) | assumption)
                              have q10 : x21_2 < (a0.size : Int) := of_decide_eq_true (by first | (with_reducible assumption) | assumption)
                              have hx10 := bt_at a0 x21_2
                              replace p10 := eq_true p10
                              replace q10 := eq_true q10
                              have p12 : 0 ≤ (x21_2 : Int) := of_decide_eq_true (by first | (with_reducible assumption) | assumption)
                              have q12 : x21_2 < (a0.size : Int) := of_decide_eq_true (by first | (with_reducible assumption) | assumption)
                              have hx12 := bt_at a0 x21_2
                              replace p12 := eq_true p12
                              replace q12 := eq_true q12
                              have p14 : 0 ≤ (x21_2 : Int) := of_decide_eq_true (by first | (with_reducible assumption) | assumption)
                              have q14 : x21_2 < (a0.size : Int) := of_decide_eq_true (by first | (with_reducible assumption) | assumption)
                              have hx14 := bt_at a0 x21_2
                              replace p14 := eq_true p14
                              replace q14 := eq_true q14
                              have p16 : 0 ≤ (x21_2 : Int) := of_decide_eq_true (by first | (with_reducible assumption) | assumption)
                              have q16 : x21_2 < (a0.size : Int) := of_decide_eq_true (by first | (with_reducible assumption) | assumption)
                              have hx16 := bt_at a0 x21_2
                              replace p16 := eq_true p16
                              replace q16 := eq_true q16
                              have p18 : 0 ≤ (x21_2 : Int) := of_decide_eq_true (by first | (with_reducible assumption) | assumption)
                              have q18 : x21_2 < (a0.size : Int) := of_decide_eq_true (by first | (with_reducible assumption) | assumption)
                              have hx18 := bt_at a0 x21_2
                              replace p18 := eq_true p18
                              replace q18 := eq_true q18
                              have p20 : 0 ≤ (x21_2 : Int) := of_decide_eq_true (by first | (with_reducible assumption) | assumption)
                              have q20 : x21_2 < (a0.size : Int) := of_decide_eq_true (by first | (with_reducible assumption) | assumption)
                              have hx20 := bt_at a0 x21_2
                              replace p20 := eq_true p20
                              replace q20 := eq_true q20
                              go_wp2
                              go_ret
                              exact ⟨by first | rfl | (simp; done) | (simp [*]; done), by repeat (first | exact Drawn0.refl _ | apply Drawn0.step)⟩
                            · rw [if_neg c21] at H
                              have c21b0 : ((bt a0 x21_2) == 125) = false := beq_eq_false_iff_ne.mpr c21
                              have c21b1 : ((bt a0 x21_2) != 125) = true := bne_iff_ne.mpr c21
                              have H' := Aside0.mk H
                              clear H
                              have p10 : 0 ≤ (x21_2 : Int) := of_decide_eq_true (by first | (with_reducible assumption) | assumption)
                              have q10 : x21_2 < (a0.size : Int) := of_decide_eq_true (by first | (with_reducible assumption) | assumption)
                              have hx10 := bt_at a0 x21_2
                              replace p10 := eq_true p10
                              replace q10 := eq_true q10
                              have p12 : 0 ≤ (x21_2 : Int) := of_decide_eq_true (by first | (with_reducible assumption) | assumption)
                              have q12 : x21_2 < (a0.size : Int) := of_decide_eq_true (by first | (with_reducible assumption) | assumption)
                              have hx12 := bt_at a0 x21_2
                              replace p12 := eq_true p12
                              replace q12 := eq_true q12
                              have p14 : 0 ≤ (x21_2 : Int) := of_decide_eq_true (by first | (with_reducible assumption) | assumption)
                              have q14 : x21_2 < (a0.size : Int) := of_decide_eq_true (by first | (with_reducible assumption) | assumption)
                              have hx14 := bt_at a0 x21_2
                              replace p14 := eq_true p14
                              replace q14 := eq_true q14
                              have p16 : 0 ≤ (x21_2 : Int) := of_decide_eq_true (by first | (with_reducible assumption) | assumption)
                              have q16 : x21_2 < (a0.size : Int) := of_decide_eq_true (by first | (with_reducible assumption) | assumption)
                              have hx16 := bt_at a0 x21_2
                              replace p16 := eq_true p16
                              replace q16 := eq_true q16
                              have p18 : 0 ≤ (x21_2 : Int) := of_decide_eq_true (by first | (with_reducible assumption) | assumption)
                              have q18 : x21_2 < (a0.size : Int) := of_decide_eq_true (by first | (with_reducible assumption) | assumption)
                              have hx18 := bt_at a0 x21_2
                              replace p18 := eq_true p18
                              replace q18 := eq_true q18
                              have p20 : 0 ≤ (x21_2 : Int) := of_decide_eq_true (by first | (with_reducible assumption) | assumption)
                              have q20 : x21_2 < (a0.size : Int) := of_decide_eq_true (by first | (with_reducible assumption) | assumption)
                              have hx20 := bt_at a0 x21_2
                              replace p20 := eq_true p20
                              replace q20 := eq_true q20
                              go_wp2
                              go_roundg k2
                              case measure => have := HJ1.out; have := HK2.out; omega
                              case rel => exact ⟨(wrap64 (x21_2 + 1)), (by first | rfl | (simp; done) | (simp [*]; done)), H', ⟨by have := HJ1.out; have := HK2.out; omega⟩, by repeat (first | exact Drawn0.refl _ | apply Drawn0.step)⟩
                · rw [if_neg c9] at H
                  exact absurd H (by simp)
              · rw [if_neg c8] at H
                exact absurd H (by simp)
            · rw [if_neg c7] at H
              have c7b0 : decide (x21_2 < (a0.size : Int)) = false := decide_eq_false c7
              clear c7
              obtain rfl := Option.some.inj H
              go_wp2
              go_ret
              exact ⟨by first | rfl | (simp; done) | (simp [*]; done), by repeat (first | exact Drawn0.refl _ | apply Drawn0.step)⟩
end Go.Proofs.YtcedefabmelogaaGreatDoor.PFnAllowed
