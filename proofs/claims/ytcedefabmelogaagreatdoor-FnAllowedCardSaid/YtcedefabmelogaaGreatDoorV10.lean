/- The text of a program (the kit's print) for the functions named below, mended where it fell: what each function of the given Go program comes to. -/
import Derived.Test.YtcedefabmelogaaGreatDoorV02
namespace Go.Proofs.YtcedefabmelogaaGreatDoor.PFnAllowed
open Go.RowKit Go.Proofs.YtcedefabmelogaaGreatDoorW.PrintWords Go.Proofs.YtcedefabmelogaaGreatDoorW.PrintLast Go.Proofs.YtcedefabmelogaaGreatDoorW.PrintMore
attribute [local go_sem] max2_int min2_int max_two min_two max_three min_three max_four min_four   -- for this text's walks alone
set_option linter.unusedVariables false
set_option linter.unusedSimpArgs false
def spec_Combine.j0 : Nat → ByteArray → ByteArray → Bool → Option (ByteArray)
  | 0, _, _, _ => none
  | k + 1, x0, x1, x5 => if x5 = true then (some (⟨#[100, 105, 115, 106, 111, 105, 110, 116]⟩ : ByteArray)) else (if x0.toList = ([101, 113, 117, 105, 118, 97, 108, 101, 110, 116] : List UInt8) then (some x1) else (if x1.toList = ([101, 113, 117, 105, 118, 97, 108, 101, 110, 116] : List UInt8) then (some x0) else (if x0.toList = x1.toList then (some x0) else (some (⟨#[111, 118, 101, 114, 108, 97, 112, 115]⟩ : ByteArray)))))
def spec_Combine.f (k : Nat) (a0 : ByteArray) (a1 : ByteArray) : Option (ByteArray) := if a0.toList = ([100, 105, 115, 106, 111, 105, 110, 116] : List UInt8) then (spec_Combine.j0 k a0 a1 true) else (spec_Combine.j0 k a0 a1 (a1.toList == ([100, 105, 115, 106, 111, 105, 110, 116] : List UInt8)))
theorem spec_Combine.mono_l : ∀ k, (∀ y0 y1 y2, LeO (spec_Combine.j0 k y0 y1 y2) (spec_Combine.j0 (k + 1) y0 y1 y2))
  | 0 => fun _ _ _ r h => by simp [spec_Combine.j0] at h
  | k + 1 => by
    have ih0 := spec_Combine.mono_l k
    · intro y0 y1 y2
      unfold spec_Combine.j0
      repeat' first
      | (with_reducible exact ih0 _ _ _)
      | (with_reducible exact LeO.refl _)
      | (with_reducible exact LeO.none _)
      | (with_reducible refine LeO.ite ?_ ?_)
      | (with_reducible refine LeO.bind ?_ (fun _ => ?_))
      | exact ih0 _ _ _
      | exact LeO.none _
      | refine LeO.ite ?_ ?_
      | refine LeO.bind ?_ (fun _ => ?_)
theorem spec_Combine.mono : ∀ a0 a1 k, LeO (spec_Combine.f k a0 a1) (spec_Combine.f (k + 1) a0 a1) := by
  intro a0 a1 k
  have ih0 := spec_Combine.mono_l k
  unfold spec_Combine.f
  repeat' first
      | (with_reducible exact ih0 _ _ _)
      | (with_reducible exact LeO.refl _)
      | (with_reducible exact LeO.none _)
      | (with_reducible refine LeO.ite ?_ ?_)
      | (with_reducible refine LeO.bind ?_ (fun _ => ?_))
      | exact ih0 _ _ _
      | exact LeO.none _
      | refine LeO.ite ?_ ?_
      | refine LeO.bind ?_ (fun _ => ?_)
set_option maxHeartbeats 8000000 in
set_option maxRecDepth 100000 in
theorem spec_Combine.calls (k : Nat) (a0 : ByteArray) (a1 : ByteArray) (r : ByteArray) (w : World) (h : spec_Combine.f k a0 a1 = some r) :
    Calls Tryz.prog 26 #[.string a0, .string a1] w fun e w' => e = .returned (.string r) ∧ Drawn0 w w' := by
  have H : (if a0.toList = ([100, 105, 115, 106, 111, 105, 110, 116] : List UInt8) then (spec_Combine.j0 k a0 a1 true) else (spec_Combine.j0 k a0 a1 (a1.toList == ([100, 105, 115, 106, 111, 105, 110, 116] : List UInt8)))) = some r := h
  clear h
  have HC3 := Aside0.mk H
  clear H
  go_enter Tryz.func26, Tryz.ntmps26
  go_upto_region 1 with (fail)
  go_cut [5] (fun v5 wc => ∃ (kq : Nat) (x5_2 : Bool), v5 = .bool x5_2 ∧ Aside0 (spec_Combine.j0 kq a0 a1 x5_2 = some r) ∧ Aside0 (kq ≤ k) ∧ Drawn0 w wc)
  case first =>
    have H := HC3.out
    clear HC3
    by_cases c4 : a0.toList = ([100, 105, 115, 106, 111, 105, 110, 116] : List UInt8)
    · rw [if_pos c4] at H
      have c4b0 : (a0.toList == ([100, 105, 115, 106, 111, 105, 110, 116] : List UInt8)) = true := beq_iff_eq.mpr c4
      have c4b1 : (a0.toList != ([100, 105, 115, 106, 111, 105, 110, 116] : List UInt8)) = false := bne_eq_false_iff_eq.mpr c4
      clear c4
      (first | rw [c4b0] | (simp only [i64_w, i32_w]; rw [c4b0]) | skip)
      have H' := Aside0.mk H
      clear H
      go_wp2
      go_meet
      case rel => exact ⟨_, (true), (by first | rfl | (simp; done) | (simp [*]; done)), H', ⟨by first | omega | exact Nat.le_refl _⟩, by repeat (first | exact Drawn0.refl _ | apply Drawn0.step)⟩
    · rw [if_neg c4] at H
      have c4b0 : (a0.toList == ([100, 105, 115, 106, 111, 105, 110, 116] : List UInt8)) = false := beq_eq_false_iff_ne.mpr c4
      have c4b1 : (a0.toList != ([100, 105, 115, 106, 111, 105, 110, 116] : List UInt8)) = true := bne_iff_ne.mpr c4
      (first | rw [c4b0] | (simp only [i64_w, i32_w]; rw [c4b0]) | skip)
      have H' := Aside0.mk H
      clear H
      go_wp2
      go_meet
      case rel => exact ⟨_, ((a1.toList == ([100, 105, 115, 106, 111, 105, 110, 116] : List UInt8))), (by first | rfl | (simp; done) | (simp [*]; done)), H', ⟨by first | omega | exact Nat.le_refl _⟩, by repeat (first | exact Drawn0.refl _ | apply Drawn0.step)⟩
  case rest =>
    clear HC3
    try clear c2
    try clear p2
    try clear c4
    try clear c4b0
    try clear c4b1
    obtain ⟨kq, x5_2, rfl, HA, HJ2, ⟨mc2, rfl⟩⟩ := hcut
    cases kq with
    | zero => exact absurd HA.out (by simp [spec_Combine.j0])
    | succ kj2 =>
      have H := HA.out
      clear HA
      simp only [spec_Combine.j0] at H
      by_cases c5 : x5_2 = true
      · subst c5
        have H1 : (some (⟨#[100, 105, 115, 106, 111, 105, 110, 116]⟩ : ByteArray)) = some r := by rw [if_pos rfl] at H; exact H
        clear H
        have H := H1
        clear H1
        obtain rfl := Option.some.inj H
        go_wp2
        go_ret
        exact ⟨by first | rfl | (simp; done) | (simp [*]; done), by repeat (first | exact Drawn0.refl _ | apply Drawn0.step)⟩
      · replace c5 := Bool.eq_false_iff.mpr c5
        subst c5
        have H1 : (if a0.toList = ([101, 113, 117, 105, 118, 97, 108, 101, 110, 116] : List UInt8) then (some a1) else (if a1.toList = ([101, 113, 117, 105, 118, 97, 108, 101, 110, 116] : List UInt8) then (some a0) else (if a0.toList = a1.toList then (some a0) else (some (⟨#[111, 118, 101, 114, 108, 97, 112, 115]⟩ : ByteArray))))) = some r := by rw [if_neg (show ¬ (false = true) by decide)] at H; exact H
        clear H
        have H := H1
        clear H1
        by_cases c6 : a0.toList = ([101, 113, 117, 105, 118, 97, 108, 101, 110, 116] : List UInt8)
        · rw [if_pos c6] at H
          have c6b0 : (a0.toList == ([101, 113, 117, 105, 118, 97, 108, 101, 110, 116] : List UInt8)) = true := beq_iff_eq.mpr c6
          have c6b1 : (a0.toList != ([101, 113, 117, 105, 118, 97, 108, 101, 110, 116] : List UInt8)) = false := bne_eq_false_iff_eq.mpr c6
          clear c6
          obtain rfl := Option.some.inj H
          go_wp2
          go_ret
          exact ⟨by first | rfl | (simp; done) | (simp [*]; done), by repeat (first | exact Drawn0.refl _ | apply Drawn0.step)⟩
        · rw [if_neg c6] at H
          have c6b0 : (a0.toList == ([101, 113, 117, 105, 118, 97, 108, 101, 110, 116] : List UInt8)) = false := beq_eq_false_iff_ne.mpr c6
          have c6b1 : (a0.toList != ([101, 113, 117, 105, 118, 97, 108, 101, 110, 116] : List UInt8)) = true := bne_iff_ne.mpr c6
          by_cases c7 : a1.toList = ([101, 113, 117, 105, 118, 97, 108, 101, 110, 116] : List UInt8)
          · rw [if_pos c7] at H
            have c7b0 : (a1.toList == ([101, 113, 117, 105, 118, 97, 108, 101, 110, 116] : List UInt8)) = true := beq_iff_eq.mpr c7
            have c7b1 : (a1.toList != ([101, 113, 117, 105, 118, 97, 108, 101, 110, 116] : List UInt8)) = false := bne_eq_false_iff_eq.mpr c7
            clear c7
            obtain rfl := Option.some.inj H
            go_wp2
            go_ret
            exact ⟨by first | rfl | (simp; done) | (simp [*]; done), by repeat (first | exact Drawn0.refl _ | apply Drawn0.step)⟩
          · rw [if_neg c7] at H
            have c7b0 : (a1.toList == ([101, 113, 117, 105, 118, 97, 108, 101, 110, 116] : List UInt8)) = false := beq_eq_false_iff_ne.mpr c7
            have c7b1 : (a1.toList != ([101, 113, 117, 105, 118, 97, 108, 101, 110, 116] : List UInt8)) = true := bne_iff_ne.mpr c7
            by_cases c8 : a0.toList = a1.toList
            · rw [if_pos c8] at H
              have c8b0 : (a0.toList == a1.toList) = true := beq_iff_eq.mpr c8
              have c8b1 : (a0.toList != a1.toList) = false := bne_eq_false_iff_eq.mpr c8
              clear c8
              obtain rfl := Option.some.inj H
              go_wp2
              go_ret
              exact ⟨by first | rfl | (simp; done) | (simp [*]; done), by repeat (first | exact Drawn0.refl _ | apply Drawn0.step)⟩
            · rw [if_neg c8] at H
              have c8b0 : (a0.toList == a1.toList) = false := beq_eq_false_iff_ne.mpr c8
              have c8b1 : (a0.toList != a1.toList) = true := bne_iff_ne.mpr c8
              obtain rfl := Option.some.inj H
              go_wp2
              go_ret
              exact ⟨by first | rfl | (simp; done) | (simp [*]; done), by repeat (first | exact Drawn0.refl _ | apply Drawn0.step)⟩
def spec_ByMethods.j0 : Nat → ByteArray → ByteArray → Bool → Option (ByteArray)
  | 0, _, _, _ => none
  | k + 1, x0, x1, x9 => if x9 = true then (some (⟨#[109, 111, 114, 101, 71, 101, 110, 101, 114, 97, 108]⟩ : ByteArray)) else (if x1.toList = ([] : List UInt8) then (some (⟨#[109, 111, 114, 101, 83, 112, 101, 99, 105, 102, 105, 99]⟩ : ByteArray)) else (if x1.toList = ([71, 69, 84] : List UInt8) then (if x0.toList = ([72, 69, 65, 68] : List UInt8) then (some (⟨#[109, 111, 114, 101, 83, 112, 101, 99, 105, 102, 105, 99]⟩ : ByteArray)) else (some (⟨#[100, 105, 115, 106, 111, 105, 110, 116]⟩ : ByteArray))) else (some (⟨#[100, 105, 115, 106, 111, 105, 110, 116]⟩ : ByteArray))))
def spec_ByMethods.f (k : Nat) (a0 : ByteArray) (a1 : ByteArray) : Option (ByteArray) := if a0.toList = a1.toList then (some (⟨#[101, 113, 117, 105, 118, 97, 108, 101, 110, 116]⟩ : ByteArray)) else (if a0.toList = ([] : List UInt8) then (spec_ByMethods.j0 k a0 a1 true) else (if a0.toList = ([71, 69, 84] : List UInt8) then (spec_ByMethods.j0 k a0 a1 (a1.toList == ([72, 69, 65, 68] : List UInt8))) else (spec_ByMethods.j0 k a0 a1 false)))
theorem spec_ByMethods.mono_l : ∀ k, (∀ y0 y1 y2, LeO (spec_ByMethods.j0 k y0 y1 y2) (spec_ByMethods.j0 (k + 1) y0 y1 y2))
  | 0 => fun _ _ _ r h => by simp [spec_ByMethods.j0] at h
  | k + 1 => by
    have ih0 := spec_ByMethods.mono_l k
    · intro y0 y1 y2
      unfold spec_ByMethods.j0
      repeat' first
      | (with_reducible exact ih0 _ _ _)
      | (with_reducible exact LeO.refl _)
      | (with_reducible exact LeO.none _)
      | (with_reducible refine LeO.ite ?_ ?_)
      | (with_reducible refine LeO.bind ?_ (fun _ => ?_))
      | exact ih0 _ _ _
      | exact LeO.none _
      | refine LeO.ite ?_ ?_
      | refine LeO.bind ?_ (fun _ => ?_)
theorem spec_ByMethods.mono : ∀ a0 a1 k, LeO (spec_ByMethods.f k a0 a1) (spec_ByMethods.f (k + 1) a0 a1) := by
  intro a0 a1 k
  have ih0 := spec_ByMethods.mono_l k
  unfold spec_ByMethods.f
  repeat' first
      | (with_reducible exact ih0 _ _ _)
      | (with_reducible exact LeO.refl _)
      | (with_reducible exact LeO.none _)
      | (with_reducible refine LeO.ite ?_ ?_)
      | (with_reducible refine LeO.bind ?_ (fun _ => ?_))
      | exact ih0 _ _ _
      | exact LeO.none _
      | refine LeO.ite ?_ ?_
      | refine LeO.bind ?_ (fun _ => ?_)
set_option maxHeartbeats 8000000 in
set_option maxRecDepth 100000 in
theorem spec_ByMethods.calls (k : Nat) (a0 : ByteArray) (a1 : ByteArray) (r : ByteArray) (w : World) (h : spec_ByMethods.f k a0 a1 = some r) :
    Calls Tryz.prog 27 #[.string a0, .string a1] w fun e w' => e = .returned (.string r) ∧ Drawn0 w w' := by
  have H : (if a0.toList = a1.toList then (some (⟨#[101, 113, 117, 105, 118, 97, 108, 101, 110, 116]⟩ : ByteArray)) else (if a0.toList = ([] : List UInt8) then (spec_ByMethods.j0 k a0 a1 true) else (if a0.toList = ([71, 69, 84] : List UInt8) then (spec_ByMethods.j0 k a0 a1 (a1.toList == ([72, 69, 65, 68] : List UInt8))) else (spec_ByMethods.j0 k a0 a1 false)))) = some r := h
  clear h
  by_cases c3 : a0.toList = a1.toList
  · rw [if_pos c3] at H
    have c3b0 : (a0.toList == a1.toList) = true := beq_iff_eq.mpr c3
    have c3b1 : (a0.toList != a1.toList) = false := bne_eq_false_iff_eq.mpr c3
    clear c3
    obtain rfl := Option.some.inj H
    go_enter Tryz.func27, Tryz.ntmps27
    go_wp2
    go_ret
    exact ⟨by first | rfl | (simp; done) | (simp [*]; done), by repeat (first | exact Drawn0.refl _ | apply Drawn0.step)⟩
  · rw [if_neg c3] at H
    have c3b0 : (a0.toList == a1.toList) = false := beq_eq_false_iff_ne.mpr c3
    have c3b1 : (a0.toList != a1.toList) = true := bne_iff_ne.mpr c3
    have HC4 := Aside0.mk H
    clear H
    go_enter Tryz.func27, Tryz.ntmps27
    go_upto_region 3 with (fail)
    go_cut [9] (fun v9 wc => ∃ (kq : Nat) (x9_3 : Bool), v9 = .bool x9_3 ∧ Aside0 (spec_ByMethods.j0 kq a0 a1 x9_3 = some r) ∧ Aside0 (kq ≤ k) ∧ Drawn0 w wc)
    case first =>
      have H := HC4.out
      clear HC4
      by_cases c5 : a0.toList = ([] : List UInt8)
      · rw [if_pos c5] at H
        have c5b0 : (a0.toList == ([] : List UInt8)) = true := beq_iff_eq.mpr c5
        have c5b1 : (a0.toList != ([] : List UInt8)) = false := bne_eq_false_iff_eq.mpr c5
        clear c5
        (first | rw [c5b0] | (simp only [i64_w, i32_w]; rw [c5b0]) | skip)
        have H' := Aside0.mk H
        clear H
        go_wp2
        go_meet
        case rel => exact ⟨_, (true), (by first | rfl | (simp; done) | (simp [*]; done)), H', ⟨by first | omega | exact Nat.le_refl _⟩, by repeat (first | exact Drawn0.refl _ | apply Drawn0.step)⟩
      · rw [if_neg c5] at H
        have c5b0 : (a0.toList == ([] : List UInt8)) = false := beq_eq_false_iff_ne.mpr c5
        have c5b1 : (a0.toList != ([] : List UInt8)) = true := bne_iff_ne.mpr c5
        (first | rw [c5b0] | (simp only [i64_w, i32_w]; rw [c5b0]) | skip)
        by_cases c6 : a0.toList = ([71, 69, 84] : List UInt8)
        · rw [if_pos c6] at H
          have c6b0 : (a0.toList == ([71, 69, 84] : List UInt8)) = true := beq_iff_eq.mpr c6
          have c6b1 : (a0.toList != ([71, 69, 84] : List UInt8)) = false := bne_eq_false_iff_eq.mpr c6
          clear c6
          have H' := Aside0.mk H
          clear H
          go_wp2
          go_meet
          case rel => exact ⟨_, ((a1.toList == ([72, 69, 65, 68] : List UInt8))), (by first | rfl | (simp; done) | (simp [*]; done)), H', ⟨by first | omega | exact Nat.le_refl _⟩, by repeat (first | exact Drawn0.refl _ | apply Drawn0.step)⟩
        · rw [if_neg c6] at H
          have c6b0 : (a0.toList == ([71, 69, 84] : List UInt8)) = false := beq_eq_false_iff_ne.mpr c6
          have c6b1 : (a0.toList != ([71, 69, 84] : List UInt8)) = true := bne_iff_ne.mpr c6
          have H' := Aside0.mk H
          clear H
          go_wp2
          go_meet
          case rel => exact ⟨_, (false), (by first | rfl | (simp; done) | (simp [*]; done)), H', ⟨by first | omega | exact Nat.le_refl _⟩, by repeat (first | exact Drawn0.refl _ | apply Drawn0.step)⟩
    case rest =>
      clear HC4
      try clear c2
      try clear p2
      try clear c3
      try clear c3b0
      try clear c3b1
      try clear c5
      try clear c5b0
      try clear c5b1
      try clear c6
      try clear c6b0
      try clear c6b1
      obtain ⟨kq, x9_3, rfl, HA, HJ3, ⟨mc3, rfl⟩⟩ := hcut
      cases kq with
      | zero => exact absurd HA.out (by simp [spec_ByMethods.j0])
      | succ kj3 =>
        have H := HA.out
        clear HA
        simp only [spec_ByMethods.j0] at H
        by_cases c7 : x9_3 = true
        · subst c7
          have H1 : (some (⟨#[109, 111, 114, 101, 71, 101, 110, 101, 114, 97, 108]⟩ : ByteArray)) = some r := by rw [if_pos rfl] at H; exact H
          clear H
          have H := H1
          clear H1
          obtain rfl := Option.some.inj H
          go_wp2
          go_ret
          exact ⟨by first | rfl | (simp; done) | (simp [*]; done), by repeat (first | exact Drawn0.refl _ | apply Drawn0.step)⟩
        · replace c7 := Bool.eq_false_iff.mpr c7
          subst c7
          have H1 : (if a1.toList = ([] : List UInt8) then (some (⟨#[109, 111, 114, 101, 83, 112, 101, 99, 105, 102, 105, 99]⟩ : ByteArray)) else (if a1.toList = ([71, 69, 84] : List UInt8) then (if a0.toList = ([72, 69, 65, 68] : List UInt8) then (some (⟨#[109, 111, 114, 101, 83, 112, 101, 99, 105, 102, 105, 99]⟩ : ByteArray)) else (some (⟨#[100, 105, 115, 106, 111, 105, 110, 116]⟩ : ByteArray))) else (some (⟨#[100, 105, 115, 106, 111, 105, 110, 116]⟩ : ByteArray)))) = some r := by rw [if_neg (show ¬ (false = true) by decide)] at H; exact H
          clear H
          have H := H1
          clear H1
          by_cases c8 : a1.toList = ([] : List UInt8)
          · rw [if_pos c8] at H
            have c8b0 : (a1.toList == ([] : List UInt8)) = true := beq_iff_eq.mpr c8
            have c8b1 : (a1.toList != ([] : List UInt8)) = false := bne_eq_false_iff_eq.mpr c8
            clear c8
            obtain rfl := Option.some.inj H
            go_wp2
            go_ret
            exact ⟨by first | rfl | (simp; done) | (simp [*]; done), by repeat (first | exact Drawn0.refl _ | apply Drawn0.step)⟩
          · rw [if_neg c8] at H
            have c8b0 : (a1.toList == ([] : List UInt8)) = false := beq_eq_false_iff_ne.mpr c8
            have c8b1 : (a1.toList != ([] : List UInt8)) = true := bne_iff_ne.mpr c8
            by_cases c9 : a1.toList = ([71, 69, 84] : List UInt8)
            · rw [if_pos c9] at H
              have c9b0 : (a1.toList == ([71, 69, 84] : List UInt8)) = true := beq_iff_eq.mpr c9
              have c9b1 : (a1.toList != ([71, 69, 84] : List UInt8)) = false := bne_eq_false_iff_eq.mpr c9
              clear c9
              by_cases c10 : a0.toList = ([72, 69, 65, 68] : List UInt8)
              · rw [if_pos c10] at H
                have c10b0 : (a0.toList == ([72, 69, 65, 68] : List UInt8)) = true := beq_iff_eq.mpr c10
                have c10b1 : (a0.toList != ([72, 69, 65, 68] : List UInt8)) = false := bne_eq_false_iff_eq.mpr c10
                clear c10
                obtain rfl := Option.some.inj H
                go_wp2
                go_ret
                exact ⟨by first | rfl | (simp; done) | (simp [*]; done), by repeat (first | exact Drawn0.refl _ | apply Drawn0.step)⟩
              · rw [if_neg c10] at H
                have c10b0 : (a0.toList == ([72, 69, 65, 68] : List UInt8)) = false := beq_eq_false_iff_ne.mpr c10
                have c10b1 : (a0.toList != ([72, 69, 65, 68] : List UInt8)) = true := bne_iff_ne.mpr c10
                obtain rfl := Option.some.inj H
                go_wp2
                go_ret
                exact ⟨by first | rfl | (simp; done) | (simp [*]; done), by repeat (first | exact Drawn0.refl _ | apply Drawn0.step)⟩
            · rw [if_neg c9] at H
              have c9b0 : (a1.toList == ([71, 69, 84] : List UInt8)) = false := beq_eq_false_iff_ne.mpr c9
              have c9b1 : (a1.toList != ([71, 69, 84] : List UInt8)) = true := bne_iff_ne.mpr c9
              obtain rfl := Option.some.inj H
              go_wp2
              go_ret
              exact ⟨by first | rfl | (simp; done) | (simp [*]; done), by repeat (first | exact Drawn0.refl _ | apply Drawn0.step)⟩
end Go.Proofs.YtcedefabmelogaaGreatDoor.PFnAllowed
