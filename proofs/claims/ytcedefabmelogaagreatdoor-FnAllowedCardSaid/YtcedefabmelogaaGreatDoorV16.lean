/- What spec.Items and spec.Host come to. -/
import Derived.Test.YtcedefabmelogaaGreatDoorV02
import Derived.Test.YtcedefabmelogaaGreatDoorV15
namespace Go.Proofs.YtcedefabmelogaaGreatDoor.PFnAllowed
open Go.RowKit Go.Proofs.YtcedefabmelogaaGreatDoorW.PrintWords Go.Proofs.YtcedefabmelogaaGreatDoorW.PrintLast Go.Proofs.YtcedefabmelogaaGreatDoorW.PrintMore
attribute [local go_sem] max2_int min2_int max_two min_two max_three min_three max_four min_four   -- for this text's walks alone
set_option linter.unusedVariables false
set_option linter.unusedSimpArgs false
mutual
def spec_Items.j0 : Nat → ByteArray → Bool → Option (List ByteArray × Bool)
  | 0, _, _ => none
  | k + 1, x0, x22 => if x22 = true then (some (([] : List ByteArray), false)) else (spec_Items.l0 k x0 (([] : List ByteArray)) 1 1)
def spec_Items.l0 : Nat → ByteArray → List ByteArray → Int → Int → Option (List ByteArray × Bool)
  | 0, _, _, _, _ => none
  | k + 1, x0, x4, x5, x6 => if x6 ≤ (x0.size : Int) then (if x6 < (x0.size : Int) then (if 0 ≤ x6 then (spec_Items.j2 k x0 x4 x5 x6 ((bt x0 x6) != 47)) else (none)) else (spec_Items.j2 k x0 x4 x5 x6 false)) else (some (x4, true))
def spec_Items.j2 : Nat → ByteArray → List ByteArray → Int → Int → Bool → Option (List ByteArray × Bool)
  | 0, _, _, _, _, _ => none
  | k + 1, x0, x4, x5, x6, x39 => if x39 = true then (spec_Items.l0 k x0 x4 x5 (wrap64 (x6 + 1))) else (if x6 > x5 then (if 0 ≤ x5 then (if x5 ≤ x6 then (if x6 ≤ (x0.size : Int) then (if x4.length < 8796093022208 then (spec_Items.l0 k x0 (x4 ++ [x0.extract (x5 : Int).toNat (x6 : Int).toNat]) (wrap64 (x6 + 1)) (wrap64 (x6 + 1))) else (none)) else (none)) else (none)) else (none)) else (if x6 = (x0.size : Int) then (if x4.length < 8796093022208 then (spec_Items.l0 k x0 (x4 ++ [(⟨#[47]⟩ : ByteArray)]) (wrap64 (x6 + 1)) (wrap64 (x6 + 1))) else (none)) else (some (([] : List ByteArray), false))))
end
def spec_Items.f (k : Nat) (a0 : ByteArray) : Option (List ByteArray × Bool) := if a0.toList = ([] : List UInt8) then (spec_Items.j0 k a0 true) else (if 0 < (a0.size : Int) then (if (bt a0 0) = 47 then (if (a0.size : Int) > 120 then (spec_Items.j0 k a0 true) else ((spec_has.f k a0 37).bind fun t131 => (spec_Items.j0 k a0 t131))) else (spec_Items.j0 k a0 true)) else (none))
theorem spec_Items.mono_l : ∀ k, (∀ y0 y1, LeO (spec_Items.j0 k y0 y1) (spec_Items.j0 (k + 1) y0 y1)) ∧ (∀ y0 y1 y2 y3, LeO (spec_Items.l0 k y0 y1 y2 y3) (spec_Items.l0 (k + 1) y0 y1 y2 y3)) ∧ (∀ y0 y1 y2 y3 y4, LeO (spec_Items.j2 k y0 y1 y2 y3 y4) (spec_Items.j2 (k + 1) y0 y1 y2 y3 y4))
  | 0 => ⟨fun _ _ r h => by simp [spec_Items.j0] at h, fun _ _ _ _ r h => by simp [spec_Items.l0] at h, fun _ _ _ _ _ r h => by simp [spec_Items.j2] at h⟩
  | k + 1 => by
    obtain ⟨ih0, ih1, ih2⟩ := spec_Items.mono_l k
    refine ⟨?_, ?_, ?_⟩
    · intro y0 y1
      unfold spec_Items.j0
      repeat' first
      | (with_reducible exact ih0 _ _)
      | (with_reducible exact ih1 _ _ _ _)
      | (with_reducible exact ih2 _ _ _ _ _)
      | (with_reducible exact spec_has.mono _ _ _)
      | (with_reducible exact LeO.refl _)
      | (with_reducible exact LeO.none _)
      | (with_reducible refine LeO.ite ?_ ?_)
      | (with_reducible refine LeO.bind ?_ (fun _ => ?_))
      | exact ih0 _ _
      | exact ih1 _ _ _ _
      | exact ih2 _ _ _ _ _
      | exact spec_has.mono _ _ _
      | exact LeO.none _
      | refine LeO.ite ?_ ?_
      | refine LeO.bind ?_ (fun _ => ?_)
    · intro y0 y1 y2 y3
      unfold spec_Items.l0
      repeat' first
      | (with_reducible exact ih0 _ _)
      | (with_reducible exact ih1 _ _ _ _)
      | (with_reducible exact ih2 _ _ _ _ _)
      | (with_reducible exact spec_has.mono _ _ _)
      | (with_reducible exact LeO.refl _)
      | (with_reducible exact LeO.none _)
      | (with_reducible refine LeO.ite ?_ ?_)
      | (with_reducible refine LeO.bind ?_ (fun _ => ?_))
      | exact ih0 _ _
      | exact ih1 _ _ _ _
      | exact ih2 _ _ _ _ _
      | exact spec_has.mono _ _ _
      | exact LeO.none _
      | refine LeO.ite ?_ ?_
      | refine LeO.bind ?_ (fun _ => ?_)
    · intro y0 y1 y2 y3 y4
      unfold spec_Items.j2
      repeat' first
      | (with_reducible exact ih0 _ _)
      | (with_reducible exact ih1 _ _ _ _)
      | (with_reducible exact ih2 _ _ _ _ _)
      | (with_reducible exact spec_has.mono _ _ _)
      | (with_reducible exact LeO.refl _)
      | (with_reducible exact LeO.none _)
      | (with_reducible refine LeO.ite ?_ ?_)
      | (with_reducible refine LeO.bind ?_ (fun _ => ?_))
      | exact ih0 _ _
      | exact ih1 _ _ _ _
      | exact ih2 _ _ _ _ _
      | exact spec_has.mono _ _ _
      | exact LeO.none _
      | refine LeO.ite ?_ ?_
      | refine LeO.bind ?_ (fun _ => ?_)
set_option maxHeartbeats 8000000 in
set_option maxRecDepth 100000 in
theorem spec_Items.calls (k : Nat) (a0 : ByteArray) (r1 : List ByteArray) (r2 : Bool) (w : World) (h : spec_Items.f k a0 = some (r1, r2)) :
    Calls Tryz.prog 6 #[.string a0] w fun e w' => ∃ v0_ : Value, e = .returned (.tuple #[v0_, .bool r2]) ∧ Kd.R Kd.string 9 w' w.heap.size (fun _ => True) v0_ r1 ∧ Below w.heap.size w w' := by
  have HB := Aside0.mk (Below.refl w.heap.size w)
  have H : (if a0.toList = ([] : List UInt8) then (spec_Items.j0 k a0 true) else (if 0 < (a0.size : Int) then (if (bt a0 0) = 47 then (if (a0.size : Int) > 120 then (spec_Items.j0 k a0 true) else ((spec_has.f k a0 37).bind fun t131 => (spec_Items.j0 k a0 t131))) else (spec_Items.j0 k a0 true)) else (none))) = some (r1, r2) := h
  clear h
  have HC2 := Aside0.mk H
  clear H
  go_enter Tryz.func6, Tryz.ntmps6
  go_upto_region 1 with (fail)
  go_cut [22] (fun v22 wc => ∃ (kq : Nat) (x22_1 : Bool), v22 = .bool x22_1 ∧ Aside0 (spec_Items.j0 kq a0 x22_1 = some (r1, r2)) ∧ Aside0 (kq ≤ k) ∧ Aside0 (Below w.heap.size w wc))
  case first =>
    have H := HC2.out
    clear HC2
    by_cases c3 : a0.toList = ([] : List UInt8)
    · rw [if_pos c3] at H
      have c3b0 : (a0.toList == ([] : List UInt8)) = true := beq_iff_eq.mpr c3
      have c3b1 : (a0.toList != ([] : List UInt8)) = false := bne_eq_false_iff_eq.mpr c3
      clear c3
      (first | rw [c3b0] | (simp only [i64_w, i32_w]; rw [c3b0]) | skip)
      have H' := Aside0.mk H
      clear H
      go_wp2
      go_meet
      case rel => exact ⟨_, (true), (by first | rfl | (simp; done) | (simp [*]; done)), H', ⟨by first | omega | exact Nat.le_refl _⟩, ⟨by repeat (first | (with_reducible first | exact HB.out | apply below_alloc | apply pw_below_drewN | apply below_drew1) | exact HB.out)⟩⟩
    · rw [if_neg c3] at H
      have c3b0 : (a0.toList == ([] : List UInt8)) = false := beq_eq_false_iff_ne.mpr c3
      have c3b1 : (a0.toList != ([] : List UInt8)) = true := bne_iff_ne.mpr c3
      (first | rw [c3b0] | (simp only [i64_w, i32_w]; rw [c3b0]) | skip)
      by_cases c4 : 0 < (a0.size : Int)
      · rw [if_pos c4] at H
        have c4b0 : decide (0 < (a0.size : Int)) = true := decide_eq_true c4
        have c4b1 : decide (0 < a0.size) = true := decide_eq_true (by omega)
        clear c4
        by_cases c6 : (bt a0 0) = 47
        · rw [if_pos c6] at H
          have c6b0 : ((bt a0 0) == 47) = true := beq_iff_eq.mpr c6
          have c6b1 : ((bt a0 0) != 47) = false := bne_eq_false_iff_eq.mpr c6
          clear c6
          by_cases c7 : (a0.size : Int) > 120
          · rw [if_pos c7] at H
            have c7b0 : decide (120 < (a0.size : Int)) = true := decide_eq_true c7
            have c7b1 : decide (120 < a0.size) = true := decide_eq_true (by omega)
            clear c7
            have H' := Aside0.mk H
            clear H
            have p5 : 0 ≤ (0 : Int) := (by omega)
            have q5 : 0 < a0.size := (by have : (0 : Int) < (a0.size : Int) := of_decide_eq_true (by first | (with_reducible assumption) | assumption); omega)
            have hx5 : ∀ h : 0 < a0.size, ((a0[0]'h).toNat : Int) = bt a0 0 := bt_at a0 0
            clear p5
            have qi5 : (0 < (a0.size : Int)) = True := eq_true (of_decide_eq_true (by first | (with_reducible assumption) | assumption))
            replace q5 := eq_true q5
            go_wp2
            go_meet
            case rel => exact ⟨_, (true), (by first | rfl | (simp; done) | (simp [*]; done)), H', ⟨by first | omega | exact Nat.le_refl _⟩, ⟨by repeat (first | (with_reducible first | exact HB.out | apply below_alloc | apply pw_below_drewN | apply below_drew1) | exact HB.out)⟩⟩
          · rw [if_neg c7] at H
            have c7b0 : decide (120 < (a0.size : Int)) = false := decide_eq_false c7
            have c7b1 : decide (120 < a0.size) = false := decide_eq_false (by omega)
            clear c7
            replace H := Option.bind_eq_some_iff.mp H
            obtain ⟨t131, A80, H⟩ := H
            replace H : (spec_Items.j0 k a0 t131) = some (r1, r2) := H
            have A8 := Aside0.mk A80
            clear A80
            have H' := Aside0.mk H
            clear H
            have p5 : 0 ≤ (0 : Int) := (by omega)
            have q5 : 0 < a0.size := (by have : (0 : Int) < (a0.size : Int) := of_decide_eq_true (by first | (with_reducible assumption) | assumption); omega)
            have hx5 : ∀ h : 0 < a0.size, ((a0[0]'h).toNat : Int) = bt a0 0 := bt_at a0 0
            clear p5
            have qi5 : (0 < (a0.size : Int)) = True := eq_true (of_decide_eq_true (by first | (with_reducible assumption) | assumption))
            replace q5 := eq_true q5
            go_wp2_with (first | (go_at_call 16; (with_reducible refine (spec_has.calls k a0 37 t131 _ A8.out).mono ?_); rintro e w' ⟨rfl, ⟨nd, rfl⟩⟩))
            go_meet
            case rel => exact ⟨_, (t131), (by first | rfl | (simp; done) | (simp [*]; done)), H', ⟨by first | omega | exact Nat.le_refl _⟩, ⟨by repeat (first | (with_reducible first | exact HB.out | apply below_alloc | apply pw_below_drewN | apply below_drew1) | exact HB.out)⟩⟩
        · rw [if_neg c6] at H
          have c6b0 : ((bt a0 0) == 47) = false := beq_eq_false_iff_ne.mpr c6
          have c6b1 : ((bt a0 0) != 47) = true := bne_iff_ne.mpr c6
          have H' := Aside0.mk H
          clear H
          have p5 : 0 ≤ (0 : Int) := (by omega)
          have q5 : 0 < a0.size := (by have : (0 : Int) < (a0.size : Int) := of_decide_eq_true (by first | (with_reducible assumption) | assumption); omega)
          have hx5 : ∀ h : 0 < a0.size, ((a0[0]'h).toNat : Int) = bt a0 0 := bt_at a0 0
          clear p5
          have qi5 : (0 < (a0.size : Int)) = True := eq_true (of_decide_eq_true (by first | (with_reducible assumption) | assumption))
          replace q5 := eq_true q5
          go_wp2
          go_meet
          case rel => exact ⟨_, (true), (by first | rfl | (simp; done) | (simp [*]; done)), H', ⟨by first | omega | exact Nat.le_refl _⟩, ⟨by repeat (first | (with_reducible first | exact HB.out | apply below_alloc | apply pw_below_drewN | apply below_drew1) | exact HB.out)⟩⟩
      · rw [if_neg c4] at H
        exact absurd H (by simp)
  case rest =>
    clear HC2
    try clear p2
    try clear c3
    try clear c3b0
    try clear c3b1
    try clear c4
    try clear c4b0
    try clear c4b1
    try clear p5
    try clear q5
    try clear hx5
    try clear qi5
    try clear c6
    try clear c6b0
    try clear c6b1
    try clear c7
    try clear c7b0
    try clear c7b1
    try clear p5
    try clear q5
    obtain ⟨kq, x22_1, rfl, HA, HJ1, HB⟩ := hcut
    cases kq with
    | zero => exact absurd HA.out (by simp [spec_Items.j0])
    | succ kj1 =>
      have H := HA.out
      clear HA
      simp only [spec_Items.j0] at H
      by_cases c9 : x22_1 = true
      · subst c9
        have H1 : (some (([] : List ByteArray), false)) = some (r1, r2) := by rw [if_pos rfl] at H; exact H
        clear H
        have H := H1
        clear H1
        simp only [Option.some.injEq, Prod.mk.injEq] at H
        obtain ⟨rfl, rfl⟩ := H
        go_wp2
        go_ret2
        exact ⟨_, by first | rfl | (simp [errW_none, errW_some] <;> rfl) | (simp [*, errW_none, errW_some] <;> rfl), by first | exact Kd.R_nil _ _ _ _ _ | exact Kd.N_nil _ _ _ _ _ | exact Kd.V_nil _ _ _ _ _ | exact Kd.Q_nil _ _ _ _ _ | exact Kd.S_nil _ _ _ _ _, by repeat (first | (with_reducible first | exact HB.out | apply below_alloc | apply pw_below_drewN | apply below_drew1) | exact HB.out)⟩
      · replace c9 := Bool.eq_false_iff.mpr c9
        subst c9
        have H1 : (spec_Items.l0 kj1 a0 (([] : List ByteArray)) 1 1) = some (r1, r2) := by rw [if_neg (show ¬ (false = true) by decide)] at H; exact H
        clear H
        have H := H1
        clear H1
        obtain ⟨y132, hy132⟩ : ∃ y_ : List ByteArray, y_ = (([] : List ByteArray)) := ⟨_, rfl⟩
        replace H : (spec_Items.l0 kj1 a0 y132 1 1) = some (r1, r2) := by first | (rw [hy132]; with_reducible exact H) | (have H2_ := (Option.bind_some _ _).symm.trans H; rw [hy132]; with_reducible exact H2_) | (have H2_ := (Option.bind_some _ _).symm.trans H; with_reducible exact H2_) | with_reducible exact H | (rw [hy132]; exact H) | exact H
        have Ny132 := Aside0.mk hy132
        clear hy132
        have H' := Aside0.mk H
        clear H
        go_wp2_with (first | ((with_reducible refine gate_dst (N := 23) rfl ?_); (try (refine gate_guard (by rfl) ?_; dsimp only)); refine Kd.R_lit Kd.string _ 9 ?hg (N := 23) ?hd (xs := ([] : List ByteArray)) (inner := []) (ok := fun _ => True) (okp := fun _ => True) ?hr ?hp (fun _ hk => hk) trivial (Below.refl _ _) (Nat.le_refl _) (by simp) ?_; (case hd => rfl); (case hg => rfl); (case hr => first | (go_simp; done) | (go_simp; rfl)); (case hp => exact (Reps.none _ _)); intro v133 w10 ho11 hb hg_ hnew_; clear hg_ hnew_; (first | rw [← Ny132.out] at ho11 | (simp only [Int.reduceToNat] at ho11; rw [← Ny132.out] at ho11)); have n0_ := Aside0.mk (Kd.R_lower ho11 (below_size (by repeat (first | (with_reducible first | exact HB.out | apply below_alloc | apply pw_below_drewN | apply below_drew1) | exact HB.out)))); have n1_ := Aside0.mk (below_step (by repeat (first | (with_reducible first | exact HB.out | apply below_alloc | apply pw_below_drewN | apply below_drew1) | exact HB.out)) hb); clear HB; have HO134 := n0_; have HB := n1_; clear n0_ n1_; clear hb ho11))
        go_loopg [4, 5, 6] kj1 (fun kq v4 v5 v6 w' => ∃ (x4_2 : List ByteArray) (x5_2 : Int) (x6_2 : Int), v5 = .int .i64 x5_2 ∧ v6 = .int .i64 x6_2 ∧ Aside0 (spec_Items.l0 kq a0 x4_2 x5_2 x6_2 = some (r1, r2)) ∧ Aside0 (kq ≤ kj1) ∧ Aside0 (Kd.R Kd.string 9 w' w.heap.size (fun _ => True) v4 x4_2) ∧ Aside0 (Below w.heap.size w w'))
        case atStart => exact ⟨(y132), (1), (1), (by first | rfl | (simp; done) | (simp [*]; done)), (by first | rfl | (simp; done) | (simp [*]; done)), H', ⟨Nat.le_refl _⟩, ⟨by (with_reducible repeat (first | apply Kd.R_alloc | apply Kd.R_drewN | apply Kd.R_drew)); exact HO134.out⟩, ⟨by repeat (first | (with_reducible first | exact HB.out | apply below_alloc | apply pw_below_drewN | apply below_drew1) | exact HB.out)⟩⟩
        case round =>
          clear H'
          try clear p2
          try clear c3
          try clear c3b0
          try clear c3b1
          try clear c4
          try clear c4b0
          try clear c4b1
          try clear p5
          try clear q5
          try clear hx5
          try clear qi5
          try clear c6
          try clear c6b0
          try clear c6b1
          try clear c7
          try clear c7b0
          try clear c7b1
          try clear c9
          try clear p2
          try clear p5
          try clear q5
          obtain ⟨x4_2, x5_2, x6_2, rfl, rfl, HA, HK2, HO_4, HB⟩ := hrel
          cases gk with
          | zero => exact absurd HA.out (by simp [spec_Items.l0])
          | succ k2 =>
            have H := HA.out
            clear HA
            simp only [spec_Items.l0] at H
            by_cases c12 : x6_2 ≤ (a0.size : Int)
            · rw [if_pos c12] at H
              have c12b0 : decide (x6_2 ≤ (a0.size : Int)) = true := decide_eq_true c12
              clear c12
              have HC13 := Aside0.mk H
              clear H
              go_upto_region 8 with (fail)
              go_cut [39] (fun v39 wc => ∃ (kq : Nat) (x39_12 : Bool), v39 = .bool x39_12 ∧ Aside0 (spec_Items.j2 kq a0 x4_2 x5_2 x6_2 x39_12 = some (r1, r2)) ∧ Aside0 (kq ≤ k2) ∧ Aside0 (Kd.R Kd.string 9 wc w.heap.size (fun _ => True) u4 x4_2) ∧ Aside0 (Below w.heap.size w wc))
              case first =>
                have H := HC13.out
                clear HC13
                by_cases c14 : x6_2 < (a0.size : Int)
                · rw [if_pos c14] at H
                  have c14b0 : decide (x6_2 < (a0.size : Int)) = true := decide_eq_true c14
                  clear c14
                  (first | rw [c14b0] | (simp only [i64_w, i32_w]; rw [c14b0]) | skip)
                  by_cases c15 : 0 ≤ x6_2
                  · rw [if_pos c15] at H
                    have c15b0 : decide (0 ≤ x6_2) = true := decide_eq_true c15
                    clear c15
                    have H' := Aside0.mk H
                    clear H
                    have p16 : 0 ≤ (x6_2 : Int) := of_decide_eq_true (by first | (with_reducible assumption) | assumption)
                    have q16 : x6_2 < (a0.size : Int) := of_decide_eq_true (by first | (with_reducible assumption) | assumption)
                    have hx16 := bt_at a0 x6_2
                    replace p16 := eq_true p16
                    replace q16 := eq_true q16
                    go_wp2
                    go_meet
                    case rel => exact ⟨_, (((bt a0 x6_2) != 47)), (by first | rfl | (simp; done) | (simp [*]; done)), H', ⟨by have := HJ1.out; have := HK2.out; first | omega | exact Nat.le_refl _⟩, ⟨by (with_reducible repeat (first | apply Kd.R_alloc | apply Kd.R_drewN | apply Kd.R_drew)); exact HO_4.out⟩, ⟨by repeat (first | (with_reducible first | exact HB.out | apply below_alloc | apply pw_below_drewN | apply below_drew1) | exact HB.out)⟩⟩
                  · rw [if_neg c15] at H
                    exact absurd H (by simp)
                · rw [if_neg c14] at H
                  have c14b0 : decide (x6_2 < (a0.size : Int)) = false := decide_eq_false c14
                  clear c14
                  (first | rw [c14b0] | (simp only [i64_w, i32_w]; rw [c14b0]) | skip)
                  have H' := Aside0.mk H
                  clear H
                  go_wp2
                  go_meet
                  case rel => exact ⟨_, (false), (by first | rfl | (simp; done) | (simp [*]; done)), H', ⟨by have := HJ1.out; have := HK2.out; first | omega | exact Nat.le_refl _⟩, ⟨by (with_reducible repeat (first | apply Kd.R_alloc | apply Kd.R_drewN | apply Kd.R_drew)); exact HO_4.out⟩, ⟨by repeat (first | (with_reducible first | exact HB.out | apply below_alloc | apply pw_below_drewN | apply below_drew1) | exact HB.out)⟩⟩
              case rest =>
                clear HC13
                try clear c1
                try clear p1
                try clear q1
                try clear hx1
                try clear p2
                try clear c3
                try clear c3b0
                try clear c3b1
                try clear c4
                try clear c4b0
                try clear c4b1
                try clear p5
                try clear q5
                try clear hx5
                try clear qi5
                try clear c6
                try clear c6b0
                try clear c6b1
                try clear c7
                try clear c7b0
                try clear c7b1
                try clear c9
                try clear c12
                try clear c12b0
                try clear c14
                try clear c14b0
                try clear c15
                try clear c15b0
                try clear p16
                try clear q16
                try clear hx16
                try clear p16
                try clear p2
                try clear p5
                try clear q16
                try clear q5
                obtain ⟨kq, x39_12, rfl, HA, HJ12, HO_4, HB⟩ := hcut
                cases kq with
                | zero => exact absurd HA.out (by simp [spec_Items.j2])
                | succ kj12 =>
                  have H := HA.out
                  clear HA
                  simp only [spec_Items.j2] at H
                  by_cases c17 : x39_12 = true
                  · subst c17
                    have H1 : (spec_Items.l0 kj12 a0 x4_2 x5_2 (wrap64 (x6_2 + 1))) = some (r1, r2) := by rw [if_pos rfl] at H; exact H
                    clear H
                    have H := H1
                    clear H1
                    have H' := Aside0.mk H
                    clear H
                    go_wp2
                    go_roundg kj12
                    case measure => have := HJ1.out; have := HK2.out; have := HJ12.out; omega
                    case rel => exact ⟨(x4_2), (x5_2), (wrap64 (x6_2 + 1)), (by first | rfl | (simp; done) | (simp [*]; done)), (by first | rfl | (simp; done) | (simp [*]; done)), H', ⟨by have := HJ1.out; have := HK2.out; have := HJ12.out; omega⟩, ⟨by (with_reducible repeat (first | apply Kd.R_alloc | apply Kd.R_drewN | apply Kd.R_drew)); exact HO_4.out⟩, ⟨by repeat (first | (with_reducible first | exact HB.out | apply below_alloc | apply pw_below_drewN | apply below_drew1) | exact HB.out)⟩⟩
                  · replace c17 := Bool.eq_false_iff.mpr c17
                    subst c17
                    have H1 : (if x6_2 > x5_2 then (if 0 ≤ x5_2 then (if x5_2 ≤ x6_2 then (if x6_2 ≤ (a0.size : Int) then (if x4_2.length < 8796093022208 then (spec_Items.l0 kj12 a0 (x4_2 ++ [a0.extract (x5_2 : Int).toNat (x6_2 : Int).toNat]) (wrap64 (x6_2 + 1)) (wrap64 (x6_2 + 1))) else (none)) else (none)) else (none)) else (none)) else (if x6_2 = (a0.size : Int) then (if x4_2.length < 8796093022208 then (spec_Items.l0 kj12 a0 (x4_2 ++ [(⟨#[47]⟩ : ByteArray)]) (wrap64 (x6_2 + 1)) (wrap64 (x6_2 + 1))) else (none)) else (some (([] : List ByteArray), false)))) = some (r1, r2) := by rw [if_neg (show ¬ (false = true) by decide)] at H; exact H
                    clear H
                    have H := H1
                    clear H1
                    by_cases c18 : x6_2 > x5_2
                    · rw [if_pos c18] at H
                      have c18b0 : decide (x5_2 < x6_2) = true := decide_eq_true c18
                      clear c18
                      by_cases c19 : 0 ≤ x5_2
                      · rw [if_pos c19] at H
                        have c19b0 := eq_true c19
                        have c19b1 : decide (0 ≤ x5_2) = true := decide_eq_true c19
                        clear c19
                        by_cases c20 : x5_2 ≤ x6_2
                        · rw [if_pos c20] at H
                          have c20b0 := eq_true c20
                          have c20b1 : decide (x5_2 ≤ x6_2) = true := decide_eq_true c20
                          clear c20
                          by_cases c21 : x6_2 ≤ (a0.size : Int)
                          · rw [if_pos c21] at H
                            have c21b0 := eq_true c21
                            have c21b1 : decide (x6_2 ≤ (a0.size : Int)) = true := decide_eq_true c21
                            clear c21
                            by_cases c22 : x4_2.length < 8796093022208
                            · rw [if_pos c22] at H
                              have LMc22 := Aside0.mk c22
                              clear c22
                              obtain ⟨y135, hy135⟩ : ∃ y_ : List ByteArray, y_ = (x4_2 ++ [a0.extract (x5_2 : Int).toNat (x6_2 : Int).toNat]) := ⟨_, rfl⟩
                              replace H : (spec_Items.l0 kj12 a0 y135 (wrap64 (x6_2 + 1)) (wrap64 (x6_2 + 1))) = some (r1, r2) := by first | (rw [hy135]; with_reducible exact H) | (have H2_ := (Option.bind_some _ _).symm.trans H; rw [hy135]; with_reducible exact H2_) | (have H2_ := (Option.bind_some _ _).symm.trans H; with_reducible exact H2_) | with_reducible exact H | (rw [hy135]; exact H) | exact H
                              have Ny135 := Aside0.mk hy135
                              clear hy135
                              have H' := Aside0.mk H
                              clear H
                              go_wp2_with (first | ((with_reducible refine gate_builtin (b := .append) (xs := #[.tmp 43, .tmp 48]) rfl ?_); (try (refine gate_guard (by rfl) ?_; dsimp only)); at_builtin; refine Kd.R_append Kd.string (w0 := w) w.heap.size rfl (.tmp 43) (.tmp 48) 26 9 (.string ⟨#[]⟩) 16 rfl Tryz.underlying26 info9 rfl (by decide) (by omega) u4 x4_2 (a0.extract (x5_2 : Int).toNat (x6_2 : Int).toNat) [.string (a0.extract (x5_2 : Int).toNat (x6_2 : Int).toNat)] (fun _ => True) (fun _ => False) rfl rfl ?aP (fun _ hk => hk.elim) ?aF ?aO ?aB ?aS ?aL ?_; (case aP => exact rfl); (case aB => exact (by repeat (first | (with_reducible first | exact HB.out | apply below_alloc | apply pw_below_drewN | apply below_drew1) | exact HB.out))); (case aF => exact (fun _ _ => trivial)); (case aO => exact (by (with_reducible repeat (first | apply Kd.R_alloc | apply Kd.R_drewN | apply Kd.R_drew)); exact HO_4.out)); (case aS => exact (below_size (by repeat (first | (with_reducible first | exact HB.out | apply below_alloc | apply pw_below_drewN | apply below_drew1) | exact HB.out)))); (case aL => have := LMc22.out; omega); intro v136 w23 ho hb hg hat; rw [← Ny135.out] at ho; have n0_ := Aside0.mk (hb); have n1_ := Aside0.mk (ho); clear HB; clear HO_4; have HB := n0_; have HO137 := n1_; clear n0_ n1_; clear ho hb hg hat))
                              go_roundg kj12
                              case measure => have := HJ1.out; have := HK2.out; have := HJ12.out; omega
                              case rel => exact ⟨(y135), (wrap64 (x6_2 + 1)), (wrap64 (x6_2 + 1)), (by first | rfl | (simp; done) | (simp [*]; done)), (by first | rfl | (simp; done) | (simp [*]; done)), H', ⟨by have := HJ1.out; have := HK2.out; have := HJ12.out; omega⟩, ⟨by (with_reducible repeat (first | apply Kd.R_alloc | apply Kd.R_drewN | apply Kd.R_drew)); exact HO137.out⟩, ⟨by repeat (first | (with_reducible first | exact HB.out | apply below_alloc | apply pw_below_drewN | apply below_drew1) | exact HB.out)⟩⟩
                            · rw [if_neg c22] at H
                              exact absurd H (by simp)
                          · rw [if_neg c21] at H
                            exact absurd H (by simp)
                        · rw [if_neg c20] at H
                          exact absurd H (by simp)
                      · rw [if_neg c19] at H
                        exact absurd H (by simp)
                    · rw [if_neg c18] at H
                      have c18b0 : decide (x5_2 < x6_2) = false := decide_eq_false c18
                      clear c18
                      by_cases c24 : x6_2 = (a0.size : Int)
                      · rw [if_pos c24] at H
                        have c24b0 : (x6_2 == (a0.size : Int)) = true := beq_iff_eq.mpr c24
                        have c24b1 : (x6_2 != (a0.size : Int)) = false := bne_eq_false_iff_eq.mpr c24
                        clear c24
                        by_cases c25 : x4_2.length < 8796093022208
                        · rw [if_pos c25] at H
                          have LMc25 := Aside0.mk c25
                          clear c25
                          obtain ⟨y138, hy138⟩ : ∃ y_ : List ByteArray, y_ = (x4_2 ++ [(⟨#[47]⟩ : ByteArray)]) := ⟨_, rfl⟩
                          replace H : (spec_Items.l0 kj12 a0 y138 (wrap64 (x6_2 + 1)) (wrap64 (x6_2 + 1))) = some (r1, r2) := by first | (rw [hy138]; with_reducible exact H) | (have H2_ := (Option.bind_some _ _).symm.trans H; rw [hy138]; with_reducible exact H2_) | (have H2_ := (Option.bind_some _ _).symm.trans H; with_reducible exact H2_) | with_reducible exact H | (rw [hy138]; exact H) | exact H
                          have Ny138 := Aside0.mk hy138
                          clear hy138
                          have H' := Aside0.mk H
                          clear H
                          go_wp2_with (first | ((with_reducible refine gate_builtin (b := .append) (xs := #[.tmp 54, .tmp 55]) rfl ?_); (try (refine gate_guard (by rfl) ?_; dsimp only)); at_builtin; refine Kd.R_append Kd.string (w0 := w) w.heap.size rfl (.tmp 54) (.tmp 55) 26 9 (.string ⟨#[]⟩) 16 rfl Tryz.underlying26 info9 rfl (by decide) (by omega) u4 x4_2 (⟨#[47]⟩ : ByteArray) [.string (⟨#[47]⟩ : ByteArray)] (fun _ => True) (fun _ => False) rfl rfl ?aP (fun _ hk => hk.elim) ?aF ?aO ?aB ?aS ?aL ?_; (case aP => exact rfl); (case aB => exact (by repeat (first | (with_reducible first | exact HB.out | apply below_alloc | apply pw_below_drewN | apply below_drew1) | exact HB.out))); (case aF => exact (fun _ _ => trivial)); (case aO => exact (by (with_reducible repeat (first | apply Kd.R_alloc | apply Kd.R_drewN | apply Kd.R_drew)); exact HO_4.out)); (case aS => exact (below_size (by repeat (first | (with_reducible first | exact HB.out | apply below_alloc | apply pw_below_drewN | apply below_drew1) | exact HB.out)))); (case aL => have := LMc25.out; omega); intro v139 w26 ho hb hg hat; rw [← Ny138.out] at ho; have n0_ := Aside0.mk (hb); have n1_ := Aside0.mk (ho); clear HB; clear HO_4; have HB := n0_; have HO140 := n1_; clear n0_ n1_; clear ho hb hg hat))
                          go_roundg kj12
                          case measure => have := HJ1.out; have := HK2.out; have := HJ12.out; omega
                          case rel => exact ⟨(y138), (wrap64 (x6_2 + 1)), (wrap64 (x6_2 + 1)), (by first | rfl | (simp; done) | (simp [*]; done)), (by first | rfl | (simp; done) | (simp [*]; done)), H', ⟨by have := HJ1.out; have := HK2.out; have := HJ12.out; omega⟩, ⟨by (with_reducible repeat (first | apply Kd.R_alloc | apply Kd.R_drewN | apply Kd.R_drew)); exact HO140.out⟩, ⟨by repeat (first | (with_reducible first | exact HB.out | apply below_alloc | apply pw_below_drewN | apply below_drew1) | exact HB.out)⟩⟩
                        · rw [if_neg c25] at H
                          exact absurd H (by simp)
                      · rw [if_neg c24] at H
                        have c24b0 : (x6_2 == (a0.size : Int)) = false := beq_eq_false_iff_ne.mpr c24
                        have c24b1 : (x6_2 != (a0.size : Int)) = true := bne_iff_ne.mpr c24
                        simp only [Option.some.injEq, Prod.mk.injEq] at H
                        obtain ⟨rfl, rfl⟩ := H
                        go_wp2
                        go_ret2
                        exact ⟨_, by first | rfl | (simp [errW_none, errW_some] <;> rfl) | (simp [*, errW_none, errW_some] <;> rfl), by first | exact Kd.R_nil _ _ _ _ _ | exact Kd.N_nil _ _ _ _ _ | exact Kd.V_nil _ _ _ _ _ | exact Kd.Q_nil _ _ _ _ _ | exact Kd.S_nil _ _ _ _ _, by repeat (first | (with_reducible first | exact HB.out | apply below_alloc | apply pw_below_drewN | apply below_drew1) | exact HB.out)⟩
            · rw [if_neg c12] at H
              have c12b0 : decide (x6_2 ≤ (a0.size : Int)) = false := decide_eq_false c12
              clear c12
              simp only [Option.some.injEq, Prod.mk.injEq] at H
              obtain ⟨rfl, rfl⟩ := H
              go_wp2
              go_ret2
              exact ⟨_, by first | rfl | (simp [errW_none, errW_some] <;> rfl) | (simp [*, errW_none, errW_some] <;> rfl), by (with_reducible repeat (first | apply Kd.R_alloc | apply Kd.R_drewN | apply Kd.R_drew)); exact HO_4.out, by repeat (first | (with_reducible first | exact HB.out | apply below_alloc | apply pw_below_drewN | apply below_drew1) | exact HB.out)⟩
def spec_Host.l0 : Nat → ByteArray → Int → Int → Option (Bool)
  | 0, _, _, _ => none
  | k + 1, x0, x5, x6 => if x6 < x5 then (if 0 ≤ x6 then (if x6 < (x0.size : Int) then (if (bt x0 x6) < 97 then (if (bt x0 x6) = 46 then (spec_Host.l0 k x0 x5 (wrap64 (x6 + 1))) else (if (bt x0 x6) = 45 then (spec_Host.l0 k x0 x5 (wrap64 (x6 + 1))) else (if (bt x0 x6) < 48 then (some false) else (if (bt x0 x6) > 57 then (some false) else (spec_Host.l0 k x0 x5 (wrap64 (x6 + 1))))))) else (if (bt x0 x6) > 122 then (if (bt x0 x6) = 46 then (spec_Host.l0 k x0 x5 (wrap64 (x6 + 1))) else (if (bt x0 x6) = 45 then (spec_Host.l0 k x0 x5 (wrap64 (x6 + 1))) else (if (bt x0 x6) < 48 then (some false) else (if (bt x0 x6) > 57 then (some false) else (spec_Host.l0 k x0 x5 (wrap64 (x6 + 1))))))) else (spec_Host.l0 k x0 x5 (wrap64 (x6 + 1))))) else (none)) else (none)) else (some (decide ((x0.size : Int) < 20)))
def spec_Host.f (k : Nat) (a0 : ByteArray) : Option (Bool) := spec_Host.l0 k a0 (a0.size : Int) 0
set_option maxHeartbeats 8000000 in
set_option maxRecDepth 100000 in
theorem spec_Host.calls (k : Nat) (a0 : ByteArray) (r : Bool) (w : World) (h : spec_Host.f k a0 = some r) :
    Calls Tryz.prog 7 #[.string a0] w fun e w' => e = .returned (.bool r) ∧ Drawn0 w w' := by
  have H : (spec_Host.l0 k a0 (a0.size : Int) 0) = some r := h
  clear h
  have H' := Aside0.mk H
  clear H
  go_enter Tryz.func7, Tryz.ntmps7
  go_wp2
  go_loopg [6] k (fun kq v6 w' => ∃ (x6_1 : Int), v6 = .int .i64 x6_1 ∧ Aside0 (spec_Host.l0 kq a0 (a0.size : Int) x6_1 = some r) ∧ Aside0 (kq ≤ k) ∧ Drawn0 w w')
  case atStart => exact ⟨(0), (by first | rfl | (simp; done) | (simp [*]; done)), H', ⟨Nat.le_refl _⟩, by repeat (first | exact Drawn0.refl _ | apply Drawn0.step)⟩
  case round =>
    clear H'
    obtain ⟨x6_1, rfl, HA, HK1, ⟨m1, rfl⟩⟩ := hrel
    cases gk with
    | zero => exact absurd HA.out (by simp [spec_Host.l0])
    | succ k1 =>
      have H := HA.out
      clear HA
      simp only [spec_Host.l0] at H
      by_cases c2 : x6_1 < (a0.size : Int)
      · rw [if_pos c2] at H
        have c2b0 : decide (x6_1 < (a0.size : Int)) = true := decide_eq_true c2
        clear c2
        by_cases c3 : 0 ≤ x6_1
        · rw [if_pos c3] at H
          have c3b0 : decide (0 ≤ x6_1) = true := decide_eq_true c3
          clear c3
          by_cases c4 : x6_1 < (a0.size : Int)
          · rw [if_pos c4] at H
            have c4b0 : decide (x6_1 < (a0.size : Int)) = true := decide_eq_true c4
            clear c4
            by_cases c6 : (bt a0 x6_1) < 97
            · rw [if_pos c6] at H
              have c6b0 : decide ((bt a0 x6_1) < 97) = true := decide_eq_true c6
              clear c6
              by_cases c8 : (bt a0 x6_1) = 46
              · rw [if_pos c8] at H
                have c8b0 : ((bt a0 x6_1) == 46) = true := beq_iff_eq.mpr c8
                have c8b1 : ((bt a0 x6_1) != 46) = false := bne_eq_false_iff_eq.mpr c8
                clear c8
                have H' := Aside0.mk H
                clear H
                have p5 : 0 ≤ (x6_1 : Int) := of_decide_eq_true (by first | (with_reducible assumption) | assumption)
                have q5 : x6_1 < (a0.size : Int) := of_decide_eq_true (by first | (with_reducible assumption) | assumption)
                have hx5 := bt_at a0 x6_1
                replace p5 := eq_true p5
                replace q5 := eq_true q5
                have p7 : 0 ≤ (x6_1 : Int) := of_decide_eq_true (by first | (with_reducible assumption) | assumption)
                have q7 : x6_1 < (a0.size : Int) := of_decide_eq_true (by first | (with_reducible assumption) | assumption)
                have hx7 := bt_at a0 x6_1
                replace p7 := eq_true p7
                replace q7 := eq_true q7
                go_wp2
                go_roundg k1
                case measure => have := HK1.out; omega
                case rel => exact ⟨(wrap64 (x6_1 + 1)), (by first | rfl | (simp; done) | (simp [*]; done)), H', ⟨by have := HK1.out; omega⟩, by repeat (first | exact Drawn0.refl _ | apply Drawn0.step)⟩
              · rw [if_neg c8] at H
                have c8b0 : ((bt a0 x6_1) == 46) = false := beq_eq_false_iff_ne.mpr c8
                have c8b1 : ((bt a0 x6_1) != 46) = true := bne_iff_ne.mpr c8
                by_cases c10 : (bt a0 x6_1) = 45
                · rw [if_pos c10] at H
                  have c10b0 : ((bt a0 x6_1) == 45) = true := beq_iff_eq.mpr c10
                  have c10b1 : ((bt a0 x6_1) != 45) = false := bne_eq_false_iff_eq.mpr c10
                  clear c10
                  have H' := Aside0.mk H
                  clear H
                  have p5 : 0 ≤ (x6_1 : Int) := of_decide_eq_true (by first | (with_reducible assumption) | assumption)
                  have q5 : x6_1 < (a0.size : Int) := of_decide_eq_true (by first | (with_reducible assumption) | assumption)
                  have hx5 := bt_at a0 x6_1
                  replace p5 := eq_true p5
                  replace q5 := eq_true q5
                  have p7 : 0 ≤ (x6_1 : Int) := of_decide_eq_true (by first | (with_reducible assumption) | assumption)
                  have q7 : x6_1 < (a0.size : Int) := of_decide_eq_true (by first | (with_reducible assumption) | assumption)
                  have hx7 := bt_at a0 x6_1
                  replace p7 := eq_true p7
                  replace q7 := eq_true q7
                  have p9 : 0 ≤ (x6_1 : Int) := of_decide_eq_true (by first | (with_reducible assumption) | assumption)
                  have q9 : x6_1 < (a0.size : Int) := of_decide_eq_true (by first | (with_reducible assumption) | assumption)
                  have hx9 := bt_at a0 x6_1
                  replace p9 := eq_true p9
                  replace q9 := eq_true q9
                  go_wp2
                  go_roundg k1
                  case measure => have := HK1.out; omega
                  case rel => exact ⟨(wrap64 (x6_1 + 1)), (by first | rfl | (simp; done) | (simp [*]; done)), H', ⟨by have := HK1.out; omega⟩, by repeat (first | exact Drawn0.refl _ | apply Drawn0.step)⟩
                · rw [if_neg c10] at H
                  have c10b0 : ((bt a0 x6_1) == 45) = false := beq_eq_false_iff_ne.mpr c10
                  have c10b1 : ((bt a0 x6_1) != 45) = true := bne_iff_ne.mpr c10
                  by_cases c12 : (bt a0 x6_1) < 48
                  · rw [if_pos c12] at H
                    have c12b0 : decide ((bt a0 x6_1) < 48) = true := decide_eq_true c12
                    clear c12
                    obtain rfl := Option.some.inj H
                    have p5 : 0 ≤ (x6_1 : Int) := of_decide_eq_true (by first | (with_reducible assumption) | assumption)
                    have q5 : x6_1 < (a0.size : Int) := of_decide_eq_true (by first | (with_reducible assumption) | assumption)
                    have hx5 := bt_at a0 x6_1
                    replace p5 := eq_true p5
                    replace q5 := eq_true q5
                    have p7 : 0 ≤ (x6_1 : Int) := of_decide_eq_true (by first | (with_reducible assumption) | assumption)
                    have q7 : x6_1 < (a0.size : Int) := of_decide_eq_true (by first | (with_reducible assumption) | assumption)
                    have hx7 := bt_at a0 x6_1
                    replace p7 := eq_true p7
                    replace q7 := eq_true q7
                    have p9 : 0 ≤ (x6_1 : Int) := of_decide_eq_true (by first | (with_reducible assumption) | assumption)
                    have q9 : x6_1 < (a0.size : Int) := of_decide_eq_true (by first | (with_reducible assumption) | assumption)
                    have hx9 := bt_at a0 x6_1
                    replace p9 := eq_true p9
                    replace q9 := eq_true q9
                    have p11 : 0 ≤ (x6_1 : Int) := of_decide_eq_true (by first | (with_reducible assumption) | assumption)
                    have q11 : x6_1 < (a0.size : Int) := of_decide_eq_true (by first | (with_reducible assumption) | assumption)
                    have hx11 := bt_at a0 x6_1
                    replace p11 := eq_true p11
                    replace q11 := eq_true q11
                    go_wp2
                    go_ret
                    exact ⟨by first | rfl | (simp; done) | (simp [*]; done), by repeat (first | exact Drawn0.refl _ | apply Drawn0.step)⟩
                  · rw [if_neg c12] at H
                    have c12b0 : decide ((bt a0 x6_1) < 48) = false := decide_eq_false c12
                    clear c12
                    by_cases c14 : (bt a0 x6_1) > 57
                    · rw [if_pos c14] at H
                      have c14b0 : decide (57 < (bt a0 x6_1)) = true := decide_eq_true c14
                      clear c14
                      obtain rfl := Option.some.inj H
                      have p5 : 0 ≤ (x6_1 : Int) := of_decide_eq_true (by first | (with_reducible assumption) | assumption)
                      have q5 : x6_1 < (a0.size : Int) := of_decide_eq_true (by first | (with_reducible assumption) | assumption)
                      have hx5 := bt_at a0 x6_1
                      replace p5 := eq_true p5
                      replace q5 := eq_true q5
                      have p7 : 0 ≤ (x6_1 : Int) := of_decide_eq_true (by first | (with_reducible assumption) | assumption)
                      have q7 : x6_1 < (a0.size : Int) := of_decide_eq_true (by first | (with_reducible assumption) | assumption)
                      have hx7 := bt_at a0 x6_1
                      replace p7 := eq_true p7
                      replace q7 := eq_true q7
                      have p9 : 0 ≤ (x6_1 : Int) := of_decide_eq_true (by first | (with_reducible assumption) | assumption)
                      have q9 : x6_1 < (a0.size : Int) := of_decide_eq_true (by first | (with_reducible assumption) | assumption)
                      have hx9 := bt_at a0 x6_1
                      replace p9 := eq_true p9
                      replace q9 := eq_true q9
                      have p11 : 0 ≤ (x6_1 : Int) := of_decide_eq_true (by first | (with_reducible assumption) | assumption)
                      have q11 : x6_1 < (a0.size : Int) := of_decide_eq_true (by first | (with_reducible assumption) | assumption)
                      have hx11 := bt_at a0 x6_1
                      replace p11 := eq_true p11
                      replace q11 := eq_true q11
                      have p13 : 0 ≤ (x6_1 : Int) := of_decide_eq_true (by first | (with_reducible assumption) | assumption)
                      have q13 : x6_1 < (a0.size : Int) := of_decide_eq_true (by first | (with_reducible assumption) | assumption)
                      have hx13 := bt_at a0 x6_1
                      replace p13 := eq_true p13
                      replace q13 := eq_true q13
                      go_wp2
                      go_ret
                      exact ⟨by first | rfl | (simp; done) | (simp [*]; done), by repeat (first | exact Drawn0.refl _ | apply Drawn0.step)⟩
                    · rw [if_neg c14] at H
                      have c14b0 : decide (57 < (bt a0 x6_1)) = false := decide_eq_false c14
                      clear c14
                      have H' := Aside0.mk H
                      clear H
                      have p5 : 0 ≤ (x6_1 : Int) := of_decide_eq_true (by first | (with_reducible assumption) | assumption)
                      have q5 : x6_1 < (a0.size : Int) := of_decide_eq_true (by first | (with_reducible assumption) | assumption)
                      have hx5 := bt_at a0 x6_1
                      replace p5 := eq_true p5
                      replace q5 := eq_true q5
                      have p7 : 0 ≤ (x6_1 : Int) := of_decide_eq_true (by first | (with_reducible assumption) | assumption)
                      have q7 : x6_1 < (a0.size : Int) := of_decide_eq_true (by first | (with_reducible assumption) | assumption)
                      have hx7 := bt_at a0 x6_1
                      replace p7 := eq_true p7
                      replace q7 := eq_true q7
                      have p9 : 0 ≤ (x6_1 : Int) := of_decide_eq_true (by first | (with_reducible assumption) | assumption)
                      have q9 : x6_1 < (a0.size : Int) := of_decide_eq_true (by first | (with_reducible assumption) | assumption)
                      have hx9 := bt_at a0 x6_1
                      replace p9 := eq_true p9
                      replace q9 := eq_true q9
                      have p11 : 0 ≤ (x6_1 : Int) := of_decide_eq_true (by first | (with_reducible assumption) | assumption)
                      have q11 : x6_1 < (a0.size : Int) := of_decide_eq_true (by first | (with_reducible assumption) | assumption)
                      have hx11 := bt_at a0 x6_1
                      replace p11 := eq_true p11
                      replace q11 := eq_true q11
                      have p13 : 0 ≤ (x6_1 : Int) := of_decide_eq_true (by first | (with_reducible assumption) | assumption)
                      have q13 : x6_1 < (a0.size : Int) := of_decide_eq_true (by first | (with_reducible assumption) | assumption)
                      have hx13 := bt_at a0 x6_1
                      replace p13 := eq_true p13
                      replace q13 := eq_true q13
                      go_wp2
                      go_roundg k1
                      case measure => have := HK1.out; omega
                      case rel => exact ⟨(wrap64 (x6_1 + 1)), (by first | rfl | (simp; done) | (simp [*]; done)), H', ⟨by have := HK1.out; omega⟩, by repeat (first | exact Drawn0.refl _ | apply Drawn0.step)⟩
            · rw [if_neg c6] at H
              have c6b0 : decide ((bt a0 x6_1) < 97) = false := decide_eq_false c6
              clear c6
              by_cases c16 : (bt a0 x6_1) > 122
              · rw [if_pos c16] at H
                have c16b0 : decide (122 < (bt a0 x6_1)) = true := decide_eq_true c16
                clear c16
                by_cases c18 : (bt a0 x6_1) = 46
                · rw [if_pos c18] at H
                  have c18b0 : ((bt a0 x6_1) == 46) = true := beq_iff_eq.mpr c18
                  have c18b1 : ((bt a0 x6_1) != 46) = false := bne_eq_false_iff_eq.mpr c18
                  clear c18
                  have H' := Aside0.mk H
                  clear H
                  have p5 : 0 ≤ (x6_1 : Int) := of_decide_eq_true (by first | (with_reducible assumption) | assumption)
                  have q5 : x6_1 < (a0.size : Int) := of_decide_eq_true (by first | (with_reducible assumption) | assumption)
                  have hx5 := bt_at a0 x6_1
                  replace p5 := eq_true p5
                  replace q5 := eq_true q5
                  have p15 : 0 ≤ (x6_1 : Int) := of_decide_eq_true (by first | (with_reducible assumption) | assumption)
                  have q15 : x6_1 < (a0.size : Int) := of_decide_eq_true (by first | (with_reducible assumption) | assumption)
                  have hx15 := bt_at a0 x6_1
                  replace p15 := eq_true p15
                  replace q15 := eq_true q15
                  have p17 : 0 ≤ (x6_1 : Int) := of_decide_eq_true (by first | (with_reducible assumption) | assumption)
                  have q17 : x6_1 < (a0.size : Int) := of_decide_eq_true (by first | (with_reducible assumption) | assumption)
                  have hx17 := bt_at a0 x6_1
                  replace p17 := eq_true p17
                  replace q17 := eq_true q17
                  go_wp2
                  go_roundg k1
                  case measure => have := HK1.out; omega
                  case rel => exact ⟨(wrap64 (x6_1 + 1)), (by first | rfl | (simp; done) | (simp [*]; done)), H', ⟨by have := HK1.out; omega⟩, by repeat (first | exact Drawn0.refl _ | apply Drawn0.step)⟩
                · rw [if_neg c18] at H
                  have c18b0 : ((bt a0 x6_1) == 46) = false := beq_eq_false_iff_ne.mpr c18
                  have c18b1 : ((bt a0 x6_1) != 46) = true := bne_iff_ne.mpr c18
                  by_cases c20 : (bt a0 x6_1) = 45
                  · rw [if_pos c20] at H
                    have c20b0 : ((bt a0 x6_1) == 45) = true := beq_iff_eq.mpr c20
                    have c20b1 : ((bt a0 x6_1) != 45) = false := bne_eq_false_iff_eq.mpr c20
                    clear c20
                    have H' := Aside0.mk H
                    clear H
                    have p5 : 0 ≤ (x6_1 : Int) := of_decide_eq_true (by first | (with_reducible assumption) | assumption)
                    have q5 : x6_1 < (a0.size : Int) := of_decide_eq_true (by first | (with_reducible assumption) | assumption)
                    have hx5 := bt_at a0 x6_1
                    replace p5 := eq_true p5
                    replace q5 := eq_true q5
                    have p15 : 0 ≤ (x6_1 : Int) := of_decide_eq_true (by first | (with_reducible assumption) | assumption)
                    have q15 : x6_1 < (a0.size : Int) := of_decide_eq_true (by first | (with_reducible assumption) | assumption)
                    have hx15 := bt_at a0 x6_1
                    replace p15 := eq_true p15
                    replace q15 := eq_true q15
                    have p17 : 0 ≤ (x6_1 : Int) := of_decide_eq_true (by first | (with_reducible assumption) | assumption)
                    have q17 : x6_1 < (a0.size : Int) := of_decide_eq_true (by first | (with_reducible assumption) | assumption)
                    have hx17 := bt_at a0 x6_1
                    replace p17 := eq_true p17
                    replace q17 := eq_true q17
                    have p19 : 0 ≤ (x6_1 : Int) := of_decide_eq_true (by first | (with_reducible assumption) | assumption)
                    have q19 : x6_1 < (a0.size : Int) := of_decide_eq_true (by first | (with_reducible assumption) | assumption)
                    have hx19 := bt_at a0 x6_1
                    replace p19 := eq_true p19
                    replace q19 := eq_true q19
                    go_wp2
                    go_roundg k1
                    case measure => have := HK1.out; omega
                    case rel => exact ⟨(wrap64 (x6_1 + 1)), (by first | rfl | (simp; done) | (simp [*]; done)), H', ⟨by have := HK1.out; omega⟩, by repeat (first | exact Drawn0.refl _ | apply Drawn0.step)⟩
                  · rw [if_neg c20] at H
                    have c20b0 : ((bt a0 x6_1) == 45) = false := beq_eq_false_iff_ne.mpr c20
                    have c20b1 : ((bt a0 x6_1) != 45) = true := bne_iff_ne.mpr c20
                    by_cases c22 : (bt a0 x6_1) < 48
                    · rw [if_pos c22] at H
                      have c22b0 : decide ((bt a0 x6_1) < 48) = true := decide_eq_true c22
                      clear c22
                      obtain rfl := Option.some.inj H
                      have p5 : 0 ≤ (x6_1 : Int) := of_decide_eq_true (by first | (with_reducible assumption) | assumption)
                      have q5 : x6_1 < (a0.size : Int) := of_decide_eq_true (by first | (with_reducible assumption) | assumption)
                      have hx5 := bt_at a0 x6_1
                      replace p5 := eq_true p5
                      replace q5 := eq_true q5
                      have p15 : 0 ≤ (x6_1 : Int) := of_decide_eq_true (by first | (with_reducible assumption) | assumption)
                      have q15 : x6_1 < (a0.size : Int) := of_decide_eq_true (by first | (with_reducible assumption) | assumption)
                      have hx15 := bt_at a0 x6_1
                      replace p15 := eq_true p15
                      replace q15 := eq_true q15
                      have p17 : 0 ≤ (x6_1 : Int) := of_decide_eq_true (by first | (with_reducible assumption) | assumption)
                      have q17 : x6_1 < (a0.size : Int) := of_decide_eq_true (by first | (with_reducible assumption) | assumption)
                      have hx17 := bt_at a0 x6_1
                      replace p17 := eq_true p17
                      replace q17 := eq_true q17
                      have p19 : 0 ≤ (x6_1 : Int) := of_decide_eq_true (by first | (with_reducible assumption) | assumption)
                      have q19 : x6_1 < (a0.size : Int) := of_decide_eq_true (by first | (with_reducible assumption) | assumption)
                      have hx19 := bt_at a0 x6_1
                      replace p19 := eq_true p19
                      replace q19 := eq_true q19
                      have p21 : 0 ≤ (x6_1 : Int) := of_decide_eq_true (by first | (with_reducible assumption) | assumption)
                      have q21 : x6_1 < (a0.size : Int) := of_decide_eq_true (by first | (with_reducible assumption) | assumption)
                      have hx21 := bt_at a0 x6_1
                      replace p21 := eq_true p21
                      replace q21 := eq_true q21
                      go_wp2
                      go_ret
                      exact ⟨by first | rfl | (simp; done) | (simp [*]; done), by repeat (first | exact Drawn0.refl _ | apply Drawn0.step)⟩
                    · rw [if_neg c22] at H
                      have c22b0 : decide ((bt a0 x6_1) < 48) = false := decide_eq_false c22
                      clear c22
                      by_cases c24 : (bt a0 x6_1) > 57
                      · rw [if_pos c24] at H
                        have c24b0 : decide (57 < (bt a0 x6_1)) = true := decide_eq_true c24
                        clear c24
                        obtain rfl := Option.some.inj H
                        have p5 : 0 ≤ (x6_1 : Int) := of_decide_eq_true (by first | (with_reducible assumption) | assumption)
                        have q5 : x6_1 < (a0.size : Int) := of_decide_eq_true (by first | (with_reducible assumption) | assumption)
                        have hx5 := bt_at a0 x6_1
                        replace p5 := eq_true p5
                        replace q5 := eq_true q5
                        have p15 : 0 ≤ (x6_1 : Int) := of_decide_eq_true (by first | (with_reducible assumption) | assumption)
                        have q15 : x6_1 < (a0.size : Int) := of_decide_eq_true (by first | (with_reducible assumption) | assumption)
                        have hx15 := bt_at a0 x6_1
                        replace p15 := eq_true p15
                        replace q15 := eq_true q15
                        have p17 : 0 ≤ (x6_1 : Int) := of_decide_eq_true (by first | (with_reducible assumption) | assumption)
                        have q17 : x6_1 < (a0.size : Int) := of_decide_eq_true (by first | (with_reducible assumption) | assumption)
                        have hx17 := bt_at a0 x6_1
                        replace p17 := eq_true p17
                        replace q17 := eq_true q17
                        have p19 : 0 ≤ (x6_1 : Int) := of_decide_eq_true (by first | (with_reducible assumption) | assumption)
                        have q19 : x6_1 < (a0.size : Int) := of_decide_eq_true (by first | (with_reducible assumption) | assumption)
                        have hx19 := bt_at a0 x6_1
                        replace p19 := eq_true p19
                        replace q19 := eq_true q19
                        have p21 : 0 ≤ (x6_1 : Int) := of_decide_eq_true (by first | (with_reducible assumption) | assumption)
                        have q21 : x6_1 < (a0.size : Int) := of_decide_eq_true (by first | (with_reducible assumption) | assumption)
                        have hx21 := bt_at a0 x6_1
                        replace p21 := eq_true p21
                        replace q21 := eq_true q21
                        have p23 : 0 ≤ (x6_1 : Int) := of_decide_eq_true (by first | (with_reducible assumption) | assumption)
                        have q23 : x6_1 < (a0.size : Int) := of_decide_eq_true (by first | (with_reducible assumption) | assumption)
                        have hx23 := bt_at a0 x6_1
                        replace p23 := eq_true p23
                        replace q23 := eq_true q23
                        go_wp2
                        go_ret
                        exact ⟨by first | rfl | (simp; done) | (simp [*]; done), by repeat (first | exact Drawn0.refl _ | apply Drawn0.step)⟩
                      · rw [if_neg c24] at H
                        have c24b0 : decide (57 < (bt a0 x6_1)) = false := decide_eq_false c24
                        clear c24
                        have H' := Aside0.mk H
                        clear H
                        have p5 : 0 ≤ (x6_1 : Int) := of_decide_eq_true (by first | (with_reducible assumption) | assumption)
                        have q5 : x6_1 < (a0.size : Int) := of_decide_eq_true (by first | (with_reducible assumption) | assumption)
                        have hx5 := bt_at a0 x6_1
                        replace p5 := eq_true p5
                        replace q5 := eq_true q5
                        have p15 : 0 ≤ (x6_1 : Int) := of_decide_eq_true (by first | (with_reducible assumption) | assumption)
                        have q15 : x6_1 < (a0.size : Int) := of_decide_eq_true (by first | (with_reducible assumption) | assumption)
                        have hx15 := bt_at a0 x6_1
                        replace p15 := eq_true p15
                        replace q15 := eq_true q15
                        have p17 : 0 ≤ (x6_1 : Int) := of_decide_eq_true (by first | (with_reducible assumption) | assumption)
                        have q17 : x6_1 < (a0.size : Int) := of_decide_eq_true (by first | (with_reducible assumption) | assumption)
                        have hx17 := bt_at a0 x6_1
                        replace p17 := eq_true p17
                        replace q17 := eq_true q17
                        have p19 : 0 ≤ (x6_1 : Int) := of_decide_eq_true (by first | (with_reducible assumption) | assumption)
                        have q19 : x6_1 < (a0.size : Int) := of_decide_eq_true (by first | (with_reducible assumption) | assumption)
                        have hx19 := bt_at a0 x6_1
                        replace p19 := eq_true p19
                        replace q19 := eq_true q19
                        have p21 : 0 ≤ (x6_1 : Int) := of_decide_eq_true (by first | (with_reducible assumption) | assumption)
                        have q21 : x6_1 < (a0.size : Int) := of_decide_eq_true (by first | (with_reducible assumption) | assumption)
                        have hx21 := bt_at a0 x6_1
                        replace p21 := eq_true p21
                        replace q21 := eq_true q21
                        have p23 : 0 ≤ (x6_1 : Int) := of_decide_eq_true (by first | (with_reducible assumption) | assumption)
                        have q23 : x6_1 < (a0.size : Int) := of_decide_eq_true (by first | (with_reducible assumption) | assumption)
                        have hx23 := bt_at a0 x6_1
                        replace p23 := eq_true p23
                        replace q23 := eq_true q23
                        go_wp2
                        go_roundg k1
                        case measure => have := HK1.out; omega
                        case rel => exact ⟨(wrap64 (x6_1 + 1)), (by first | rfl | (simp; done) | (simp [*]; done)), H', ⟨by have := HK1.out; omega⟩, by repeat (first | exact Drawn0.refl _ | apply Drawn0.step)⟩
              · rw [if_neg c16] at H
                have c16b0 : decide (122 < (bt a0 x6_1)) = false := decide_eq_false c16
                clear c16
                have H' := Aside0.mk H
                clear H
                have p5 : 0 ≤ (x6_1 : Int) := of_decide_eq_true (by first | (with_reducible assumption) | assumption)
                have q5 : x6_1 < (a0.size : Int) := of_decide_eq_true (by first | (with_reducible assumption) | assumption)
                have hx5 := bt_at a0 x6_1
                replace p5 := eq_true p5
                replace q5 := eq_true q5
                have p15 : 0 ≤ (x6_1 : Int) := of_decide_eq_true (by first | (with_reducible assumption) | assumption)
                have q15 : x6_1 < (a0.size : Int) := of_decide_eq_true (by first | (with_reducible assumption) | assumption)
                have hx15 := bt_at a0 x6_1
                replace p15 := eq_true p15
                replace q15 := eq_true q15
                go_wp2
                go_roundg k1
                case measure => have := HK1.out; omega
                case rel => exact ⟨(wrap64 (x6_1 + 1)), (by first | rfl | (simp; done) | (simp [*]; done)), H', ⟨by have := HK1.out; omega⟩, by repeat (first | exact Drawn0.refl _ | apply Drawn0.step)⟩
          · rw [if_neg c4] at H
            exact absurd H (by simp)
        · rw [if_neg c3] at H
          exact absurd H (by simp)
      · rw [if_neg c2] at H
        have c2b0 : decide (x6_1 < (a0.size : Int)) = false := decide_eq_false c2
        clear c2
        obtain rfl := Option.some.inj H
        go_wp2
        go_ret
        exact ⟨by first | rfl | (simp; done) | (simp [*]; done), by repeat (first | exact Drawn0.refl _ | apply Drawn0.step)⟩
end Go.Proofs.YtcedefabmelogaaGreatDoor.PFnAllowed
