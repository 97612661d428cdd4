/- What spec.BySegments comes to. -/
import Derived.Test.YtcedefabmelogaaGreatDoorV02
namespace Go.Proofs.YtcedefabmelogaaGreatDoor.PFnAllowed
open Go.RowKit Go.Proofs.YtcedefabmelogaaGreatDoorW.PrintWords Go.Proofs.YtcedefabmelogaaGreatDoorW.PrintLast Go.Proofs.YtcedefabmelogaaGreatDoorW.PrintMore
attribute [local go_sem] max2_int min2_int max_two min_two max_three min_three max_four min_four   -- for this text's walks alone
set_option linter.unusedVariables false
set_option linter.unusedSimpArgs false
mutual
def spec_BySegments.j0 : Nat → Bool → ByteArray → Bool → Bool → ByteArray → Bool → Bool → Option (ByteArray)
  | 0, _, _, _, _, _, _, _ => none
  | k + 1, x5, x159000, x159001, x159002, x160000, x160001, x160002 => if x5 = true then (some (⟨#[101, 113, 117, 105, 118, 97, 108, 101, 110, 116]⟩ : ByteArray)) else (if x159002 = true then (some (⟨#[109, 111, 114, 101, 71, 101, 110, 101, 114, 97, 108]⟩ : ByteArray)) else (if x160002 = true then (some (⟨#[109, 111, 114, 101, 83, 112, 101, 99, 105, 102, 105, 99]⟩ : ByteArray)) else (if x159001 = true then (spec_BySegments.j1 k x160001 x159000 x159001 x159002 x160000 x160001 x160002) else (spec_BySegments.j1 k false x159000 x159001 x159002 x160000 x160001 x160002))))
def spec_BySegments.j1 : Nat → Bool → ByteArray → Bool → Bool → ByteArray → Bool → Bool → Option (ByteArray)
  | 0, _, _, _, _, _, _, _ => none
  | k + 1, x18, x159000, x159001, x159002, x160000, x160001, x160002 => if x18 = true then (some (⟨#[101, 113, 117, 105, 118, 97, 108, 101, 110, 116]⟩ : ByteArray)) else (if x159001 = true then (if x160000.toList = ([47] : List UInt8) then (some (⟨#[100, 105, 115, 106, 111, 105, 110, 116]⟩ : ByteArray)) else (some (⟨#[109, 111, 114, 101, 71, 101, 110, 101, 114, 97, 108]⟩ : ByteArray))) else (if x160001 = true then (if x159000.toList = ([47] : List UInt8) then (some (⟨#[100, 105, 115, 106, 111, 105, 110, 116]⟩ : ByteArray)) else (some (⟨#[109, 111, 114, 101, 83, 112, 101, 99, 105, 102, 105, 99]⟩ : ByteArray))) else (if x159000.toList = x160000.toList then (some (⟨#[101, 113, 117, 105, 118, 97, 108, 101, 110, 116]⟩ : ByteArray)) else (some (⟨#[100, 105, 115, 106, 111, 105, 110, 116]⟩ : ByteArray)))))
end
def spec_BySegments.f (k : Nat) (a0_0 : ByteArray) (a0_1 : Bool) (a0_2 : Bool) (a1_0 : ByteArray) (a1_1 : Bool) (a1_2 : Bool) : Option (ByteArray) := if a0_2 = true then (spec_BySegments.j0 k a1_2 a0_0 a0_1 a0_2 a1_0 a1_1 a1_2) else (spec_BySegments.j0 k false a0_0 a0_1 a0_2 a1_0 a1_1 a1_2)
theorem spec_BySegments.mono_l : ∀ k, (∀ y0 y1 y2 y3 y4 y5 y6, LeO (spec_BySegments.j0 k y0 y1 y2 y3 y4 y5 y6) (spec_BySegments.j0 (k + 1) y0 y1 y2 y3 y4 y5 y6)) ∧ (∀ y0 y1 y2 y3 y4 y5 y6, LeO (spec_BySegments.j1 k y0 y1 y2 y3 y4 y5 y6) (spec_BySegments.j1 (k + 1) y0 y1 y2 y3 y4 y5 y6))
  | 0 => ⟨fun _ _ _ _ _ _ _ r h => by simp [spec_BySegments.j0] at h, fun _ _ _ _ _ _ _ r h => by simp [spec_BySegments.j1] at h⟩
  | k + 1 => by
    obtain ⟨ih0, ih1⟩ := spec_BySegments.mono_l k
    refine ⟨?_, ?_⟩
    · intro y0 y1 y2 y3 y4 y5 y6
      unfold spec_BySegments.j0
      repeat' first
      | (with_reducible exact ih0 _ _ _ _ _ _ _)
      | (with_reducible exact ih1 _ _ _ _ _ _ _)
      | (with_reducible exact LeO.refl _)
      | (with_reducible exact LeO.none _)
      | (with_reducible refine LeO.ite ?_ ?_)
      | (with_reducible refine LeO.bind ?_ (fun _ => ?_))
      | exact ih0 _ _ _ _ _ _ _
      | exact ih1 _ _ _ _ _ _ _
      | exact LeO.none _
      | refine LeO.ite ?_ ?_
      | refine LeO.bind ?_ (fun _ => ?_)
    · intro y0 y1 y2 y3 y4 y5 y6
      unfold spec_BySegments.j1
      repeat' first
      | (with_reducible exact ih0 _ _ _ _ _ _ _)
      | (with_reducible exact ih1 _ _ _ _ _ _ _)
      | (with_reducible exact LeO.refl _)
      | (with_reducible exact LeO.none _)
      | (with_reducible refine LeO.ite ?_ ?_)
      | (with_reducible refine LeO.bind ?_ (fun _ => ?_))
      | exact ih0 _ _ _ _ _ _ _
      | exact ih1 _ _ _ _ _ _ _
      | exact LeO.none _
      | refine LeO.ite ?_ ?_
      | refine LeO.bind ?_ (fun _ => ?_)
theorem spec_BySegments.mono : ∀ a0 a1 a2 a3 a4 a5 k, LeO (spec_BySegments.f k a0 a1 a2 a3 a4 a5) (spec_BySegments.f (k + 1) a0 a1 a2 a3 a4 a5) := by
  intro a0 a1 a2 a3 a4 a5 k
  obtain ⟨ih0, ih1⟩ := spec_BySegments.mono_l k
  unfold spec_BySegments.f
  repeat' first
      | (with_reducible exact ih0 _ _ _ _ _ _ _)
      | (with_reducible exact ih1 _ _ _ _ _ _ _)
      | (with_reducible exact LeO.refl _)
      | (with_reducible exact LeO.none _)
      | (with_reducible refine LeO.ite ?_ ?_)
      | (with_reducible refine LeO.bind ?_ (fun _ => ?_))
      | exact ih0 _ _ _ _ _ _ _
      | exact ih1 _ _ _ _ _ _ _
      | exact LeO.none _
      | refine LeO.ite ?_ ?_
      | refine LeO.bind ?_ (fun _ => ?_)
set_option maxHeartbeats 8000000 in
set_option maxRecDepth 100000 in
theorem spec_BySegments.calls (k : Nat) (a0_0 : ByteArray) (a0_1 : Bool) (a0_2 : Bool) (a1_0 : ByteArray) (a1_1 : Bool) (a1_2 : Bool) (r : ByteArray) (w : World) (h : spec_BySegments.f k a0_0 a0_1 a0_2 a1_0 a1_1 a1_2 = some r) :
    Calls Tryz.prog 34 #[.agg #[.string a0_0, .bool a0_1, .bool a0_2], .agg #[.string a1_0, .bool a1_1, .bool a1_2]] w fun e w' => e = .returned (.string r) ∧ Below w.heap.size w w' := by
  have hu52 := Tryz.underlying52
  have HB := Aside0.mk (Below.refl w.heap.size w)
  have H : (if a0_2 = true then (spec_BySegments.j0 k a1_2 a0_0 a0_1 a0_2 a1_0 a1_1 a1_2) else (spec_BySegments.j0 k false a0_0 a0_1 a0_2 a1_0 a1_1 a1_2)) = some r := h
  clear h
  have HC3 := Aside0.mk H
  clear H
  go_enter Tryz.func34, Tryz.ntmps34
  go_upto_region 1 with (first | ((with_reducible refine gate_dst (N := 2) rfl ?_); refine box_event ?hg (N := 2) ?hd (cs := #[.string a0_0, .bool a0_1, .bool a0_2]) (t := 52) ?hr ?_; (case hd => rfl); (case hg => rfl); (case hr => first | (go_simp; done) | (go_simp; rfl)); intro gb158 hg w4 hbox hb; have n0_ := Aside0.mk (below_step (by repeat (first | (with_reducible first | exact HB.out | apply below_alloc | apply pw_below_drewN | apply below_drew1) | exact HB.out)) hb); have n1_ := Aside0.mk (hbox); have n2_ := Aside0.mk ((by rw [hg]; exact (below_size (by repeat (first | (with_reducible first | exact HB.out | apply below_alloc | apply pw_below_drewN | apply below_drew1) | exact HB.out))) : w.heap.size ≤ gb158)); have n3_ := Aside0.mk ((by rw [hg]; exact (below_size (by repeat (first | (with_reducible first | exact HB.out | apply below_alloc | apply pw_below_drewN | apply below_drew1) | exact HB.out))) : w.heap.size ≤ gb158)); clear HB; have HB := n0_; have BK158 := n1_; have GW158 := n2_; have GE158 := n3_; clear n0_ n1_ n2_ n3_; clear hb hbox hg) | ((with_reducible refine gate_dst (N := 3) rfl ?_); refine box_event ?hg (N := 3) ?hd (cs := #[.string a1_0, .bool a1_1, .bool a1_2]) (t := 52) ?hr ?_; (case hd => rfl); (case hg => rfl); (case hr => first | (go_simp; done) | (go_simp; rfl)); intro gb159 hg w5 hbox hb; have n0_ := Aside0.mk (blk_below (g := gb158) (o := .cells #[.string a0_0, .bool a0_1, .bool a0_2] 52 (0, 0)) (by (with_reducible repeat (first | refine blk_drewN ?_ _ | refine blk_drew ?_ | refine blk_alloc ?_ _)); exact BK158.out) hb); have n1_ := Aside0.mk (below_step (by repeat (first | (with_reducible first | exact HB.out | apply below_alloc | apply pw_below_drewN | apply below_drew1 | refine below_set ?_ GE158.out) | exact HB.out)) hb); have n2_ := Aside0.mk (hbox); have n3_ := Aside0.mk ((by rw [hg]; exact (below_size (by repeat (first | (with_reducible first | exact HB.out | apply below_alloc | apply pw_below_drewN | apply below_drew1 | refine below_set ?_ GE158.out) | exact HB.out))) : w.heap.size ≤ gb159)); have n4_ := Aside0.mk ((by rw [hg]; exact (below_size (by repeat (first | (with_reducible first | exact HB.out | apply below_alloc | apply pw_below_drewN | apply below_drew1 | refine below_set ?_ GE158.out) | exact HB.out))) : w.heap.size ≤ gb159)); have n5_ := Aside0.mk ((by rw [hg]; exact Nat.ne_of_lt (blk_lt (g := gb158) (o := .cells #[.string a0_0, .bool a0_1, .bool a0_2] 52 (0, 0)) (by (with_reducible repeat (first | refine blk_drewN ?_ _ | refine blk_drew ?_ | refine blk_alloc ?_ _)); exact BK158.out)) : gb158 ≠ gb159)); have n6_ := Aside0.mk ((by rw [hg]; exact Nat.ne_of_gt (blk_lt (g := gb158) (o := .cells #[.string a0_0, .bool a0_1, .bool a0_2] 52 (0, 0)) (by (with_reducible repeat (first | refine blk_drewN ?_ _ | refine blk_drew ?_ | refine blk_alloc ?_ _)); exact BK158.out)) : gb159 ≠ gb158)); clear BK158; clear HB; have BK158 := n0_; have HB := n1_; have BK159 := n2_; have GW159 := n3_; have GE159 := n4_; have NB158_159 := n5_; have NB159_158 := n6_; clear n0_ n1_ n2_ n3_ n4_ n5_ n6_; clear hb hbox hg))
  (try simp only [Act.put, List.setIfInBounds_toArray, List.set_cons_zero, List.set_cons_succ])
  go_cut [5] (fun v5 wc => ∃ (kq : Nat) (x5_2 : Bool), v5 = .bool x5_2 ∧ Aside0 (spec_BySegments.j0 kq x5_2 a0_0 a0_1 a0_2 a1_0 a1_1 a1_2 = some r) ∧ Aside0 (kq ≤ k) ∧ Aside0 (wc.heap[gb158]? = some (.cells #[.string a0_0, .bool a0_1, .bool a0_2] 52 (0, 0))) ∧ Aside0 (wc.heap[gb159]? = some (.cells #[.string a1_0, .bool a1_1, .bool a1_2] 52 (0, 0))) ∧ Aside0 (Below w.heap.size w wc))
  case first =>
    have H := HC3.out
    clear HC3
    by_cases c6 : a0_2 = true
    · subst c6
      have H1 : (spec_BySegments.j0 k a1_2 a0_0 a0_1 true a1_0 a1_1 a1_2) = some r := by rw [if_pos rfl] at H; exact H
      clear H
      have H := H1
      clear H1
      have H' := Aside0.mk H
      clear H
      have hnb7 := NB158_159.out
      have hnc7 := NB159_158.out
      have hcz8_0 : w5.cell? ⟨gb158, 0, none⟩ = some (.string a0_0) := (blk_cell BK158.out 0).trans rfl
      have hcz8_1 : w5.cell? ⟨gb158, 1, none⟩ = some (.bool a0_1) := (blk_cell BK158.out 1).trans rfl
      have hcz8_2 : w5.cell? ⟨gb158, 2, none⟩ = some (.bool true) := (blk_cell BK158.out 2).trans rfl
      have hfz8_0 := blk_frozen BK158.out 0
      have hfz8_1 := blk_frozen BK158.out 1
      have hfz8_2 := blk_frozen BK158.out 2
      have hcz9_0 : w5.cell? ⟨gb159, 0, none⟩ = some (.string a1_0) := (blk_cell BK159.out 0).trans rfl
      have hcz9_1 : w5.cell? ⟨gb159, 1, none⟩ = some (.bool a1_1) := (blk_cell BK159.out 1).trans rfl
      have hcz9_2 : w5.cell? ⟨gb159, 2, none⟩ = some (.bool a1_2) := (blk_cell BK159.out 2).trans rfl
      have hfz9_0 := blk_frozen BK159.out 0
      have hfz9_1 := blk_frozen BK159.out 1
      have hfz9_2 := blk_frozen BK159.out 2
      go_wp2
      go_meet
      case rel => exact ⟨_, (a1_2), (by first | rfl | (simp; done) | (simp [*]; done)), H', ⟨by first | omega | exact Nat.le_refl _⟩, ⟨by (with_reducible repeat (first | refine blk_drewN ?_ _ | refine blk_drew ?_ | refine blk_alloc ?_ _)); exact BK158.out⟩, ⟨by (with_reducible repeat (first | refine blk_drewN ?_ _ | refine blk_drew ?_ | refine blk_alloc ?_ _)); exact BK159.out⟩, ⟨by repeat (first | (with_reducible first | exact HB.out | apply below_alloc | apply pw_below_drewN | apply below_drew1 | refine below_set ?_ GE158.out | refine below_set ?_ GE159.out) | exact HB.out)⟩⟩
    · replace c6 := Bool.eq_false_iff.mpr c6
      subst c6
      have H1 : (spec_BySegments.j0 k false a0_0 a0_1 false a1_0 a1_1 a1_2) = some r := by rw [if_neg (show ¬ (false = true) by decide)] at H; exact H
      clear H
      have H := H1
      clear H1
      have H' := Aside0.mk H
      clear H
      have hnb10 := NB158_159.out
      have hnc10 := NB159_158.out
      have hcz11_0 : w5.cell? ⟨gb158, 0, none⟩ = some (.string a0_0) := (blk_cell BK158.out 0).trans rfl
      have hcz11_1 : w5.cell? ⟨gb158, 1, none⟩ = some (.bool a0_1) := (blk_cell BK158.out 1).trans rfl
      have hcz11_2 : w5.cell? ⟨gb158, 2, none⟩ = some (.bool false) := (blk_cell BK158.out 2).trans rfl
      have hfz11_0 := blk_frozen BK158.out 0
      have hfz11_1 := blk_frozen BK158.out 1
      have hfz11_2 := blk_frozen BK158.out 2
      go_wp2
      go_meet
      case rel => exact ⟨_, (false), (by first | rfl | (simp; done) | (simp [*]; done)), H', ⟨by first | omega | exact Nat.le_refl _⟩, ⟨by (with_reducible repeat (first | refine blk_drewN ?_ _ | refine blk_drew ?_ | refine blk_alloc ?_ _)); exact BK158.out⟩, ⟨by (with_reducible repeat (first | refine blk_drewN ?_ _ | refine blk_drew ?_ | refine blk_alloc ?_ _)); exact BK159.out⟩, ⟨by repeat (first | (with_reducible first | exact HB.out | apply below_alloc | apply pw_below_drewN | apply below_drew1 | refine below_set ?_ GE158.out | refine below_set ?_ GE159.out) | exact HB.out)⟩⟩
  case rest =>
    clear HC3
    try clear c1
    try clear p2
    try clear c3
    try clear c6
    try clear c7
    try clear c10
    try clear hcz11_0
    try clear hcz11_1
    try clear hcz11_2
    try clear hcz8_0
    try clear hcz8_1
    try clear hcz8_2
    try clear hcz9_0
    try clear hcz9_1
    try clear hcz9_2
    try clear hfz11_0
    try clear hfz11_1
    try clear hfz11_2
    try clear hfz8_0
    try clear hfz8_1
    try clear hfz8_2
    try clear hfz9_0
    try clear hfz9_1
    try clear hfz9_2
    obtain ⟨kq, x5_2, rfl, HA, HJ2, BK158, BK159, HB⟩ := hcut
    cases kq with
    | zero => exact absurd HA.out (by simp [spec_BySegments.j0])
    | succ kj2 =>
      have H := HA.out
      clear HA
      simp only [spec_BySegments.j0] at H
      by_cases c12 : x5_2 = true
      · subst c12
        have H1 : (some (⟨#[101, 113, 117, 105, 118, 97, 108, 101, 110, 116]⟩ : ByteArray)) = some r := by rw [if_pos rfl] at H; exact H
        clear H
        have H := H1
        clear H1
        obtain rfl := Option.some.inj H
        go_wp2
        go_ret
        exact ⟨by first | rfl | (simp [errW_none, errW_some] <;> rfl) | (simp [*, errW_none, errW_some] <;> rfl), by repeat (first | (with_reducible first | exact HB.out | apply below_alloc | apply pw_below_drewN | apply below_drew1 | refine below_set ?_ GE158.out | refine below_set ?_ GE159.out) | exact HB.out)⟩
      · replace c12 := Bool.eq_false_iff.mpr c12
        subst c12
        have H1 : (if a0_2 = true then (some (⟨#[109, 111, 114, 101, 71, 101, 110, 101, 114, 97, 108]⟩ : ByteArray)) else (if a1_2 = true then (some (⟨#[109, 111, 114, 101, 83, 112, 101, 99, 105, 102, 105, 99]⟩ : ByteArray)) else (if a0_1 = true then (spec_BySegments.j1 kj2 a1_1 a0_0 a0_1 a0_2 a1_0 a1_1 a1_2) else (spec_BySegments.j1 kj2 false a0_0 a0_1 a0_2 a1_0 a1_1 a1_2)))) = some r := by rw [if_neg (show ¬ (false = true) by decide)] at H; exact H
        clear H
        have H := H1
        clear H1
        by_cases c13 : a0_2 = true
        · subst c13
          have H1 : (some (⟨#[109, 111, 114, 101, 71, 101, 110, 101, 114, 97, 108]⟩ : ByteArray)) = some r := by rw [if_pos rfl] at H; exact H
          clear H
          have H := H1
          clear H1
          obtain rfl := Option.some.inj H
          have hnb14 := NB158_159.out
          have hnc14 := NB159_158.out
          have hcz15_0 : wc.cell? ⟨gb158, 0, none⟩ = some (.string a0_0) := (blk_cell BK158.out 0).trans rfl
          have hcz15_1 : wc.cell? ⟨gb158, 1, none⟩ = some (.bool a0_1) := (blk_cell BK158.out 1).trans rfl
          have hcz15_2 : wc.cell? ⟨gb158, 2, none⟩ = some (.bool true) := (blk_cell BK158.out 2).trans rfl
          have hfz15_0 := blk_frozen BK158.out 0
          have hfz15_1 := blk_frozen BK158.out 1
          have hfz15_2 := blk_frozen BK158.out 2
          go_wp2
          go_ret
          exact ⟨by first | rfl | (simp [errW_none, errW_some] <;> rfl) | (simp [*, errW_none, errW_some] <;> rfl), by repeat (first | (with_reducible first | exact HB.out | apply below_alloc | apply pw_below_drewN | apply below_drew1 | refine below_set ?_ GE158.out | refine below_set ?_ GE159.out) | exact HB.out)⟩
        · replace c13 := Bool.eq_false_iff.mpr c13
          subst c13
          have H1 : (if a1_2 = true then (some (⟨#[109, 111, 114, 101, 83, 112, 101, 99, 105, 102, 105, 99]⟩ : ByteArray)) else (if a0_1 = true then (spec_BySegments.j1 kj2 a1_1 a0_0 a0_1 false a1_0 a1_1 a1_2) else (spec_BySegments.j1 kj2 false a0_0 a0_1 false a1_0 a1_1 a1_2))) = some r := by rw [if_neg (show ¬ (false = true) by decide)] at H; exact H
          clear H
          have H := H1
          clear H1
          by_cases c16 : a1_2 = true
          · subst c16
            have H1 : (some (⟨#[109, 111, 114, 101, 83, 112, 101, 99, 105, 102, 105, 99]⟩ : ByteArray)) = some r := by rw [if_pos rfl] at H; exact H
            clear H
            have H := H1
            clear H1
            obtain rfl := Option.some.inj H
            have hnb17 := NB158_159.out
            have hnc17 := NB159_158.out
            have hcz18_0 : wc.cell? ⟨gb158, 0, none⟩ = some (.string a0_0) := (blk_cell BK158.out 0).trans rfl
            have hcz18_1 : wc.cell? ⟨gb158, 1, none⟩ = some (.bool a0_1) := (blk_cell BK158.out 1).trans rfl
            have hcz18_2 : wc.cell? ⟨gb158, 2, none⟩ = some (.bool false) := (blk_cell BK158.out 2).trans rfl
            have hfz18_0 := blk_frozen BK158.out 0
            have hfz18_1 := blk_frozen BK158.out 1
            have hfz18_2 := blk_frozen BK158.out 2
            have hcz19_0 : wc.cell? ⟨gb159, 0, none⟩ = some (.string a1_0) := (blk_cell BK159.out 0).trans rfl
            have hcz19_1 : wc.cell? ⟨gb159, 1, none⟩ = some (.bool a1_1) := (blk_cell BK159.out 1).trans rfl
            have hcz19_2 : wc.cell? ⟨gb159, 2, none⟩ = some (.bool true) := (blk_cell BK159.out 2).trans rfl
            have hfz19_0 := blk_frozen BK159.out 0
            have hfz19_1 := blk_frozen BK159.out 1
            have hfz19_2 := blk_frozen BK159.out 2
            go_wp2
            go_ret
            exact ⟨by first | rfl | (simp [errW_none, errW_some] <;> rfl) | (simp [*, errW_none, errW_some] <;> rfl), by repeat (first | (with_reducible first | exact HB.out | apply below_alloc | apply pw_below_drewN | apply below_drew1 | refine below_set ?_ GE158.out | refine below_set ?_ GE159.out) | exact HB.out)⟩
          · replace c16 := Bool.eq_false_iff.mpr c16
            subst c16
            have H1 : (if a0_1 = true then (spec_BySegments.j1 kj2 a1_1 a0_0 a0_1 false a1_0 a1_1 false) else (spec_BySegments.j1 kj2 false a0_0 a0_1 false a1_0 a1_1 false)) = some r := by rw [if_neg (show ¬ (false = true) by decide)] at H; exact H
            clear H
            have H := H1
            clear H1
            have HC20 := Aside0.mk H
            clear H
            have hnb21 := NB158_159.out
            have hnc21 := NB159_158.out
            have hcz22_0 : wc.cell? ⟨gb158, 0, none⟩ = some (.string a0_0) := (blk_cell BK158.out 0).trans rfl
            have hcz22_1 : wc.cell? ⟨gb158, 1, none⟩ = some (.bool a0_1) := (blk_cell BK158.out 1).trans rfl
            have hcz22_2 : wc.cell? ⟨gb158, 2, none⟩ = some (.bool false) := (blk_cell BK158.out 2).trans rfl
            have hfz22_0 := blk_frozen BK158.out 0
            have hfz22_1 := blk_frozen BK158.out 1
            have hfz22_2 := blk_frozen BK158.out 2
            have hcz23_0 : wc.cell? ⟨gb159, 0, none⟩ = some (.string a1_0) := (blk_cell BK159.out 0).trans rfl
            have hcz23_1 : wc.cell? ⟨gb159, 1, none⟩ = some (.bool a1_1) := (blk_cell BK159.out 1).trans rfl
            have hcz23_2 : wc.cell? ⟨gb159, 2, none⟩ = some (.bool false) := (blk_cell BK159.out 2).trans rfl
            have hfz23_0 := blk_frozen BK159.out 0
            have hfz23_1 := blk_frozen BK159.out 1
            have hfz23_2 := blk_frozen BK159.out 2
            go_upto_region 7 with (fail)
            go_cut [18] (fun v18 wc => ∃ (kq : Nat) (x18_19 : Bool), v18 = .bool x18_19 ∧ Aside0 (spec_BySegments.j1 kq x18_19 a0_0 a0_1 false a1_0 a1_1 false = some r) ∧ Aside0 (kq ≤ kj2) ∧ Aside0 (wc.heap[gb158]? = some (.cells #[.string a0_0, .bool a0_1, .bool false] 52 (0, 0))) ∧ Aside0 (wc.heap[gb159]? = some (.cells #[.string a1_0, .bool a1_1, .bool false] 52 (0, 0))) ∧ Aside0 (Below w.heap.size w wc))
            case first =>
              have H := HC20.out
              clear HC20
              by_cases c24 : a0_1 = true
              · subst c24
                have H1 : (spec_BySegments.j1 kj2 a1_1 a0_0 true false a1_0 a1_1 false) = some r := by rw [if_pos rfl] at H; exact H
                clear H
                have H := H1
                clear H1
                have H' := Aside0.mk H
                clear H
                have hnb25 := NB158_159.out
                have hnc25 := NB159_158.out
                have hcz26_0 : wc.cell? ⟨gb158, 0, none⟩ = some (.string a0_0) := (blk_cell BK158.out 0).trans rfl
                have hcz26_1 : wc.cell? ⟨gb158, 1, none⟩ = some (.bool true) := (blk_cell BK158.out 1).trans rfl
                have hcz26_2 : wc.cell? ⟨gb158, 2, none⟩ = some (.bool false) := (blk_cell BK158.out 2).trans rfl
                have hfz26_0 := blk_frozen BK158.out 0
                have hfz26_1 := blk_frozen BK158.out 1
                have hfz26_2 := blk_frozen BK158.out 2
                have hcz27_0 : wc.cell? ⟨gb159, 0, none⟩ = some (.string a1_0) := (blk_cell BK159.out 0).trans rfl
                have hcz27_1 : wc.cell? ⟨gb159, 1, none⟩ = some (.bool a1_1) := (blk_cell BK159.out 1).trans rfl
                have hcz27_2 : wc.cell? ⟨gb159, 2, none⟩ = some (.bool false) := (blk_cell BK159.out 2).trans rfl
                have hfz27_0 := blk_frozen BK159.out 0
                have hfz27_1 := blk_frozen BK159.out 1
                have hfz27_2 := blk_frozen BK159.out 2
                go_wp2
                go_meet
                case rel => exact ⟨_, (a1_1), (by first | rfl | (simp; done) | (simp [*]; done)), H', ⟨by have := HJ2.out; first | omega | exact Nat.le_refl _⟩, ⟨by (with_reducible repeat (first | refine blk_drewN ?_ _ | refine blk_drew ?_ | refine blk_alloc ?_ _)); exact BK158.out⟩, ⟨by (with_reducible repeat (first | refine blk_drewN ?_ _ | refine blk_drew ?_ | refine blk_alloc ?_ _)); exact BK159.out⟩, ⟨by repeat (first | (with_reducible first | exact HB.out | apply below_alloc | apply pw_below_drewN | apply below_drew1 | refine below_set ?_ GE158.out | refine below_set ?_ GE159.out) | exact HB.out)⟩⟩
              · replace c24 := Bool.eq_false_iff.mpr c24
                subst c24
                have H1 : (spec_BySegments.j1 kj2 false a0_0 false false a1_0 a1_1 false) = some r := by rw [if_neg (show ¬ (false = true) by decide)] at H; exact H
                clear H
                have H := H1
                clear H1
                have H' := Aside0.mk H
                clear H
                have hnb28 := NB158_159.out
                have hnc28 := NB159_158.out
                have hcz29_0 : wc.cell? ⟨gb158, 0, none⟩ = some (.string a0_0) := (blk_cell BK158.out 0).trans rfl
                have hcz29_1 : wc.cell? ⟨gb158, 1, none⟩ = some (.bool false) := (blk_cell BK158.out 1).trans rfl
                have hcz29_2 : wc.cell? ⟨gb158, 2, none⟩ = some (.bool false) := (blk_cell BK158.out 2).trans rfl
                have hfz29_0 := blk_frozen BK158.out 0
                have hfz29_1 := blk_frozen BK158.out 1
                have hfz29_2 := blk_frozen BK158.out 2
                go_wp2
                go_meet
                case rel => exact ⟨_, (false), (by first | rfl | (simp; done) | (simp [*]; done)), H', ⟨by have := HJ2.out; first | omega | exact Nat.le_refl _⟩, ⟨by (with_reducible repeat (first | refine blk_drewN ?_ _ | refine blk_drew ?_ | refine blk_alloc ?_ _)); exact BK158.out⟩, ⟨by (with_reducible repeat (first | refine blk_drewN ?_ _ | refine blk_drew ?_ | refine blk_alloc ?_ _)); exact BK159.out⟩, ⟨by repeat (first | (with_reducible first | exact HB.out | apply below_alloc | apply pw_below_drewN | apply below_drew1 | refine below_set ?_ GE158.out | refine below_set ?_ GE159.out) | exact HB.out)⟩⟩
            case rest =>
              clear HC20
              try clear c1
              try clear c2
              try clear p2
              try clear c3
              try clear c6
              try clear c7
              try clear c10
              try clear c12
              try clear c13
              try clear c14
              try clear c16
              try clear c17
              try clear c21
              try clear c24
              try clear c25
              try clear c28
              try clear hcz11_0
              try clear hcz11_1
              try clear hcz11_2
              try clear hcz15_0
              try clear hcz15_1
              try clear hcz15_2
              try clear hcz18_0
              try clear hcz18_1
              try clear hcz18_2
              try clear hcz19_0
              try clear hcz19_1
              try clear hcz19_2
              try clear hcz22_0
              try clear hcz22_1
              try clear hcz22_2
              try clear hcz23_0
              try clear hcz23_1
              try clear hcz23_2
              try clear hcz26_0
              try clear hcz26_1
              try clear hcz26_2
              try clear hcz27_0
              try clear hcz27_1
              try clear hcz27_2
              try clear hcz29_0
              try clear hcz29_1
              try clear hcz29_2
              try clear hcz8_0
              try clear hcz8_1
              try clear hcz8_2
              try clear hcz9_0
              try clear hcz9_1
              try clear hcz9_2
              try clear hfz11_0
              try clear hfz11_1
              try clear hfz11_2
              try clear hfz15_0
              try clear hfz15_1
              try clear hfz15_2
              try clear hfz18_0
              try clear hfz18_1
              try clear hfz18_2
              try clear hfz19_0
              try clear hfz19_1
              try clear hfz19_2
              try clear hfz22_0
              try clear hfz22_1
              try clear hfz22_2
              try clear hfz23_0
              try clear hfz23_1
              try clear hfz23_2
              try clear hfz26_0
              try clear hfz26_1
              try clear hfz26_2
              try clear hfz27_0
              try clear hfz27_1
              try clear hfz27_2
              try clear hfz29_0
              try clear hfz29_1
              try clear hfz29_2
              try clear hfz8_0
              try clear hfz8_1
              try clear hfz8_2
              try clear hfz9_0
              try clear hfz9_1
              try clear hfz9_2
              try clear p2
              obtain ⟨kq, x18_19, rfl, HA, HJ19, BK158, BK159, HB⟩ := hcut
              cases kq with
              | zero => exact absurd HA.out (by simp [spec_BySegments.j1])
              | succ kj19 =>
                have H := HA.out
                clear HA
                simp only [spec_BySegments.j1] at H
                by_cases c30 : x18_19 = true
                · subst c30
                  have H1 : (some (⟨#[101, 113, 117, 105, 118, 97, 108, 101, 110, 116]⟩ : ByteArray)) = some r := by rw [if_pos rfl] at H; exact H
                  clear H
                  have H := H1
                  clear H1
                  obtain rfl := Option.some.inj H
                  go_wp2
                  go_ret
                  exact ⟨by first | rfl | (simp [errW_none, errW_some] <;> rfl) | (simp [*, errW_none, errW_some] <;> rfl), by repeat (first | (with_reducible first | exact HB.out | apply below_alloc | apply pw_below_drewN | apply below_drew1 | refine below_set ?_ GE158.out | refine below_set ?_ GE159.out) | exact HB.out)⟩
                · replace c30 := Bool.eq_false_iff.mpr c30
                  subst c30
                  have H1 : (if a0_1 = true then (if a1_0.toList = ([47] : List UInt8) then (some (⟨#[100, 105, 115, 106, 111, 105, 110, 116]⟩ : ByteArray)) else (some (⟨#[109, 111, 114, 101, 71, 101, 110, 101, 114, 97, 108]⟩ : ByteArray))) else (if a1_1 = true then (if a0_0.toList = ([47] : List UInt8) then (some (⟨#[100, 105, 115, 106, 111, 105, 110, 116]⟩ : ByteArray)) else (some (⟨#[109, 111, 114, 101, 83, 112, 101, 99, 105, 102, 105, 99]⟩ : ByteArray))) else (if a0_0.toList = a1_0.toList then (some (⟨#[101, 113, 117, 105, 118, 97, 108, 101, 110, 116]⟩ : ByteArray)) else (some (⟨#[100, 105, 115, 106, 111, 105, 110, 116]⟩ : ByteArray))))) = some r := by rw [if_neg (show ¬ (false = true) by decide)] at H; exact H
                  clear H
                  have H := H1
                  clear H1
                  by_cases c31 : a0_1 = true
                  · subst c31
                    have H1 : (if a1_0.toList = ([47] : List UInt8) then (some (⟨#[100, 105, 115, 106, 111, 105, 110, 116]⟩ : ByteArray)) else (some (⟨#[109, 111, 114, 101, 71, 101, 110, 101, 114, 97, 108]⟩ : ByteArray))) = some r := by rw [if_pos rfl] at H; exact H
                    clear H
                    have H := H1
                    clear H1
                    by_cases c32 : a1_0.toList = ([47] : List UInt8)
                    · rw [if_pos c32] at H
                      have c32b0 : (a1_0.toList == ([47] : List UInt8)) = true := beq_iff_eq.mpr c32
                      have c32b1 : (a1_0.toList != ([47] : List UInt8)) = false := bne_eq_false_iff_eq.mpr c32
                      clear c32
                      obtain rfl := Option.some.inj H
                      have hnb33 := NB158_159.out
                      have hnc33 := NB159_158.out
                      have hcz34_0 : wc.cell? ⟨gb158, 0, none⟩ = some (.string a0_0) := (blk_cell BK158.out 0).trans rfl
                      have hcz34_1 : wc.cell? ⟨gb158, 1, none⟩ = some (.bool true) := (blk_cell BK158.out 1).trans rfl
                      have hcz34_2 : wc.cell? ⟨gb158, 2, none⟩ = some (.bool false) := (blk_cell BK158.out 2).trans rfl
                      have hfz34_0 := blk_frozen BK158.out 0
                      have hfz34_1 := blk_frozen BK158.out 1
                      have hfz34_2 := blk_frozen BK158.out 2
                      have hcz35_0 : wc.cell? ⟨gb159, 0, none⟩ = some (.string a1_0) := (blk_cell BK159.out 0).trans rfl
                      have hcz35_1 : wc.cell? ⟨gb159, 1, none⟩ = some (.bool a1_1) := (blk_cell BK159.out 1).trans rfl
                      have hcz35_2 : wc.cell? ⟨gb159, 2, none⟩ = some (.bool false) := (blk_cell BK159.out 2).trans rfl
                      have hfz35_0 := blk_frozen BK159.out 0
                      have hfz35_1 := blk_frozen BK159.out 1
                      have hfz35_2 := blk_frozen BK159.out 2
                      go_wp2
                      go_ret
                      exact ⟨by first | rfl | (simp [errW_none, errW_some] <;> rfl) | (simp [*, errW_none, errW_some] <;> rfl), by repeat (first | (with_reducible first | exact HB.out | apply below_alloc | apply pw_below_drewN | apply below_drew1 | refine below_set ?_ GE158.out | refine below_set ?_ GE159.out) | exact HB.out)⟩
                    · rw [if_neg c32] at H
                      have c32b0 : (a1_0.toList == ([47] : List UInt8)) = false := beq_eq_false_iff_ne.mpr c32
                      have c32b1 : (a1_0.toList != ([47] : List UInt8)) = true := bne_iff_ne.mpr c32
                      obtain rfl := Option.some.inj H
                      have hnb36 := NB158_159.out
                      have hnc36 := NB159_158.out
                      have hcz37_0 : wc.cell? ⟨gb158, 0, none⟩ = some (.string a0_0) := (blk_cell BK158.out 0).trans rfl
                      have hcz37_1 : wc.cell? ⟨gb158, 1, none⟩ = some (.bool true) := (blk_cell BK158.out 1).trans rfl
                      have hcz37_2 : wc.cell? ⟨gb158, 2, none⟩ = some (.bool false) := (blk_cell BK158.out 2).trans rfl
                      have hfz37_0 := blk_frozen BK158.out 0
                      have hfz37_1 := blk_frozen BK158.out 1
                      have hfz37_2 := blk_frozen BK158.out 2
                      have hcz38_0 : wc.cell? ⟨gb159, 0, none⟩ = some (.string a1_0) := (blk_cell BK159.out 0).trans rfl
                      have hcz38_1 : wc.cell? ⟨gb159, 1, none⟩ = some (.bool a1_1) := (blk_cell BK159.out 1).trans rfl
                      have hcz38_2 : wc.cell? ⟨gb159, 2, none⟩ = some (.bool false) := (blk_cell BK159.out 2).trans rfl
                      have hfz38_0 := blk_frozen BK159.out 0
                      have hfz38_1 := blk_frozen BK159.out 1
                      have hfz38_2 := blk_frozen BK159.out 2
                      go_wp2
                      go_ret
                      exact ⟨by first | rfl | (simp [errW_none, errW_some] <;> rfl) | (simp [*, errW_none, errW_some] <;> rfl), by repeat (first | (with_reducible first | exact HB.out | apply below_alloc | apply pw_below_drewN | apply below_drew1 | refine below_set ?_ GE158.out | refine below_set ?_ GE159.out) | exact HB.out)⟩
                  · replace c31 := Bool.eq_false_iff.mpr c31
                    subst c31
                    have H1 : (if a1_1 = true then (if a0_0.toList = ([47] : List UInt8) then (some (⟨#[100, 105, 115, 106, 111, 105, 110, 116]⟩ : ByteArray)) else (some (⟨#[109, 111, 114, 101, 83, 112, 101, 99, 105, 102, 105, 99]⟩ : ByteArray))) else (if a0_0.toList = a1_0.toList then (some (⟨#[101, 113, 117, 105, 118, 97, 108, 101, 110, 116]⟩ : ByteArray)) else (some (⟨#[100, 105, 115, 106, 111, 105, 110, 116]⟩ : ByteArray)))) = some r := by rw [if_neg (show ¬ (false = true) by decide)] at H; exact H
                    clear H
                    have H := H1
                    clear H1
                    by_cases c39 : a1_1 = true
                    · subst c39
                      have H1 : (if a0_0.toList = ([47] : List UInt8) then (some (⟨#[100, 105, 115, 106, 111, 105, 110, 116]⟩ : ByteArray)) else (some (⟨#[109, 111, 114, 101, 83, 112, 101, 99, 105, 102, 105, 99]⟩ : ByteArray))) = some r := by rw [if_pos rfl] at H; exact H
                      clear H
                      have H := H1
                      clear H1
                      by_cases c40 : a0_0.toList = ([47] : List UInt8)
                      · rw [if_pos c40] at H
                        have c40b0 : (a0_0.toList == ([47] : List UInt8)) = true := beq_iff_eq.mpr c40
                        have c40b1 : (a0_0.toList != ([47] : List UInt8)) = false := bne_eq_false_iff_eq.mpr c40
                        clear c40
                        obtain rfl := Option.some.inj H
                        have hnb41 := NB158_159.out
                        have hnc41 := NB159_158.out
                        have hcz42_0 : wc.cell? ⟨gb158, 0, none⟩ = some (.string a0_0) := (blk_cell BK158.out 0).trans rfl
                        have hcz42_1 : wc.cell? ⟨gb158, 1, none⟩ = some (.bool false) := (blk_cell BK158.out 1).trans rfl
                        have hcz42_2 : wc.cell? ⟨gb158, 2, none⟩ = some (.bool false) := (blk_cell BK158.out 2).trans rfl
                        have hfz42_0 := blk_frozen BK158.out 0
                        have hfz42_1 := blk_frozen BK158.out 1
                        have hfz42_2 := blk_frozen BK158.out 2
                        have hcz43_0 : wc.cell? ⟨gb159, 0, none⟩ = some (.string a1_0) := (blk_cell BK159.out 0).trans rfl
                        have hcz43_1 : wc.cell? ⟨gb159, 1, none⟩ = some (.bool true) := (blk_cell BK159.out 1).trans rfl
                        have hcz43_2 : wc.cell? ⟨gb159, 2, none⟩ = some (.bool false) := (blk_cell BK159.out 2).trans rfl
                        have hfz43_0 := blk_frozen BK159.out 0
                        have hfz43_1 := blk_frozen BK159.out 1
                        have hfz43_2 := blk_frozen BK159.out 2
                        go_wp2
                        go_ret
                        exact ⟨by first | rfl | (simp [errW_none, errW_some] <;> rfl) | (simp [*, errW_none, errW_some] <;> rfl), by repeat (first | (with_reducible first | exact HB.out | apply below_alloc | apply pw_below_drewN | apply below_drew1 | refine below_set ?_ GE158.out | refine below_set ?_ GE159.out) | exact HB.out)⟩
                      · rw [if_neg c40] at H
                        have c40b0 : (a0_0.toList == ([47] : List UInt8)) = false := beq_eq_false_iff_ne.mpr c40
                        have c40b1 : (a0_0.toList != ([47] : List UInt8)) = true := bne_iff_ne.mpr c40
                        obtain rfl := Option.some.inj H
                        have hnb44 := NB158_159.out
                        have hnc44 := NB159_158.out
                        have hcz45_0 : wc.cell? ⟨gb158, 0, none⟩ = some (.string a0_0) := (blk_cell BK158.out 0).trans rfl
                        have hcz45_1 : wc.cell? ⟨gb158, 1, none⟩ = some (.bool false) := (blk_cell BK158.out 1).trans rfl
                        have hcz45_2 : wc.cell? ⟨gb158, 2, none⟩ = some (.bool false) := (blk_cell BK158.out 2).trans rfl
                        have hfz45_0 := blk_frozen BK158.out 0
                        have hfz45_1 := blk_frozen BK158.out 1
                        have hfz45_2 := blk_frozen BK158.out 2
                        have hcz46_0 : wc.cell? ⟨gb159, 0, none⟩ = some (.string a1_0) := (blk_cell BK159.out 0).trans rfl
                        have hcz46_1 : wc.cell? ⟨gb159, 1, none⟩ = some (.bool true) := (blk_cell BK159.out 1).trans rfl
                        have hcz46_2 : wc.cell? ⟨gb159, 2, none⟩ = some (.bool false) := (blk_cell BK159.out 2).trans rfl
                        have hfz46_0 := blk_frozen BK159.out 0
                        have hfz46_1 := blk_frozen BK159.out 1
                        have hfz46_2 := blk_frozen BK159.out 2
                        go_wp2
                        go_ret
                        exact ⟨by first | rfl | (simp [errW_none, errW_some] <;> rfl) | (simp [*, errW_none, errW_some] <;> rfl), by repeat (first | (with_reducible first | exact HB.out | apply below_alloc | apply pw_below_drewN | apply below_drew1 | refine below_set ?_ GE158.out | refine below_set ?_ GE159.out) | exact HB.out)⟩
                    · replace c39 := Bool.eq_false_iff.mpr c39
                      subst c39
                      have H1 : (if a0_0.toList = a1_0.toList then (some (⟨#[101, 113, 117, 105, 118, 97, 108, 101, 110, 116]⟩ : ByteArray)) else (some (⟨#[100, 105, 115, 106, 111, 105, 110, 116]⟩ : ByteArray))) = some r := by rw [if_neg (show ¬ (false = true) by decide)] at H; exact H
                      clear H
                      have H := H1
                      clear H1
                      by_cases c47 : a0_0.toList = a1_0.toList
                      · rw [if_pos c47] at H
                        have c47b0 : (a0_0.toList == a1_0.toList) = true := beq_iff_eq.mpr c47
                        have c47b1 : (a0_0.toList != a1_0.toList) = false := bne_eq_false_iff_eq.mpr c47
                        clear c47
                        obtain rfl := Option.some.inj H
                        have hnb48 := NB158_159.out
                        have hnc48 := NB159_158.out
                        have hcz49_0 : wc.cell? ⟨gb158, 0, none⟩ = some (.string a0_0) := (blk_cell BK158.out 0).trans rfl
                        have hcz49_1 : wc.cell? ⟨gb158, 1, none⟩ = some (.bool false) := (blk_cell BK158.out 1).trans rfl
                        have hcz49_2 : wc.cell? ⟨gb158, 2, none⟩ = some (.bool false) := (blk_cell BK158.out 2).trans rfl
                        have hfz49_0 := blk_frozen BK158.out 0
                        have hfz49_1 := blk_frozen BK158.out 1
                        have hfz49_2 := blk_frozen BK158.out 2
                        have hcz50_0 : wc.cell? ⟨gb159, 0, none⟩ = some (.string a1_0) := (blk_cell BK159.out 0).trans rfl
                        have hcz50_1 : wc.cell? ⟨gb159, 1, none⟩ = some (.bool false) := (blk_cell BK159.out 1).trans rfl
                        have hcz50_2 : wc.cell? ⟨gb159, 2, none⟩ = some (.bool false) := (blk_cell BK159.out 2).trans rfl
                        have hfz50_0 := blk_frozen BK159.out 0
                        have hfz50_1 := blk_frozen BK159.out 1
                        have hfz50_2 := blk_frozen BK159.out 2
                        go_wp2
                        go_ret
                        exact ⟨by first | rfl | (simp [errW_none, errW_some] <;> rfl) | (simp [*, errW_none, errW_some] <;> rfl), by repeat (first | (with_reducible first | exact HB.out | apply below_alloc | apply pw_below_drewN | apply below_drew1 | refine below_set ?_ GE158.out | refine below_set ?_ GE159.out) | exact HB.out)⟩
                      · rw [if_neg c47] at H
                        have c47b0 : (a0_0.toList == a1_0.toList) = false := beq_eq_false_iff_ne.mpr c47
                        have c47b1 : (a0_0.toList != a1_0.toList) = true := bne_iff_ne.mpr c47
                        obtain rfl := Option.some.inj H
                        have hnb51 := NB158_159.out
                        have hnc51 := NB159_158.out
                        have hcz52_0 : wc.cell? ⟨gb158, 0, none⟩ = some (.string a0_0) := (blk_cell BK158.out 0).trans rfl
                        have hcz52_1 : wc.cell? ⟨gb158, 1, none⟩ = some (.bool false) := (blk_cell BK158.out 1).trans rfl
                        have hcz52_2 : wc.cell? ⟨gb158, 2, none⟩ = some (.bool false) := (blk_cell BK158.out 2).trans rfl
                        have hfz52_0 := blk_frozen BK158.out 0
                        have hfz52_1 := blk_frozen BK158.out 1
                        have hfz52_2 := blk_frozen BK158.out 2
                        have hcz53_0 : wc.cell? ⟨gb159, 0, none⟩ = some (.string a1_0) := (blk_cell BK159.out 0).trans rfl
                        have hcz53_1 : wc.cell? ⟨gb159, 1, none⟩ = some (.bool false) := (blk_cell BK159.out 1).trans rfl
                        have hcz53_2 : wc.cell? ⟨gb159, 2, none⟩ = some (.bool false) := (blk_cell BK159.out 2).trans rfl
                        have hfz53_0 := blk_frozen BK159.out 0
                        have hfz53_1 := blk_frozen BK159.out 1
                        have hfz53_2 := blk_frozen BK159.out 2
                        go_wp2
                        go_ret
                        exact ⟨by first | rfl | (simp [errW_none, errW_some] <;> rfl) | (simp [*, errW_none, errW_some] <;> rfl), by repeat (first | (with_reducible first | exact HB.out | apply below_alloc | apply pw_below_drewN | apply below_drew1 | refine below_set ?_ GE158.out | refine below_set ?_ GE159.out) | exact HB.out)⟩
end Go.Proofs.YtcedefabmelogaaGreatDoor.PFnAllowed
