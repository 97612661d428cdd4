/- The text of a program (the kit's print) for the functions named below, mended where it fell: what each function of the given Go program comes to. -/
import Derived.Test.YtcedefabmelogaaGreatDoorV02
import Derived.Test.YtcedefabmelogaaGreatDoorV10
import Derived.Test.YtcedefabmelogaaGreatDoorV11
namespace Go.Proofs.YtcedefabmelogaaGreatDoor.PFnAllowed
open Go.RowKit Go.Proofs.YtcedefabmelogaaGreatDoorW.PrintWords Go.Proofs.YtcedefabmelogaaGreatDoorW.PrintLast Go.Proofs.YtcedefabmelogaaGreatDoorW.PrintMore
theorem min2_mn (k k' : IntKind) (x y : Int) : Builtin.min2 (.int k x) (.int k' y) = pure (.int k (mn x y)) := by rw [min2_int]; rfl
attribute [local go_sem] max2_int min2_mn max_two min_two max_three min_three max_four min_four   -- for this text's walks alone
set_option linter.unusedVariables false
set_option linter.unusedSimpArgs false
mutual
def spec_ByPaths.l0 : Nat → ByteArray → Int → Int → Int → ByteArray → ByteArray → List (S52) → ByteArray → ByteArray → List (S52) → Option (ByteArray)
  | 0, _, _, _, _, _, _, _, _, _, _ => none
  | k + 1, x5, x6, x15, x16, x161000, x161001, x161002, x162000, x162001, x162002 => if x16 < x15 then (if 0 ≤ x16 then (if x16 < (x161002.length : Int) then (if x16 < (x162002.length : Int) then ((spec_BySegments.f k ((rd_T52 x161002 x16).f0) ((rd_T52 x161002 x16).f1) ((rd_T52 x161002 x16).f2) ((rd_T52 x162002 x16).f0) ((rd_T52 x162002 x16).f1) ((rd_T52 x162002 x16).f2)).bind fun t164 => ((spec_Combine.f k x5 t164).bind fun t165 => (spec_ByPaths.l0 k t165 x6 x15 (wrap64 (x16 + 1)) x161000 x161001 x161002 x162000 x162001 x162002))) else (none)) else (none)) else (none)) else (if (x161002.length : Int) = (x162002.length : Int) then (some x5) else (if (x161002.length : Int) = x6 then (if 0 ≤ (wrap64 (x6 - 1)) then (if (wrap64 (x6 - 1)) < (x161002.length : Int) then (spec_ByPaths.j1 k x5 x6 ((rd_T52 x161002 (wrap64 (x6 - 1))).f2) x162000 x162001 x162002) else (none)) else (none)) else (spec_ByPaths.j1 k x5 x6 false x162000 x162001 x162002)))
def spec_ByPaths.j1 : Nat → ByteArray → Int → Bool → ByteArray → ByteArray → List (S52) → Option (ByteArray)
  | 0, _, _, _, _, _, _ => none
  | k + 1, x5, x6, x42, x162000, x162001, x162002 => if x42 = true then ((spec_Combine.f k x5 (⟨#[109, 111, 114, 101, 71, 101, 110, 101, 114, 97, 108]⟩ : ByteArray)).bind fun t167 => (some t167)) else (if (x162002.length : Int) = x6 then (if 0 ≤ (wrap64 (x6 - 1)) then (if (wrap64 (x6 - 1)) < (x162002.length : Int) then (if (rd_T52 x162002 (wrap64 (x6 - 1))).f2 = true then ((spec_Combine.f k x5 (⟨#[109, 111, 114, 101, 83, 112, 101, 99, 105, 102, 105, 99]⟩ : ByteArray)).bind fun t169 => (some t169)) else (some (⟨#[100, 105, 115, 106, 111, 105, 110, 116]⟩ : ByteArray))) else (none)) else (none)) else (some (⟨#[100, 105, 115, 106, 111, 105, 110, 116]⟩ : ByteArray)))
end
def spec_ByPaths.f (k : Nat) (a0_0 : ByteArray) (a0_1 : ByteArray) (l0_2 : List (S52)) (a1_0 : ByteArray) (a1_1 : ByteArray) (l1_2 : List (S52)) : Option (ByteArray) := spec_ByPaths.l0 k (⟨#[101, 113, 117, 105, 118, 97, 108, 101, 110, 116]⟩ : ByteArray) (mn (l0_2.length : Int) (l1_2.length : Int)) (mn (l0_2.length : Int) (l1_2.length : Int)) 0 a0_0 a0_1 l0_2 a1_0 a1_1 l1_2
theorem spec_ByPaths.mono_l : ∀ k, (∀ y0 y1 y2 y3 y4 y5 y6 y7 y8 y9, LeO (spec_ByPaths.l0 k y0 y1 y2 y3 y4 y5 y6 y7 y8 y9) (spec_ByPaths.l0 (k + 1) y0 y1 y2 y3 y4 y5 y6 y7 y8 y9)) ∧ (∀ y0 y1 y2 y3 y4 y5, LeO (spec_ByPaths.j1 k y0 y1 y2 y3 y4 y5) (spec_ByPaths.j1 (k + 1) y0 y1 y2 y3 y4 y5))
  | 0 => ⟨fun _ _ _ _ _ _ _ _ _ _ r h => by simp [spec_ByPaths.l0] at h, fun _ _ _ _ _ _ r h => by simp [spec_ByPaths.j1] at h⟩
  | k + 1 => by
    obtain ⟨ih0, ih1⟩ := spec_ByPaths.mono_l k
    refine ⟨?_, ?_⟩
    · intro y0 y1 y2 y3 y4 y5 y6 y7 y8 y9
      unfold spec_ByPaths.l0
      repeat' first
      | (with_reducible exact ih0 _ _ _ _ _ _ _ _ _ _)
      | (with_reducible exact ih1 _ _ _ _ _ _)
      | (with_reducible exact spec_BySegments.mono _ _ _ _ _ _ _)
      | (with_reducible exact spec_Combine.mono _ _ _)
      | (with_reducible exact LeO.refl _)
      | (with_reducible exact LeO.none _)
      | (with_reducible refine LeO.ite ?_ ?_)
      | (with_reducible refine LeO.bind ?_ (fun _ => ?_))
      | exact ih0 _ _ _ _ _ _ _ _ _ _
      | exact ih1 _ _ _ _ _ _
      | exact spec_BySegments.mono _ _ _ _ _ _ _
      | exact spec_Combine.mono _ _ _
      | exact LeO.none _
      | refine LeO.ite ?_ ?_
      | refine LeO.bind ?_ (fun _ => ?_)
    · intro y0 y1 y2 y3 y4 y5
      unfold spec_ByPaths.j1
      repeat' first
      | (with_reducible exact ih0 _ _ _ _ _ _ _ _ _ _)
      | (with_reducible exact ih1 _ _ _ _ _ _)
      | (with_reducible exact spec_BySegments.mono _ _ _ _ _ _ _)
      | (with_reducible exact spec_Combine.mono _ _ _)
      | (with_reducible exact LeO.refl _)
      | (with_reducible exact LeO.none _)
      | (with_reducible refine LeO.ite ?_ ?_)
      | (with_reducible refine LeO.bind ?_ (fun _ => ?_))
      | exact ih0 _ _ _ _ _ _ _ _ _ _
      | exact ih1 _ _ _ _ _ _
      | exact spec_BySegments.mono _ _ _ _ _ _ _
      | exact spec_Combine.mono _ _ _
      | exact LeO.none _
      | refine LeO.ite ?_ ?_
      | refine LeO.bind ?_ (fun _ => ?_)
theorem spec_ByPaths.mono : ∀ a0 a1 a2 a3 a4 a5 k, LeO (spec_ByPaths.f k a0 a1 a2 a3 a4 a5) (spec_ByPaths.f (k + 1) a0 a1 a2 a3 a4 a5) := by
  intro a0 a1 a2 a3 a4 a5 k
  obtain ⟨ih0, ih1⟩ := spec_ByPaths.mono_l k
  unfold spec_ByPaths.f
  repeat' first
      | (with_reducible exact ih0 _ _ _ _ _ _ _ _ _ _)
      | (with_reducible exact ih1 _ _ _ _ _ _)
      | (with_reducible exact spec_BySegments.mono _ _ _ _ _ _ _)
      | (with_reducible exact spec_Combine.mono _ _ _)
      | (with_reducible exact LeO.refl _)
      | (with_reducible exact LeO.none _)
      | (with_reducible refine LeO.ite ?_ ?_)
      | (with_reducible refine LeO.bind ?_ (fun _ => ?_))
      | exact ih0 _ _ _ _ _ _ _ _ _ _
      | exact ih1 _ _ _ _ _ _
      | exact spec_BySegments.mono _ _ _ _ _ _ _
      | exact spec_Combine.mono _ _ _
      | exact LeO.none _
      | refine LeO.ite ?_ ?_
      | refine LeO.bind ?_ (fun _ => ?_)
def spec_ByPaths.T6 : Bool × List (List Nat × List Nat) := (true, [([], []), ([], []), ([1], [1]), ([], []), ([2, 3], [2, 3]), ([4], [4]), ([], []), ([6], [6]), ([], []), ([7, 8], [7, 8]), ([9], [9]), ([5, 10], [5, 10]), ([0, 11, 11], [0, 11]), ([12, 12, 0, 1, 2, 3, 4, 5, 6, 7, 8, 9, 10, 11, 12], [0, 12])])
def spec_ByPaths.B6 : List Nat := [0, 0, 2, 0, 14, 30, 0, 64, 0, 448, 960, 2046, 4095, 8191]
theorem spec_ByPaths.tab6 : rtab .any (opsOf Tryz.f28 6) = spec_ByPaths.T6 := by kernel_rfl
theorem spec_ByPaths.bits6 : waitsOk spec_ByPaths.T6.2 spec_ByPaths.B6 = true := by kernel_rfl
set_option maxHeartbeats 8000000 in
set_option maxRecDepth 100000 in
theorem spec_ByPaths.calls (k : Nat) (a0_0 : ByteArray) (a0_1 : ByteArray) (A0_2 : Option Addr) (c0_2 : Nat) (l0_2 : List (S52)) (a1_0 : ByteArray) (a1_1 : ByteArray) (A1_2 : Option Addr) (c1_2 : Nat) (l1_2 : List (S52)) (r : ByteArray) (w : World) (hr0_2 : Kd.C k52 w A0_2 l0_2.length l0_2) (hc0_2 : l0_2.length ≤ c0_2) (hr1_2 : Kd.C k52 w A1_2 l1_2.length l1_2) (hc1_2 : l1_2.length ≤ c1_2) (h : spec_ByPaths.f k a0_0 a0_1 l0_2 a1_0 a1_1 l1_2 = some r) :
    Calls Tryz.prog 28 #[.agg #[.string a0_0, .string a0_1, .slice A0_2 l0_2.length c0_2], .agg #[.string a1_0, .string a1_1, .slice A1_2 l1_2.length c1_2]] w fun e w' => e = .returned (.string r) ∧ Below w.heap.size w w' := by
  have hu35 := Tryz.underlying35
  have hu52 := Tryz.underlying52
  have HR0_2 := Aside0.mk hr0_2
  have HC0_2 := Aside0.mk hc0_2
  clear hr0_2 hc0_2
  have HR1_2 := Aside0.mk hr1_2
  have HC1_2 := Aside0.mk hc1_2
  clear hr1_2 hc1_2
  have HB := Aside0.mk (Below.refl w.heap.size w)
  have H : (spec_ByPaths.l0 k (⟨#[101, 113, 117, 105, 118, 97, 108, 101, 110, 116]⟩ : ByteArray) (mn (l0_2.length : Int) (l1_2.length : Int)) (mn (l0_2.length : Int) (l1_2.length : Int)) 0 a0_0 a0_1 l0_2 a1_0 a1_1 l1_2) = some r := h
  clear h
  obtain ⟨ji3, hji3⟩ : ∃ j_ : Int, (mn (l0_2.length : Int) (l1_2.length : Int)) = j_ := ⟨_, rfl⟩
  replace H : (spec_ByPaths.l0 k (⟨#[101, 113, 117, 105, 118, 97, 108, 101, 110, 116]⟩ : ByteArray) ji3 ji3 0 a0_0 a0_1 l0_2 a1_0 a1_1 l1_2) = some r := by first | (rw [hji3] at H; exact H) | (simp only [hji3] at H ⊢; exact H)
  (try (have hji3l : 0 ≤ ji3 := by (rw [← hji3]; unfold mn; (repeat' split) <;> omega)))
  (try (have hji3m : 0 ≤ ji3 := by omega))
  have hji3_ : (if (l1_2.length : Int) < (l0_2.length : Int) then (l1_2.length : Int) else (l0_2.length : Int)) = ji3 := hji3
  have H' := Aside0.mk H
  clear H
  go_enter Tryz.func28, Tryz.ntmps28
  go_wp2_with (first | ((with_reducible refine gate_dst (N := 2) rfl ?_); refine box_event ?hg (N := 2) ?hd (cs := #[.string a0_0, .string a0_1, .slice A0_2 l0_2.length c0_2]) (t := 35) ?hr ?_; (case hd => rfl); (case hg => rfl); (case hr => first | (go_simp; done) | (go_simp; rfl)); intro gb160 hg w4 hbox hb; have n0_ := Aside0.mk (below_step (by repeat (first | (with_reducible first | exact HB.out | apply below_alloc | apply pw_below_drewN | apply below_drew1) | exact HB.out)) hb); have n1_ := Aside0.mk (hbox); have n2_ := Aside0.mk ((by rw [hg]; exact (below_size (by repeat (first | (with_reducible first | exact HB.out | apply below_alloc | apply pw_below_drewN | apply below_drew1) | exact HB.out))) : w.heap.size ≤ gb160)); have n3_ := Aside0.mk ((by rw [hg]; exact (below_size (by repeat (first | (with_reducible first | exact HB.out | apply below_alloc | apply pw_below_drewN | apply below_drew1) | exact HB.out))) : w.heap.size ≤ gb160)); clear HB; have HB := n0_; have BK160 := n1_; have GW160 := n2_; have GE160 := n3_; clear n0_ n1_ n2_ n3_; clear hb hbox hg) | ((with_reducible refine gate_dst (N := 3) rfl ?_); refine box_event ?hg (N := 3) ?hd (cs := #[.string a1_0, .string a1_1, .slice A1_2 l1_2.length c1_2]) (t := 35) ?hr ?_; (case hd => rfl); (case hg => rfl); (case hr => first | (go_simp; done) | (go_simp; rfl)); intro gb161 hg w5 hbox hb; have n0_ := Aside0.mk (blk_below (g := gb160) (o := .cells #[.string a0_0, .string a0_1, .slice A0_2 l0_2.length c0_2] 35 (0, 0)) (by (with_reducible repeat (first | refine blk_drewN ?_ _ | refine blk_drew ?_ | refine blk_alloc ?_ _)); exact BK160.out) hb); have n1_ := Aside0.mk (below_step (by repeat (first | (with_reducible first | exact HB.out | apply below_alloc | apply pw_below_drewN | apply below_drew1 | refine below_set ?_ GE160.out) | exact HB.out)) hb); have n2_ := Aside0.mk (hbox); have n3_ := Aside0.mk ((by rw [hg]; exact (below_size (by repeat (first | (with_reducible first | exact HB.out | apply below_alloc | apply pw_below_drewN | apply below_drew1 | refine below_set ?_ GE160.out) | exact HB.out))) : w.heap.size ≤ gb161)); have n4_ := Aside0.mk ((by rw [hg]; exact (below_size (by repeat (first | (with_reducible first | exact HB.out | apply below_alloc | apply pw_below_drewN | apply below_drew1 | refine below_set ?_ GE160.out) | exact HB.out))) : w.heap.size ≤ gb161)); have n5_ := Aside0.mk ((by rw [hg]; exact Nat.ne_of_lt (blk_lt (g := gb160) (o := .cells #[.string a0_0, .string a0_1, .slice A0_2 l0_2.length c0_2] 35 (0, 0)) (by (with_reducible repeat (first | refine blk_drewN ?_ _ | refine blk_drew ?_ | refine blk_alloc ?_ _)); exact BK160.out)) : gb160 ≠ gb161)); have n6_ := Aside0.mk ((by rw [hg]; exact Nat.ne_of_gt (blk_lt (g := gb160) (o := .cells #[.string a0_0, .string a0_1, .slice A0_2 l0_2.length c0_2] 35 (0, 0)) (by (with_reducible repeat (first | refine blk_drewN ?_ _ | refine blk_drew ?_ | refine blk_alloc ?_ _)); exact BK160.out)) : gb161 ≠ gb160)); clear BK160; clear HB; have BK160 := n0_; have HB := n1_; have BK161 := n2_; have GW161 := n3_; have GE161 := n4_; have NB160_161 := n5_; have NB161_160 := n6_; clear n0_ n1_ n2_ n3_ n4_ n5_ n6_; clear hb hbox hg; have hnb6 := NB160_161.out; have hnc6 := NB161_160.out; have hcz7_0 : w5.cell? ⟨gb160, 0, none⟩ = some (.string a0_0) := (blk_cell BK160.out 0).trans rfl; have hcz7_1 : w5.cell? ⟨gb160, 1, none⟩ = some (.string a0_1) := (blk_cell BK160.out 1).trans rfl; have hcz7_2 : w5.cell? ⟨gb160, 2, none⟩ = some (.slice A0_2 l0_2.length c0_2) := (blk_cell BK160.out 2).trans rfl; have hfz7_0 := blk_frozen BK160.out 0; have hfz7_1 := blk_frozen BK160.out 1; have hfz7_2 := blk_frozen BK160.out 2; have hcz8_0 : w5.cell? ⟨gb161, 0, none⟩ = some (.string a1_0) := (blk_cell BK161.out 0).trans rfl; have hcz8_1 : w5.cell? ⟨gb161, 1, none⟩ = some (.string a1_1) := (blk_cell BK161.out 1).trans rfl; have hcz8_2 : w5.cell? ⟨gb161, 2, none⟩ = some (.slice A1_2 l1_2.length c1_2) := (blk_cell BK161.out 2).trans rfl; have hfz8_0 := blk_frozen BK161.out 0; have hfz8_1 := blk_frozen BK161.out 1; have hfz8_2 := blk_frozen BK161.out 2))
  go_loopg [5, 16] k (fun kq v5 v16 w' => ∃ (x5_1 : ByteArray) (x16_1 : Int), v5 = .string x5_1 ∧ v16 = .int .i64 x16_1 ∧ Aside0 (spec_ByPaths.l0 kq x5_1 ji3 ji3 x16_1 a0_0 a0_1 l0_2 a1_0 a1_1 l1_2 = some r) ∧ Aside0 (kq ≤ k) ∧ Aside0 (w'.heap[gb160]? = some (.cells #[.string a0_0, .string a0_1, (.slice A0_2 l0_2.length c0_2)] 35 (0, 0))) ∧ Aside0 (w'.heap[gb161]? = some (.cells #[.string a1_0, .string a1_1, (.slice A1_2 l1_2.length c1_2)] 35 (0, 0))) ∧ Aside0 (Below w.heap.size w w'))
  case atStart => exact ⟨((⟨#[101, 113, 117, 105, 118, 97, 108, 101, 110, 116]⟩ : ByteArray)), (0), (by first | rfl | (simp; done) | (simp [*]; done)), (by first | rfl | (simp; done) | (simp [*]; done)), H', ⟨Nat.le_refl _⟩, ⟨by (with_reducible repeat (first | refine blk_drewN ?_ _ | refine blk_drew ?_ | refine blk_alloc ?_ _)); exact BK160.out⟩, ⟨by (with_reducible repeat (first | refine blk_drewN ?_ _ | refine blk_drew ?_ | refine blk_alloc ?_ _)); exact BK161.out⟩, ⟨by repeat (first | (with_reducible first | exact HB.out | apply below_alloc | apply pw_below_drewN | apply below_drew1 | refine below_set ?_ GE160.out | refine below_set ?_ GE161.out) | exact HB.out)⟩⟩
  case round =>
    clear H'
    try clear c1
    try clear c2
    try clear p2
    try clear c6
    try clear hcz7_0
    try clear hcz7_1
    try clear hcz7_2
    try clear hcz8_0
    try clear hcz8_1
    try clear hcz8_2
    try clear hfz7_0
    try clear hfz7_1
    try clear hfz7_2
    try clear hfz8_0
    try clear hfz8_1
    try clear hfz8_2
    obtain ⟨x5_1, x16_1, rfl, rfl, HA, HK1, BK160, BK161, HB⟩ := hrel
    cases gk with
    | zero => exact absurd HA.out (by simp [spec_ByPaths.l0])
    | succ k1 =>
      have H := HA.out
      clear HA
      simp only [spec_ByPaths.l0] at H
      by_cases c9 : x16_1 < ji3
      · rw [if_pos c9] at H
        have c9b0 : decide (x16_1 < ji3) = true := decide_eq_true c9
        clear c9
        by_cases c10 : 0 ≤ x16_1
        · rw [if_pos c10] at H
          have c10b0 : decide (0 ≤ x16_1) = true := decide_eq_true c10
          clear c10
          by_cases c11 : x16_1 < (l0_2.length : Int)
          · rw [if_pos c11] at H
            have c11b0 : decide (x16_1 < (l0_2.length : Int)) = true := decide_eq_true c11
            clear c11
            by_cases c12 : x16_1 < (l1_2.length : Int)
            · rw [if_pos c12] at H
              have c12b0 : decide (x16_1 < (l1_2.length : Int)) = true := decide_eq_true c12
              clear c12
              replace H := Option.bind_eq_some_iff.mp H
              obtain ⟨t164, A130, H⟩ := H
              replace H : ((spec_Combine.f k1 x5_1 t164).bind fun t165 => (spec_ByPaths.l0 k1 t165 ji3 ji3 (wrap64 (x16_1 + 1)) a0_0 a0_1 l0_2 a1_0 a1_1 l1_2)) = some r := H
              have A13 := Aside0.mk A130
              clear A130
              replace H := Option.bind_eq_some_iff.mp H
              obtain ⟨t165, A140, H⟩ := H
              replace H : (spec_ByPaths.l0 k1 t165 ji3 ji3 (wrap64 (x16_1 + 1)) a0_0 a0_1 l0_2 a1_0 a1_1 l1_2) = some r := H
              have A14 := Aside0.mk A140
              clear A140
              have H' := Aside0.mk H
              clear H
              try go_wp2
              have n0_ := Aside0.mk (blk_drew BK160.out)
              have n1_ := Aside0.mk (blk_drew BK161.out)
              have n2_ := Aside0.mk (below_drew1 HB.out)
              clear BK160
              clear BK161
              clear HB
              have BK160 := n0_
              have BK161 := n1_
              have HB := n2_
              clear n0_ n1_ n2_
              have p162 : 0 ≤ (x16_1 : Int) := of_decide_eq_true (by first | (with_reducible assumption) | assumption)
              have q162 : x16_1 < (l0_2.length : Int) := of_decide_eq_true (by first | (with_reducible assumption) | assumption)
              obtain ⟨ad162, e162, hx162_0, hx162_1, hx162_2⟩ := at_T52 HR0_2.out x16_1 p162 q162
              have hw162_2 := hx162_2
              have hw162_1 := hx162_1
              have hw162_0 := hx162_0
              cases e162
              replace hx162_0 := (HB.out.cell (World.block_lt_of_cell? w _ hx162_0)).trans hx162_0
              replace hx162_1 := (HB.out.cell (World.block_lt_of_cell? w _ hx162_1)).trans hx162_1
              replace hx162_2 := (HB.out.cell (World.block_lt_of_cell? w _ hx162_2)).trans hx162_2
              replace p162 := eq_true p162
              replace q162 := eq_true q162
              have p163 : 0 ≤ (x16_1 : Int) := of_decide_eq_true (by first | (with_reducible assumption) | assumption)
              have q163 : x16_1 < (l1_2.length : Int) := of_decide_eq_true (by first | (with_reducible assumption) | assumption)
              obtain ⟨ad163, e163, hx163_0, hx163_1, hx163_2⟩ := at_T52 HR1_2.out x16_1 p163 q163
              have hw163_2 := hx163_2
              have hw163_1 := hx163_1
              have hw163_0 := hx163_0
              cases e163
              replace hx163_0 := (HB.out.cell (World.block_lt_of_cell? w _ hx163_0)).trans hx163_0
              replace hx163_1 := (HB.out.cell (World.block_lt_of_cell? w _ hx163_1)).trans hx163_1
              replace hx163_2 := (HB.out.cell (World.block_lt_of_cell? w _ hx163_2)).trans hx163_2
              replace p163 := eq_true p163
              replace q163 := eq_true q163
              refine start_ (n := 14) (S := fun w' => w'.cell? ⟨gb160, 0, none⟩ = some (.string a0_0) ∧ w'.cell? ⟨gb160, 1, none⟩ = some (.string a0_1) ∧ w'.cell? ⟨gb160, 2, none⟩ = some (.slice (some ad162) l0_2.length c0_2) ∧ w'.cell? ⟨gb161, 0, none⟩ = some (.string a1_0) ∧ w'.cell? ⟨gb161, 1, none⟩ = some (.string a1_1) ∧ w'.cell? ⟨gb161, 2, none⟩ = some (.slice (some ad163) l1_2.length c1_2) ∧ w'.cell? (ad162.add ((x16_1).toNat * 3)) = some (.string ((rd_T52 l0_2 x16_1).f0)) ∧ w'.cell? ⟨(ad162.add ((x16_1).toNat * 3)).block, (ad162.add ((x16_1).toNat * 3)).off + 1, none⟩ = some (.bool ((rd_T52 l0_2 x16_1).f1)) ∧ w'.cell? ⟨(ad162.add ((x16_1).toNat * 3)).block, (ad162.add ((x16_1).toNat * 3)).off + 2, none⟩ = some (.bool ((rd_T52 l0_2 x16_1).f2)) ∧ w'.cell? (ad163.add ((x16_1).toNat * 3)) = some (.string ((rd_T52 l1_2 x16_1).f0)) ∧ w'.cell? ⟨(ad163.add ((x16_1).toNat * 3)).block, (ad163.add ((x16_1).toNat * 3)).off + 1, none⟩ = some (.bool ((rd_T52 l1_2 x16_1).f1)) ∧ w'.cell? ⟨(ad163.add ((x16_1).toNat * 3)).block, (ad163.add ((x16_1).toNat * 3)).off + 2, none⟩ = some (.bool ((rd_T52 l1_2 x16_1).f2))) (ds := []) #[false, false, false, false, false, false, false, false, false, false, false, false, false, false] (by kernel_rfl) rfl rfl ⟨(blk_cell BK160.out 0).trans rfl, (blk_cell BK160.out 1).trans rfl, (blk_cell BK160.out 2).trans rfl, (blk_cell BK161.out 0).trans rfl, (blk_cell BK161.out 1).trans rfl, (blk_cell BK161.out 2).trans rfl, ((HB.out.cell (World.block_lt_of_cell? w _ hw162_0)).trans hw162_0), ((HB.out.cell (World.block_lt_of_cell? w _ hw162_1)).trans hw162_1), ((HB.out.cell (World.block_lt_of_cell? w _ hw162_2)).trans hw162_2), ((HB.out.cell (World.block_lt_of_cell? w _ hw163_0)).trans hw163_0), ((HB.out.cell (World.block_lt_of_cell? w _ hw163_1)).trans hw163_1), ((HB.out.cell (World.block_lt_of_cell? w _ hw163_2)).trans hw163_2)⟩ (fun hHeld => ?_); refine with_tabW spec_ByPaths.tab6 spec_ByPaths.bits6 (fun HT_ HW_ => ?_)
              generalize wr.drew = w15 at BK160 BK161 HB hx162_0 hx162_1 hx162_2 hx163_0 hx163_1 hx163_2 hHeld ⊢
              refine pure_ (i := 0) (N := some 19) (v := ?_) (a' := ?_) #[true, false, false, false, false, false, false, false, false, false, false, false, false, false] rfl rfl (any_of HT_.out (by kernel_rfl)) (fun _ _ _ h => h) (Or.inl ⟨by rfl, ?_⟩) ?_ ?_
              rotate_left
              · intro w'
                go_simp
                with_reducible rfl
              rotate_left
              · simp only [Act.put, List.setIfInBounds_toArray, List.set_cons_zero, List.set_cons_succ, i64_w, i32_w]
                rfl
              refine pure_ (i := 1) (N := some 20) (v := ?_) (a' := ?_) #[true, true, false, false, false, false, false, false, false, false, false, false, false, false] rfl rfl (any_of HT_.out (by kernel_rfl)) (fun _ _ _ h => h) (Or.inl ⟨by rfl, ?_⟩) ?_ ?_
              rotate_left
              · intro w'
                go_simp
                with_reducible rfl
              rotate_left
              · simp only [Act.put, List.setIfInBounds_toArray, List.set_cons_zero, List.set_cons_succ, i64_w, i32_w]
                rfl
              refine pure_ (i := 3) (N := some 22) (v := ?_) (a' := ?_) #[true, true, false, true, false, false, false, false, false, false, false, false, false, false] rfl rfl (any_of HT_.out (by kernel_rfl)) (fun _ _ _ h => h) (Or.inl ⟨by rfl, ?_⟩) ?_ ?_
              rotate_left
              · intro w'
                go_simp
                with_reducible rfl
              rotate_left
              · simp only [Act.put, List.setIfInBounds_toArray, List.set_cons_zero, List.set_cons_succ, i64_w, i32_w]
                rfl
              refine pure_ (i := 6) (N := some 25) (v := ?_) (a' := ?_) #[true, true, false, true, false, false, true, false, false, false, false, false, false, false] rfl rfl (any_of HT_.out (by kernel_rfl)) (fun _ _ _ h => h) (Or.inl ⟨by rfl, ?_⟩) ?_ ?_
              rotate_left
              · intro w'
                go_simp
                with_reducible rfl
              rotate_left
              · simp only [Act.put, List.setIfInBounds_toArray, List.set_cons_zero, List.set_cons_succ, i64_w, i32_w]
                rfl
              refine pure_ (i := 8) (N := some 27) (v := ?_) (a' := ?_) #[true, true, false, true, false, false, true, false, true, false, false, false, false, false] rfl rfl (any_of HT_.out (by kernel_rfl)) (fun _ _ _ h => h) (Or.inl ⟨by rfl, ?_⟩) ?_ ?_
              rotate_left
              · intro w'
                go_simp
                with_reducible rfl
              rotate_left
              · simp only [Act.put, List.setIfInBounds_toArray, List.set_cons_zero, List.set_cons_succ, i64_w, i32_w]
                rfl
              refine take_ (i := 2) (N := some 21) (v := ?_) (a' := ?_) #[true, true, true, true, false, false, true, false, true, false, false, false, false, false] rfl rfl (take_ofW HT_.out HW_.out (by kernel_rfl)) (fun _ _ _ h => h) (Or.inl ⟨by rfl, ?_⟩) hHeld ?_ ?_
              rotate_left
              · rintro w' ⟨s0, s1, s2, s3, s4, s5, s6, s7, s8, s9, s10, s11⟩
                go_simp
                with_reducible rfl
              rotate_left
              · simp only [Act.put, List.setIfInBounds_toArray, List.set_cons_zero, List.set_cons_succ, i64_w, i32_w]
                rfl
              refine pure_ (i := 4) (N := some 23) (v := ?_) (a' := ?_) #[true, true, true, true, true, false, true, false, true, false, false, false, false, false] rfl rfl (any_of HT_.out (by kernel_rfl)) (fun _ _ _ h => h) (Or.inl ⟨by rfl, ?_⟩) ?_ ?_
              rotate_left
              · intro w'
                go_simp
                with_reducible rfl
              rotate_left
              · simp only [Act.put, List.setIfInBounds_toArray, List.set_cons_zero, List.set_cons_succ, i64_w, i32_w]
                rfl
              refine take_ (i := 5) (N := some 24) (v := ?_) (a' := ?_) #[true, true, true, true, true, true, true, false, true, false, false, false, false, false] rfl rfl (take_ofW HT_.out HW_.out (by kernel_rfl)) (fun _ _ _ h => h) (Or.inl ⟨by rfl, ?_⟩) hHeld ?_ ?_
              rotate_left
              · rintro w' ⟨s0, s1, s2, s3, s4, s5, s6, s7, s8, s9, s10, s11⟩
                go_simp
                with_reducible rfl
              rotate_left
              · simp only [Act.put, List.setIfInBounds_toArray, List.set_cons_zero, List.set_cons_succ, i64_w, i32_w]
                rfl
              refine take_ (i := 7) (N := some 26) (v := ?_) (a' := ?_) #[true, true, true, true, true, true, true, true, true, false, false, false, false, false] rfl rfl (take_ofW HT_.out HW_.out (by kernel_rfl)) (fun _ _ _ h => h) (Or.inl ⟨by rfl, ?_⟩) hHeld ?_ ?_
              rotate_left
              · rintro w' ⟨s0, s1, s2, s3, s4, s5, s6, s7, s8, s9, s10, s11⟩
                go_simp
                with_reducible rfl
              rotate_left
              · simp only [Act.put, List.setIfInBounds_toArray, List.set_cons_zero, List.set_cons_succ, i64_w, i32_w]
                rfl
              refine pure_ (i := 9) (N := some 28) (v := ?_) (a' := ?_) #[true, true, true, true, true, true, true, true, true, true, false, false, false, false] rfl rfl (any_of HT_.out (by kernel_rfl)) (fun _ _ _ h => h) (Or.inl ⟨by rfl, ?_⟩) ?_ ?_
              rotate_left
              · intro w'
                go_simp
                with_reducible rfl
              rotate_left
              · simp only [Act.put, List.setIfInBounds_toArray, List.set_cons_zero, List.set_cons_succ, i64_w, i32_w]
                rfl
              refine take_ (i := 10) (N := some 29) (v := ?_) (a' := ?_) #[true, true, true, true, true, true, true, true, true, true, true, false, false, false] rfl rfl (take_ofW HT_.out HW_.out (by kernel_rfl)) (fun _ _ _ h => h) (Or.inl ⟨by rfl, ?_⟩) hHeld ?_ ?_
              rotate_left
              · rintro w' ⟨s0, s1, s2, s3, s4, s5, s6, s7, s8, s9, s10, s11⟩
                go_simp
                with_reducible rfl
              rotate_left
              · simp only [Act.put, List.setIfInBounds_toArray, List.set_cons_zero, List.set_cons_succ, i64_w, i32_w]
                rfl
              refine one_ (i := 11) (N := some 30) #[true, true, true, true, true, true, true, true, true, true, true, true, false, false] rfl rfl (one_of HT_.out (by kernel_rfl)) (by decide) (fun K hK => ?_)
              refine goes_ Tryz.func34 (by kernel_rfl) rfl #[.agg #[.string ((rd_T52 l0_2 x16_1).f0), .bool ((rd_T52 l0_2 x16_1).f1), .bool ((rd_T52 l0_2 x16_1).f2)], .agg #[.string ((rd_T52 l1_2 x16_1).f0), .bool ((rd_T52 l1_2 x16_1).f1), .bool ((rd_T52 l1_2 x16_1).f2)]] (by rfl) rfl rfl (by (try simp only [List.map_toArray, List.map_cons, List.map_nil]); first | done | rfl | (simp only [List.length_drop, List.length_take]; rfl)) ?_
              with_reducible refine (spec_BySegments.calls k1 ((rd_T52 l0_2 x16_1).f0) ((rd_T52 l0_2 x16_1).f1) ((rd_T52 l0_2 x16_1).f2) ((rd_T52 l1_2 x16_1).f0) ((rd_T52 l1_2 x16_1).f1) ((rd_T52 l1_2 x16_1).f2) t164 _ A13.out).mono ?_
              rintro e w16 ⟨rfl, hb⟩
              refine ⟨_, rfl, ?_⟩
              have n0_ := Aside0.mk (blk_below (g := gb160) (o := .cells #[.string a0_0, .string a0_1, .slice (some ad162) l0_2.length c0_2] 35 (0, 0)) (by (with_reducible repeat (first | refine blk_drewN ?_ _ | refine blk_drew ?_ | refine blk_alloc ?_ _)); exact BK160.out) hb)
              have n1_ := Aside0.mk (blk_below (g := gb161) (o := .cells #[.string a1_0, .string a1_1, .slice (some ad163) l1_2.length c1_2] 35 (0, 0)) (by (with_reducible repeat (first | refine blk_drewN ?_ _ | refine blk_drew ?_ | refine blk_alloc ?_ _)); exact BK161.out) hb)
              have n2_ := Aside0.mk (below_step (by repeat (first | (with_reducible first | exact HB.out | apply below_alloc | apply pw_below_drewN | apply below_drew1 | refine below_set ?_ GE160.out | refine below_set ?_ GE161.out) | exact HB.out)) hb)
              clear BK160
              clear BK161
              clear HB
              have BK160 := n0_
              have BK161 := n1_
              have HB := n2_
              clear n0_ n1_ n2_
              (try clear hb)
              (try clear hb2)
              (try clear hk)
              (try clear hi)
              refine hK.out _ _ ⟨(blk_cell BK160.out 0).trans rfl, (blk_cell BK160.out 1).trans rfl, (blk_cell BK160.out 2).trans rfl, (blk_cell BK161.out 0).trans rfl, (blk_cell BK161.out 1).trans rfl, (blk_cell BK161.out 2).trans rfl, ((HB.out.cell (World.block_lt_of_cell? w _ hw162_0)).trans hw162_0), ((HB.out.cell (World.block_lt_of_cell? w _ hw162_1)).trans hw162_1), ((HB.out.cell (World.block_lt_of_cell? w _ hw162_2)).trans hw162_2), ((HB.out.cell (World.block_lt_of_cell? w _ hw163_0)).trans hw163_0), ((HB.out.cell (World.block_lt_of_cell? w _ hw163_1)).trans hw163_1), ((HB.out.cell (World.block_lt_of_cell? w _ hw163_2)).trans hw163_2)⟩ (fun hHeld => ?_)
              clear hK K
              refine norm_ (a' := ?_) ?_ ?_
              rotate_left
              · show Act.put _ (some 30) _ = _
                simp only [Act.put, List.setIfInBounds_toArray, List.set_cons_zero, List.set_cons_succ, i64_w, i32_w]
                rfl
              refine one_ (i := 12) (N := some 31) #[true, true, true, true, true, true, true, true, true, true, true, true, true, false] rfl rfl (one_of HT_.out (by kernel_rfl)) (by decide) (fun K hK => ?_)
              refine goes_ Tryz.func26 (by kernel_rfl) rfl #[.string x5_1, .string t164] (by rfl) rfl rfl (by (try simp only [List.map_toArray, List.map_cons, List.map_nil]); first | done | rfl | (simp only [List.length_drop, List.length_take]; rfl)) ?_
              with_reducible refine (spec_Combine.calls k1 x5_1 t164 t165 _ A14.out).mono ?_
              rintro e w' ⟨rfl, ⟨nd, rfl⟩⟩
              refine ⟨_, rfl, ?_⟩
              refine hK.out _ _ ⟨(blk_cell BK160.out 0).trans rfl, (blk_cell BK160.out 1).trans rfl, (blk_cell BK160.out 2).trans rfl, (blk_cell BK161.out 0).trans rfl, (blk_cell BK161.out 1).trans rfl, (blk_cell BK161.out 2).trans rfl, ((HB.out.cell (World.block_lt_of_cell? w _ hw162_0)).trans hw162_0), ((HB.out.cell (World.block_lt_of_cell? w _ hw162_1)).trans hw162_1), ((HB.out.cell (World.block_lt_of_cell? w _ hw162_2)).trans hw162_2), ((HB.out.cell (World.block_lt_of_cell? w _ hw163_0)).trans hw163_0), ((HB.out.cell (World.block_lt_of_cell? w _ hw163_1)).trans hw163_1), ((HB.out.cell (World.block_lt_of_cell? w _ hw163_2)).trans hw163_2)⟩ (fun hHeld => ?_)
              clear hK K
              refine norm_ (a' := ?_) ?_ ?_
              rotate_left
              · show Act.put _ (some 31) _ = _
                simp only [Act.put, List.setIfInBounds_toArray, List.set_cons_zero, List.set_cons_succ, i64_w, i32_w]
                rfl
              refine pure_ (i := 13) (N := some 5) (v := ?_) (a' := ?_) #[true, true, true, true, true, true, true, true, true, true, true, true, true, true] rfl rfl (any_of HT_.out (by kernel_rfl)) (fun _ _ _ h => h) (Or.inl ⟨by rfl, ?_⟩) ?_ ?_
              rotate_left
              · intro w'
                go_simp
                with_reducible rfl
              rotate_left
              · simp only [Act.put, List.setIfInBounds_toArray, List.set_cons_zero, List.set_cons_succ, i64_w, i32_w]
                rfl
              refine done_ (done_of HT_.out (by kernel_rfl)) ?_
              try go_wp2
              go_roundg k1
              case measure => have := HK1.out; omega
              case rel => exact ⟨(t165), (wrap64 (x16_1 + 1)), (by first | rfl | (simp; done) | (simp [*]; done)), (by first | rfl | (simp; done) | (simp [*]; done)), H', ⟨by have := HK1.out; omega⟩, ⟨by (with_reducible repeat (first | refine blk_drewN ?_ _ | refine blk_drew ?_ | refine blk_alloc ?_ _)); exact BK160.out⟩, ⟨by (with_reducible repeat (first | refine blk_drewN ?_ _ | refine blk_drew ?_ | refine blk_alloc ?_ _)); exact BK161.out⟩, ⟨by repeat (first | (with_reducible first | exact HB.out | apply below_alloc | apply pw_below_drewN | apply below_drew1 | refine below_set ?_ GE160.out | refine below_set ?_ GE161.out) | exact HB.out)⟩⟩
            · rw [if_neg c12] at H
              exact absurd H (by simp)
          · rw [if_neg c11] at H
            exact absurd H (by simp)
        · rw [if_neg c10] at H
          exact absurd H (by simp)
      · rw [if_neg c9] at H
        have c9b0 : decide (x16_1 < ji3) = false := decide_eq_false c9
        clear c9
        by_cases c17 : (l0_2.length : Int) = (l1_2.length : Int)
        · rw [if_pos c17] at H
          have c17b0 : ((l0_2.length : Int) == (l1_2.length : Int)) = true := beq_iff_eq.mpr c17
          have c17b1 : ((l0_2.length : Int) != (l1_2.length : Int)) = false := bne_eq_false_iff_eq.mpr c17
          have c17b2 : (l0_2.length == l1_2.length) = true := by first | simpa using c17 | (simp at c17 ⊢; omega)
          clear c17
          obtain rfl := Option.some.inj H
          have hnb18 := NB160_161.out
          have hnc18 := NB161_160.out
          have hcz19_0 : wr.cell? ⟨gb160, 0, none⟩ = some (.string a0_0) := (blk_cell BK160.out 0).trans rfl
          have hcz19_1 : wr.cell? ⟨gb160, 1, none⟩ = some (.string a0_1) := (blk_cell BK160.out 1).trans rfl
          have hcz19_2 : wr.cell? ⟨gb160, 2, none⟩ = some (.slice A0_2 l0_2.length c0_2) := (blk_cell BK160.out 2).trans rfl
          have hfz19_0 := blk_frozen BK160.out 0
          have hfz19_1 := blk_frozen BK160.out 1
          have hfz19_2 := blk_frozen BK160.out 2
          have hcz20_0 : wr.cell? ⟨gb161, 0, none⟩ = some (.string a1_0) := (blk_cell BK161.out 0).trans rfl
          have hcz20_1 : wr.cell? ⟨gb161, 1, none⟩ = some (.string a1_1) := (blk_cell BK161.out 1).trans rfl
          have hcz20_2 : wr.cell? ⟨gb161, 2, none⟩ = some (.slice A1_2 l1_2.length c1_2) := (blk_cell BK161.out 2).trans rfl
          have hfz20_0 := blk_frozen BK161.out 0
          have hfz20_1 := blk_frozen BK161.out 1
          have hfz20_2 := blk_frozen BK161.out 2
          go_wp2
          go_ret
          exact ⟨by first | rfl | (simp [errW_none, errW_some] <;> rfl) | (simp only [← hji3]; first | rfl | (simp [errW_none, errW_some] <;> rfl)) | (simp [*, errW_none, errW_some] <;> rfl), by repeat (first | (with_reducible first | exact HB.out | apply below_alloc | apply pw_below_drewN | apply below_drew1 | refine below_set ?_ GE160.out | refine below_set ?_ GE161.out) | exact HB.out)⟩
        · rw [if_neg c17] at H
          have c17b0 : ((l0_2.length : Int) == (l1_2.length : Int)) = false := beq_eq_false_iff_ne.mpr c17
          have c17b1 : ((l0_2.length : Int) != (l1_2.length : Int)) = true := bne_iff_ne.mpr c17
          have c17b2 : (l0_2.length == l1_2.length) = false := by first | simpa using c17 | (simp at c17 ⊢; omega)
          have HC21 := Aside0.mk H
          clear H
          have hnb22 := NB160_161.out
          have hnc22 := NB161_160.out
          have hcz23_0 : wr.cell? ⟨gb160, 0, none⟩ = some (.string a0_0) := (blk_cell BK160.out 0).trans rfl
          have hcz23_1 : wr.cell? ⟨gb160, 1, none⟩ = some (.string a0_1) := (blk_cell BK160.out 1).trans rfl
          have hcz23_2 : wr.cell? ⟨gb160, 2, none⟩ = some (.slice A0_2 l0_2.length c0_2) := (blk_cell BK160.out 2).trans rfl
          have hfz23_0 := blk_frozen BK160.out 0
          have hfz23_1 := blk_frozen BK160.out 1
          have hfz23_2 := blk_frozen BK160.out 2
          have hcz24_0 : wr.cell? ⟨gb161, 0, none⟩ = some (.string a1_0) := (blk_cell BK161.out 0).trans rfl
          have hcz24_1 : wr.cell? ⟨gb161, 1, none⟩ = some (.string a1_1) := (blk_cell BK161.out 1).trans rfl
          have hcz24_2 : wr.cell? ⟨gb161, 2, none⟩ = some (.slice A1_2 l1_2.length c1_2) := (blk_cell BK161.out 2).trans rfl
          have hfz24_0 := blk_frozen BK161.out 0
          have hfz24_1 := blk_frozen BK161.out 1
          have hfz24_2 := blk_frozen BK161.out 2
          go_upto_region 10 with (fail)
          go_cut [42] (fun v42 wc => ∃ (kq : Nat) (x42_20 : Bool), v42 = .bool x42_20 ∧ Aside0 (spec_ByPaths.j1 kq x5_1 ji3 x42_20 a1_0 a1_1 l1_2 = some r) ∧ Aside0 (kq ≤ k1) ∧ Aside0 (wc.heap[gb160]? = some (.cells #[.string a0_0, .string a0_1, (.slice A0_2 l0_2.length c0_2)] 35 (0, 0))) ∧ Aside0 (wc.heap[gb161]? = some (.cells #[.string a1_0, .string a1_1, (.slice A1_2 l1_2.length c1_2)] 35 (0, 0))) ∧ Aside0 (Below w.heap.size w wc))
          case first =>
            have H := HC21.out
            clear HC21
            by_cases c25 : (l0_2.length : Int) = ji3
            · rw [if_pos c25] at H
              have c25b0 : ((l0_2.length : Int) == ji3) = true := beq_iff_eq.mpr c25
              have c25b1 : ((l0_2.length : Int) != ji3) = false := bne_eq_false_iff_eq.mpr c25
              clear c25
              (first | rw [c25b0] | (simp only [i64_w, i32_w]; rw [c25b0]) | skip)
              obtain ⟨ji26, hji26⟩ : ∃ j_ : Int, (wrap64 (ji3 - 1)) = j_ := ⟨_, rfl⟩
              replace H : (if 0 ≤ (ji26) then (if (ji26) < (l0_2.length : Int) then (spec_ByPaths.j1 k1 x5_1 ji3 ((rd_T52 l0_2 (ji26)).f2) a1_0 a1_1 l1_2) else (none)) else (none)) = some r := by first | (rw [hji26] at H; exact H) | (simp only [hji26] at H ⊢; exact H)
              have hji26w : (IntKind.i64.wrap (ji3 - 1)) = ji26 := (i64_w _).trans hji26
              by_cases c27 : 0 ≤ (ji26)
              · rw [if_pos c27] at H
                have c27b0 : decide (0 ≤ (ji26)) = true := decide_eq_true c27
                clear c27
                by_cases c28 : (ji26) < (l0_2.length : Int)
                · rw [if_pos c28] at H
                  have c28b0 : decide ((ji26) < (l0_2.length : Int)) = true := decide_eq_true c28
                  clear c28
                  have H' := Aside0.mk H
                  clear H
                  have hnb29 := NB160_161.out
                  have hnc29 := NB161_160.out
                  have hcz30_0 : wr.cell? ⟨gb160, 0, none⟩ = some (.string a0_0) := (blk_cell BK160.out 0).trans rfl
                  have hcz30_1 : wr.cell? ⟨gb160, 1, none⟩ = some (.string a0_1) := (blk_cell BK160.out 1).trans rfl
                  have hcz30_2 : wr.cell? ⟨gb160, 2, none⟩ = some (.slice A0_2 l0_2.length c0_2) := (blk_cell BK160.out 2).trans rfl
                  have hfz30_0 := blk_frozen BK160.out 0
                  have hfz30_1 := blk_frozen BK160.out 1
                  have hfz30_2 := blk_frozen BK160.out 2
                  have p166 : 0 ≤ ((ji26) : Int) := of_decide_eq_true (by first | (with_reducible assumption) | assumption)
                  have q166 : (ji26) < (l0_2.length : Int) := of_decide_eq_true (by first | (with_reducible assumption) | assumption)
                  obtain ⟨ad166, e166, hx166_0, hx166_1, hx166_2⟩ := at_T52 HR0_2.out (ji26) p166 q166
                  cases e166
                  replace hx166_0 := (HB.out.cell (World.block_lt_of_cell? w _ hx166_0)).trans hx166_0
                  replace hx166_1 := (HB.out.cell (World.block_lt_of_cell? w _ hx166_1)).trans hx166_1
                  replace hx166_2 := (HB.out.cell (World.block_lt_of_cell? w _ hx166_2)).trans hx166_2
                  replace p166 := eq_true p166
                  replace q166 := eq_true q166
                  go_wp2
                  go_meet
                  case rel => exact ⟨_, ((rd_T52 l0_2 (ji26)).f2), (by first | rfl | (simp; done) | (simp only [← hji26] <;> (first | rfl | simp)) | (simp [*]; done)), H', ⟨by have := HK1.out; first | omega | exact Nat.le_refl _⟩, ⟨by (with_reducible repeat (first | refine blk_drewN ?_ _ | refine blk_drew ?_ | refine blk_alloc ?_ _)); exact BK160.out⟩, ⟨by (with_reducible repeat (first | refine blk_drewN ?_ _ | refine blk_drew ?_ | refine blk_alloc ?_ _)); exact BK161.out⟩, ⟨by repeat (first | (with_reducible first | exact HB.out | apply below_alloc | apply pw_below_drewN | apply below_drew1 | refine below_set ?_ GE160.out | refine below_set ?_ GE161.out) | exact HB.out)⟩⟩
                · rw [if_neg c28] at H
                  exact absurd H (by simp)
              · rw [if_neg c27] at H
                exact absurd H (by simp)
            · rw [if_neg c25] at H
              have c25b0 : ((l0_2.length : Int) == ji3) = false := beq_eq_false_iff_ne.mpr c25
              have c25b1 : ((l0_2.length : Int) != ji3) = true := bne_iff_ne.mpr c25
              (first | rw [c25b0] | (simp only [i64_w, i32_w]; rw [c25b0]) | skip)
              have H' := Aside0.mk H
              clear H
              have hnb31 := NB160_161.out
              have hnc31 := NB161_160.out
              have hcz32_0 : wr.cell? ⟨gb160, 0, none⟩ = some (.string a0_0) := (blk_cell BK160.out 0).trans rfl
              have hcz32_1 : wr.cell? ⟨gb160, 1, none⟩ = some (.string a0_1) := (blk_cell BK160.out 1).trans rfl
              have hcz32_2 : wr.cell? ⟨gb160, 2, none⟩ = some (.slice A0_2 l0_2.length c0_2) := (blk_cell BK160.out 2).trans rfl
              have hfz32_0 := blk_frozen BK160.out 0
              have hfz32_1 := blk_frozen BK160.out 1
              have hfz32_2 := blk_frozen BK160.out 2
              go_wp2
              go_meet
              case rel => exact ⟨_, (false), (by first | rfl | (simp; done) | (simp [*]; done)), H', ⟨by have := HK1.out; first | omega | exact Nat.le_refl _⟩, ⟨by (with_reducible repeat (first | refine blk_drewN ?_ _ | refine blk_drew ?_ | refine blk_alloc ?_ _)); exact BK160.out⟩, ⟨by (with_reducible repeat (first | refine blk_drewN ?_ _ | refine blk_drew ?_ | refine blk_alloc ?_ _)); exact BK161.out⟩, ⟨by repeat (first | (with_reducible first | exact HB.out | apply below_alloc | apply pw_below_drewN | apply below_drew1 | refine below_set ?_ GE160.out | refine below_set ?_ GE161.out) | exact HB.out)⟩⟩
          case rest =>
            clear HC21
            try clear c1
            try clear p1
            try clear q1
            try clear hx1
            try clear c2
            try clear p2
            try clear c3
            try clear c6
            try clear p6
            try clear c9
            try clear c9b0
            try clear c10
            try clear c10b0
            try clear c11
            try clear c11b0
            try clear c12
            try clear c12b0
            try clear p16
            try clear q16
            try clear hx16
            try clear c17
            try clear c17b0
            try clear c17b1
            try clear c17b2
            try clear c18
            try clear c22
            try clear c25
            try clear c25b0
            try clear c25b1
            try clear c26
            try clear c27
            try clear c27b0
            try clear c28
            try clear c28b0
            try clear c29
            try clear c31
            try clear hcz19_0
            try clear hcz19_1
            try clear hcz19_2
            try clear hcz20_0
            try clear hcz20_1
            try clear hcz20_2
            try clear hcz23_0
            try clear hcz23_1
            try clear hcz23_2
            try clear hcz24_0
            try clear hcz24_1
            try clear hcz24_2
            try clear hcz30_0
            try clear hcz30_1
            try clear hcz30_2
            try clear hcz32_0
            try clear hcz32_1
            try clear hcz32_2
            try clear hcz7_0
            try clear hcz7_1
            try clear hcz7_2
            try clear hcz8_0
            try clear hcz8_1
            try clear hcz8_2
            try clear hfz19_0
            try clear hfz19_1
            try clear hfz19_2
            try clear hfz20_0
            try clear hfz20_1
            try clear hfz20_2
            try clear hfz23_0
            try clear hfz23_1
            try clear hfz23_2
            try clear hfz24_0
            try clear hfz24_1
            try clear hfz24_2
            try clear hfz30_0
            try clear hfz30_1
            try clear hfz30_2
            try clear hfz32_0
            try clear hfz32_1
            try clear hfz32_2
            try clear hfz7_0
            try clear hfz7_1
            try clear hfz7_2
            try clear hfz8_0
            try clear hfz8_1
            try clear hfz8_2
            try clear hx162_0
            try clear hx162_1
            try clear hx162_2
            try clear hx163_0
            try clear hx163_1
            try clear hx163_2
            try clear hx166_0
            try clear hx166_1
            try clear hx166_2
            try clear p162
            try clear p163
            try clear p166
            try clear p2
            try clear q162
            try clear q163
            try clear q166
            obtain ⟨kq, x42_20, rfl, HA, HJ20, BK160, BK161, HB⟩ := hcut
            cases kq with
            | zero => exact absurd HA.out (by simp [spec_ByPaths.j1])
            | succ kj20 =>
              have H := HA.out
              clear HA
              simp only [spec_ByPaths.j1] at H
              by_cases c33 : x42_20 = true
              · subst c33
                have H1 : ((spec_Combine.f kj20 x5_1 (⟨#[109, 111, 114, 101, 71, 101, 110, 101, 114, 97, 108]⟩ : ByteArray)).bind fun t167 => (some t167)) = some r := by rw [if_pos rfl] at H; exact H
                clear H
                have H := H1
                clear H1
                replace H := Option.bind_eq_some_iff.mp H
                obtain ⟨t167, A340, H⟩ := H
                replace H : (some t167) = some r := H
                have A34 := Aside0.mk A340
                clear A340
                obtain rfl := Option.some.inj H
                go_wp2_with (first | ((with_reducible refine gate_callee (f := 26) rfl ?_); refine goesL_ (some 58) rfl rfl Tryz.func26 (by kernel_rfl) rfl #[.string x5_1, .string (⟨#[109, 111, 114, 101, 71, 101, 110, 101, 114, 97, 108]⟩ : ByteArray)] rfl (by (try simp only [List.map_toArray, List.map_cons, List.map_nil]); first | done | rfl | (simp only [List.length_drop, List.length_take]; rfl)) ?_; (with_reducible refine (spec_Combine.calls kj20 x5_1 (⟨#[109, 111, 114, 101, 71, 101, 110, 101, 114, 97, 108]⟩ : ByteArray) t167 _ A34.out).mono ?_); rintro e w' ⟨rfl, ⟨nd, rfl⟩⟩; refine ⟨_, rfl, ?_⟩))
                go_ret
                exact ⟨by first | rfl | (simp [errW_none, errW_some] <;> rfl) | (simp only [← hji3]; first | rfl | (simp [errW_none, errW_some] <;> rfl)) | (simp [*, errW_none, errW_some] <;> rfl), by repeat (first | (with_reducible first | exact HB.out | apply below_alloc | apply pw_below_drewN | apply below_drew1 | refine below_set ?_ GE160.out | refine below_set ?_ GE161.out) | exact HB.out)⟩
              · replace c33 := Bool.eq_false_iff.mpr c33
                subst c33
                have H1 : (if (l1_2.length : Int) = ji3 then (if 0 ≤ (wrap64 (ji3 - 1)) then (if (wrap64 (ji3 - 1)) < (l1_2.length : Int) then (if (rd_T52 l1_2 (wrap64 (ji3 - 1))).f2 = true then ((spec_Combine.f kj20 x5_1 (⟨#[109, 111, 114, 101, 83, 112, 101, 99, 105, 102, 105, 99]⟩ : ByteArray)).bind fun t169 => (some t169)) else (some (⟨#[100, 105, 115, 106, 111, 105, 110, 116]⟩ : ByteArray))) else (none)) else (none)) else (some (⟨#[100, 105, 115, 106, 111, 105, 110, 116]⟩ : ByteArray))) = some r := by rw [if_neg (show ¬ (false = true) by decide)] at H; exact H
                clear H
                have H := H1
                clear H1
                by_cases c35 : (l1_2.length : Int) = ji3
                · rw [if_pos c35] at H
                  have c35b0 : ((l1_2.length : Int) == ji3) = true := beq_iff_eq.mpr c35
                  have c35b1 : ((l1_2.length : Int) != ji3) = false := bne_eq_false_iff_eq.mpr c35
                  clear c35
                  obtain ⟨ji36, hji36⟩ : ∃ j_ : Int, (wrap64 (ji3 - 1)) = j_ := ⟨_, rfl⟩
                  replace H : (if 0 ≤ (ji36) then (if (ji36) < (l1_2.length : Int) then (if (rd_T52 l1_2 (ji36)).f2 = true then ((spec_Combine.f kj20 x5_1 (⟨#[109, 111, 114, 101, 83, 112, 101, 99, 105, 102, 105, 99]⟩ : ByteArray)).bind fun t169 => (some t169)) else (some (⟨#[100, 105, 115, 106, 111, 105, 110, 116]⟩ : ByteArray))) else (none)) else (none)) = some r := by first | (rw [hji36] at H; exact H) | (simp only [hji36] at H ⊢; exact H)
                  have hji36w : (IntKind.i64.wrap (ji3 - 1)) = ji36 := (i64_w _).trans hji36
                  by_cases c37 : 0 ≤ (ji36)
                  · rw [if_pos c37] at H
                    have c37b0 : decide (0 ≤ (ji36)) = true := decide_eq_true c37
                    clear c37
                    by_cases c38 : (ji36) < (l1_2.length : Int)
                    · rw [if_pos c38] at H
                      have c38b0 : decide ((ji36) < (l1_2.length : Int)) = true := decide_eq_true c38
                      clear c38
                      obtain ⟨bq39, hbq39⟩ : ∃ b_ : Bool, b_ = ((rd_T52 l1_2 (ji36)).f2) := ⟨_, rfl⟩
                      replace H : (if bq39 = true then ((spec_Combine.f kj20 x5_1 (⟨#[109, 111, 114, 101, 83, 112, 101, 99, 105, 102, 105, 99]⟩ : ByteArray)).bind fun t169 => (some t169)) else (some (⟨#[100, 105, 115, 106, 111, 105, 110, 116]⟩ : ByteArray))) = some r := by rw [← hbq39] at H; exact H
                      have Nbq39 := Aside0.mk hbq39
                      clear hbq39
                      by_cases c40 : bq39 = true
                      · subst c40
                        have H1 : ((spec_Combine.f kj20 x5_1 (⟨#[109, 111, 114, 101, 83, 112, 101, 99, 105, 102, 105, 99]⟩ : ByteArray)).bind fun t169 => (some t169)) = some r := by rw [if_pos rfl] at H; exact H
                        clear H
                        have H := H1
                        clear H1
                        replace H := Option.bind_eq_some_iff.mp H
                        obtain ⟨t169, A410, H⟩ := H
                        replace H : (some t169) = some r := H
                        have A41 := Aside0.mk A410
                        clear A410
                        obtain rfl := Option.some.inj H
                        have hnb42 := NB161_160.out
                        have hnc42 := NB160_161.out
                        have hcz43_0 : wc.cell? ⟨gb161, 0, none⟩ = some (.string a1_0) := (blk_cell BK161.out 0).trans rfl
                        have hcz43_1 : wc.cell? ⟨gb161, 1, none⟩ = some (.string a1_1) := (blk_cell BK161.out 1).trans rfl
                        have hcz43_2 : wc.cell? ⟨gb161, 2, none⟩ = some (.slice A1_2 l1_2.length c1_2) := (blk_cell BK161.out 2).trans rfl
                        have hfz43_0 := blk_frozen BK161.out 0
                        have hfz43_1 := blk_frozen BK161.out 1
                        have hfz43_2 := blk_frozen BK161.out 2
                        have p168 : 0 ≤ ((ji36) : Int) := of_decide_eq_true (by first | (with_reducible assumption) | assumption)
                        have q168 : (ji36) < (l1_2.length : Int) := of_decide_eq_true (by first | (with_reducible assumption) | assumption)
                        obtain ⟨ad168, e168, hx168_0, hx168_1, hx168_2⟩ := at_T52 HR1_2.out (ji36) p168 q168
                        (try rw [← Nbq39.out] at hx168_1)
                        (try rw [← Nbq39.out] at hx168_2)
                        cases e168
                        replace hx168_0 := (HB.out.cell (World.block_lt_of_cell? w _ hx168_0)).trans hx168_0
                        replace hx168_1 := (HB.out.cell (World.block_lt_of_cell? w _ hx168_1)).trans hx168_1
                        replace hx168_2 := (HB.out.cell (World.block_lt_of_cell? w _ hx168_2)).trans hx168_2
                        replace p168 := eq_true p168
                        replace q168 := eq_true q168
                        go_wp2_with (first | ((with_reducible refine gate_callee (f := 26) rfl ?_); refine goesL_ (some 75) rfl rfl Tryz.func26 (by kernel_rfl) rfl #[.string x5_1, .string (⟨#[109, 111, 114, 101, 83, 112, 101, 99, 105, 102, 105, 99]⟩ : ByteArray)] rfl (by (try simp only [List.map_toArray, List.map_cons, List.map_nil]); first | done | rfl | (simp only [List.length_drop, List.length_take]; rfl)) ?_; (with_reducible refine (spec_Combine.calls kj20 x5_1 (⟨#[109, 111, 114, 101, 83, 112, 101, 99, 105, 102, 105, 99]⟩ : ByteArray) t169 _ A41.out).mono ?_); rintro e w' ⟨rfl, ⟨nd, rfl⟩⟩; refine ⟨_, rfl, ?_⟩))
                        go_ret
                        exact ⟨by first | rfl | (simp [errW_none, errW_some] <;> rfl) | (simp only [← hji3, ← hji36]; first | rfl | (simp [errW_none, errW_some] <;> rfl)) | (simp [*, errW_none, errW_some] <;> rfl), by repeat (first | (with_reducible first | exact HB.out | apply below_alloc | apply pw_below_drewN | apply below_drew1 | refine below_set ?_ GE160.out | refine below_set ?_ GE161.out) | exact HB.out)⟩
                      · replace c40 := Bool.eq_false_iff.mpr c40
                        subst c40
                        have H1 : (some (⟨#[100, 105, 115, 106, 111, 105, 110, 116]⟩ : ByteArray)) = some r := by rw [if_neg (show ¬ (false = true) by decide)] at H; exact H
                        clear H
                        have H := H1
                        clear H1
                        obtain rfl := Option.some.inj H
                        have hnb44 := NB161_160.out
                        have hnc44 := NB160_161.out
                        have hcz45_0 : wc.cell? ⟨gb161, 0, none⟩ = some (.string a1_0) := (blk_cell BK161.out 0).trans rfl
                        have hcz45_1 : wc.cell? ⟨gb161, 1, none⟩ = some (.string a1_1) := (blk_cell BK161.out 1).trans rfl
                        have hcz45_2 : wc.cell? ⟨gb161, 2, none⟩ = some (.slice A1_2 l1_2.length c1_2) := (blk_cell BK161.out 2).trans rfl
                        have hfz45_0 := blk_frozen BK161.out 0
                        have hfz45_1 := blk_frozen BK161.out 1
                        have hfz45_2 := blk_frozen BK161.out 2
                        have p168 : 0 ≤ ((ji36) : Int) := of_decide_eq_true (by first | (with_reducible assumption) | assumption)
                        have q168 : (ji36) < (l1_2.length : Int) := of_decide_eq_true (by first | (with_reducible assumption) | assumption)
                        obtain ⟨ad168, e168, hx168_0, hx168_1, hx168_2⟩ := at_T52 HR1_2.out (ji36) p168 q168
                        (try rw [← Nbq39.out] at hx168_1)
                        (try rw [← Nbq39.out] at hx168_2)
                        cases e168
                        replace hx168_0 := (HB.out.cell (World.block_lt_of_cell? w _ hx168_0)).trans hx168_0
                        replace hx168_1 := (HB.out.cell (World.block_lt_of_cell? w _ hx168_1)).trans hx168_1
                        replace hx168_2 := (HB.out.cell (World.block_lt_of_cell? w _ hx168_2)).trans hx168_2
                        replace p168 := eq_true p168
                        replace q168 := eq_true q168
                        go_wp2
                        go_ret
                        exact ⟨by first | rfl | (simp [errW_none, errW_some] <;> rfl) | (simp only [← hji3, ← hji36]; first | rfl | (simp [errW_none, errW_some] <;> rfl)) | (simp [*, errW_none, errW_some] <;> rfl), by repeat (first | (with_reducible first | exact HB.out | apply below_alloc | apply pw_below_drewN | apply below_drew1 | refine below_set ?_ GE160.out | refine below_set ?_ GE161.out) | exact HB.out)⟩
                    · rw [if_neg c38] at H
                      exact absurd H (by simp)
                  · rw [if_neg c37] at H
                    exact absurd H (by simp)
                · rw [if_neg c35] at H
                  have c35b0 : ((l1_2.length : Int) == ji3) = false := beq_eq_false_iff_ne.mpr c35
                  have c35b1 : ((l1_2.length : Int) != ji3) = true := bne_iff_ne.mpr c35
                  obtain rfl := Option.some.inj H
                  have hnb46 := NB161_160.out
                  have hnc46 := NB160_161.out
                  have hcz47_0 : wc.cell? ⟨gb161, 0, none⟩ = some (.string a1_0) := (blk_cell BK161.out 0).trans rfl
                  have hcz47_1 : wc.cell? ⟨gb161, 1, none⟩ = some (.string a1_1) := (blk_cell BK161.out 1).trans rfl
                  have hcz47_2 : wc.cell? ⟨gb161, 2, none⟩ = some (.slice A1_2 l1_2.length c1_2) := (blk_cell BK161.out 2).trans rfl
                  have hfz47_0 := blk_frozen BK161.out 0
                  have hfz47_1 := blk_frozen BK161.out 1
                  have hfz47_2 := blk_frozen BK161.out 2
                  go_wp2
                  go_ret
                  exact ⟨by first | rfl | (simp [errW_none, errW_some] <;> rfl) | (simp only [← hji3]; first | rfl | (simp [errW_none, errW_some] <;> rfl)) | (simp [*, errW_none, errW_some] <;> rfl), by repeat (first | (with_reducible first | exact HB.out | apply below_alloc | apply pw_below_drewN | apply below_drew1 | refine below_set ?_ GE160.out | refine below_set ?_ GE161.out) | exact HB.out)⟩
end Go.Proofs.YtcedefabmelogaaGreatDoor.PFnAllowed
