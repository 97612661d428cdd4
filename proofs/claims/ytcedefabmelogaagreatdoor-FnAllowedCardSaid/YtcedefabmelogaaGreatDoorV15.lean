/- What zzFits1, zzFits2, zzFits3, zzFits5, conv, all and has of the given program come to. -/
import Derived.Test.YtcedefabmelogaaGreatDoorV02
namespace Go.Proofs.YtcedefabmelogaaGreatDoor.PFnAllowed
open Go.RowKit Go.Proofs.YtcedefabmelogaaGreatDoorW.PrintWords Go.Proofs.YtcedefabmelogaaGreatDoorW.PrintLast Go.Proofs.YtcedefabmelogaaGreatDoorW.PrintMore
attribute [local go_sem] max2_int min2_int max_two min_two max_three min_three max_four min_four   -- for this text's walks alone
set_option linter.unusedVariables false
set_option linter.unusedSimpArgs false
def laws_zzFits3.f (a0_0 : ByteArray) (a0_1 : Bool) (a0_2 : Bool) : Option (Bool) := if (a0_0.size : Int) > 2147483647 then (some false) else (some true)
set_option maxHeartbeats 8000000 in
set_option maxRecDepth 100000 in
theorem laws_zzFits3.calls (a0_0 : ByteArray) (a0_1 : Bool) (a0_2 : Bool) (r : Bool) (w : World) (h : laws_zzFits3.f a0_0 a0_1 a0_2 = some r) :
    Calls Tryz.prog 33 #[.agg #[.string a0_0, .bool a0_1, .bool a0_2]] w fun e w' => e = .returned (.bool r) ∧ Below w.heap.size w w' := by
  have hu54 := Tryz.underlying54
  have HB := Aside0.mk (Below.refl w.heap.size w)
  have H : (if (a0_0.size : Int) > 2147483647 then (some false) else (some true)) = some r := h
  clear h
  by_cases c2 : (a0_0.size : Int) > 2147483647
  · rw [if_pos c2] at H
    have c2b0 : decide (2147483647 < (a0_0.size : Int)) = true := decide_eq_true c2
    have c2b1 : decide (2147483647 < a0_0.size) = true := decide_eq_true (by omega)
    clear c2
    obtain rfl := Option.some.inj H
    go_enter Tryz.func33, Tryz.ntmps33
    go_wp2_with (first | ((with_reducible refine gate_dst (N := 1) rfl ?_); refine box_event ?hg (N := 1) ?hd (cs := #[.string a0_0, .bool a0_1, .bool a0_2]) (t := 54) ?hr ?_; (case hd => rfl); (case hg => rfl); (case hr => first | (go_simp; done) | (go_simp; rfl)); intro gb101 hg w3 hbox hb; have n0_ := Aside0.mk (below_step (by repeat (first | (with_reducible first | exact HB.out | apply below_alloc | apply pw_below_drewN | apply below_drew1) | exact HB.out)) hb); have n1_ := Aside0.mk (hbox); have n2_ := Aside0.mk ((by rw [hg]; exact (below_size (by repeat (first | (with_reducible first | exact HB.out | apply below_alloc | apply pw_below_drewN | apply below_drew1) | exact HB.out))) : w.heap.size ≤ gb101)); have n3_ := Aside0.mk ((by rw [hg]; exact (below_size (by repeat (first | (with_reducible first | exact HB.out | apply below_alloc | apply pw_below_drewN | apply below_drew1) | exact HB.out))) : w.heap.size ≤ gb101)); clear HB; have HB := n0_; have BK101 := n1_; have GW101 := n2_; have GE101 := n3_; clear n0_ n1_ n2_ n3_; clear hb hbox hg; have hcz4_0 : w3.cell? ⟨gb101, 0, none⟩ = some (.string a0_0) := (blk_cell BK101.out 0).trans rfl; have hcz4_1 : w3.cell? ⟨gb101, 1, none⟩ = some (.bool a0_1) := (blk_cell BK101.out 1).trans rfl; have hcz4_2 : w3.cell? ⟨gb101, 2, none⟩ = some (.bool a0_2) := (blk_cell BK101.out 2).trans rfl; have hfz4_0 := blk_frozen BK101.out 0; have hfz4_1 := blk_frozen BK101.out 1; have hfz4_2 := blk_frozen BK101.out 2))
    go_ret
    exact ⟨by first | rfl | (simp [errW_none, errW_some] <;> rfl) | (simp [*, errW_none, errW_some] <;> rfl), by repeat (first | (with_reducible first | exact HB.out | apply below_alloc | apply pw_below_drewN | apply below_drew1 | refine below_set ?_ GE101.out) | exact HB.out)⟩
  · rw [if_neg c2] at H
    have c2b0 : decide (2147483647 < (a0_0.size : Int)) = false := decide_eq_false c2
    have c2b1 : decide (2147483647 < a0_0.size) = false := decide_eq_false (by omega)
    clear c2
    obtain rfl := Option.some.inj H
    go_enter Tryz.func33, Tryz.ntmps33
    go_wp2_with (first | ((with_reducible refine gate_dst (N := 1) rfl ?_); refine box_event ?hg (N := 1) ?hd (cs := #[.string a0_0, .bool a0_1, .bool a0_2]) (t := 54) ?hr ?_; (case hd => rfl); (case hg => rfl); (case hr => first | (go_simp; done) | (go_simp; rfl)); intro gb101 hg w5 hbox hb; have n0_ := Aside0.mk (below_step (by repeat (first | (with_reducible first | exact HB.out | apply below_alloc | apply pw_below_drewN | apply below_drew1) | exact HB.out)) hb); have n1_ := Aside0.mk (hbox); have n2_ := Aside0.mk ((by rw [hg]; exact (below_size (by repeat (first | (with_reducible first | exact HB.out | apply below_alloc | apply pw_below_drewN | apply below_drew1) | exact HB.out))) : w.heap.size ≤ gb101)); have n3_ := Aside0.mk ((by rw [hg]; exact (below_size (by repeat (first | (with_reducible first | exact HB.out | apply below_alloc | apply pw_below_drewN | apply below_drew1) | exact HB.out))) : w.heap.size ≤ gb101)); clear HB; have HB := n0_; have BK101 := n1_; have GW101 := n2_; have GE101 := n3_; clear n0_ n1_ n2_ n3_; clear hb hbox hg; have hcz6_0 : w5.cell? ⟨gb101, 0, none⟩ = some (.string a0_0) := (blk_cell BK101.out 0).trans rfl; have hcz6_1 : w5.cell? ⟨gb101, 1, none⟩ = some (.bool a0_1) := (blk_cell BK101.out 1).trans rfl; have hcz6_2 : w5.cell? ⟨gb101, 2, none⟩ = some (.bool a0_2) := (blk_cell BK101.out 2).trans rfl; have hfz6_0 := blk_frozen BK101.out 0; have hfz6_1 := blk_frozen BK101.out 1; have hfz6_2 := blk_frozen BK101.out 2))
    go_ret
    exact ⟨by first | rfl | (simp [errW_none, errW_some] <;> rfl) | (simp [*, errW_none, errW_some] <;> rfl), by repeat (first | (with_reducible first | exact HB.out | apply below_alloc | apply pw_below_drewN | apply below_drew1 | refine below_set ?_ GE101.out) | exact HB.out)⟩
def laws_zzFits2.l0 : Nat → List (S54) → Int → Int → Option (Bool)
  | 0, _, _, _ => none
  | k + 1, x8, x9, x10 => if x10 < x9 then (if 0 ≤ x10 then (if x10 < (x8.length : Int) then ((laws_zzFits3.f ((rd_T54 x8 x10).f0) ((rd_T54 x8 x10).f1) ((rd_T54 x8 x10).f2)).bind fun t104 => (if t104 = true then (laws_zzFits2.l0 k x8 x9 (wrap64 (x10 + 1))) else (some false))) else (none)) else (none)) else (some true)
def laws_zzFits2.f (k : Nat) (l0 : List (S54)) : Option (Bool) := if (l0.length : Int) > 2147483647 then (some false) else (laws_zzFits2.l0 k l0 (l0.length : Int) 0)
theorem laws_zzFits2.mono_l : ∀ k, (∀ y0 y1 y2, LeO (laws_zzFits2.l0 k y0 y1 y2) (laws_zzFits2.l0 (k + 1) y0 y1 y2))
  | 0 => fun _ _ _ r h => by simp [laws_zzFits2.l0] at h
  | k + 1 => by
    have ih0 := laws_zzFits2.mono_l k
    · intro y0 y1 y2
      unfold laws_zzFits2.l0
      repeat' first
      | (with_reducible exact ih0 _ _ _)
      | (with_reducible exact LeO.refl _)
      | (with_reducible exact LeO.none _)
      | (with_reducible refine LeO.ite ?_ ?_)
      | (with_reducible refine LeO.bind ?_ (fun _ => ?_))
      | exact ih0 _ _ _
      | exact LeO.none _
      | refine LeO.ite ?_ ?_
      | refine LeO.bind ?_ (fun _ => ?_)
theorem laws_zzFits2.mono : ∀ a0 k, LeO (laws_zzFits2.f k a0) (laws_zzFits2.f (k + 1) a0) := by
  intro a0 k
  have ih0 := laws_zzFits2.mono_l k
  unfold laws_zzFits2.f
  repeat' first
      | (with_reducible exact ih0 _ _ _)
      | (with_reducible exact LeO.refl _)
      | (with_reducible exact LeO.none _)
      | (with_reducible refine LeO.ite ?_ ?_)
      | (with_reducible refine LeO.bind ?_ (fun _ => ?_))
      | exact ih0 _ _ _
      | exact LeO.none _
      | refine LeO.ite ?_ ?_
      | refine LeO.bind ?_ (fun _ => ?_)
set_option maxHeartbeats 8000000 in
set_option maxRecDepth 100000 in
theorem laws_zzFits2.calls (k : Nat) (A0 : Option Addr) (c0 : Nat) (l0 : List (S54)) (r : Bool) (w : World) (hr0 : Kd.C k54 w A0 l0.length l0) (hc0 : l0.length ≤ c0) (h : laws_zzFits2.f k l0 = some r) :
    Calls Tryz.prog 22 #[.slice A0 l0.length c0] w fun e w' => e = .returned (.bool r) ∧ Below w.heap.size w w' := by
  have hu54 := Tryz.underlying54
  have HR0 := Aside0.mk hr0
  have HC0 := Aside0.mk hc0
  clear hr0 hc0
  have HB := Aside0.mk (Below.refl w.heap.size w)
  have H : (if (l0.length : Int) > 2147483647 then (some false) else (laws_zzFits2.l0 k l0 (l0.length : Int) 0)) = some r := h
  clear h
  by_cases c2 : (l0.length : Int) > 2147483647
  · rw [if_pos c2] at H
    have c2b0 : decide (2147483647 < (l0.length : Int)) = true := decide_eq_true c2
    have c2b1 : decide (2147483647 < l0.length) = true := decide_eq_true (by omega)
    clear c2
    obtain rfl := Option.some.inj H
    go_enter Tryz.func22, Tryz.ntmps22
    go_wp2
    go_ret
    exact ⟨by first | rfl | (simp [errW_none, errW_some] <;> rfl) | (simp [*, errW_none, errW_some] <;> rfl), by repeat (first | (with_reducible first | exact HB.out | apply below_alloc | apply pw_below_drewN | apply below_drew1) | exact HB.out)⟩
  · rw [if_neg c2] at H
    have c2b0 : decide (2147483647 < (l0.length : Int)) = false := decide_eq_false c2
    have c2b1 : decide (2147483647 < l0.length) = false := decide_eq_false (by omega)
    clear c2
    have H' := Aside0.mk H
    clear H
    go_enter Tryz.func22, Tryz.ntmps22
    go_wp2
    go_loopg [10] k (fun kq v10 w' => ∃ (x10_1 : Int), v10 = .int .i64 x10_1 ∧ Aside0 (laws_zzFits2.l0 kq l0 (l0.length : Int) x10_1 = some r) ∧ Aside0 (kq ≤ k) ∧ Aside0 (Below w.heap.size w w'))
    case atStart => exact ⟨(0), (by first | rfl | (simp; done) | (simp [*]; done)), H', ⟨Nat.le_refl _⟩, ⟨by repeat (first | (with_reducible first | exact HB.out | apply below_alloc | apply pw_below_drewN | apply below_drew1) | exact HB.out)⟩⟩
    case round =>
      clear H'
      try clear c2
      try clear c2b0
      try clear c2b1
      try clear p2
      obtain ⟨x10_1, rfl, HA, HK1, HB⟩ := hrel
      cases gk with
      | zero => exact absurd HA.out (by simp [laws_zzFits2.l0])
      | succ k1 =>
        have H := HA.out
        clear HA
        simp only [laws_zzFits2.l0] at H
        by_cases c3 : x10_1 < (l0.length : Int)
        · rw [if_pos c3] at H
          have c3b0 : decide (x10_1 < (l0.length : Int)) = true := decide_eq_true c3
          clear c3
          by_cases c4 : 0 ≤ x10_1
          · rw [if_pos c4] at H
            have c4b0 : decide (0 ≤ x10_1) = true := decide_eq_true c4
            clear c4
            by_cases c5 : x10_1 < (l0.length : Int)
            · rw [if_pos c5] at H
              have c5b0 : decide (x10_1 < (l0.length : Int)) = true := decide_eq_true c5
              clear c5
              replace H := Option.bind_eq_some_iff.mp H
              obtain ⟨t104, A60, H⟩ := H
              replace H : (if t104 = true then (laws_zzFits2.l0 k1 l0 (l0.length : Int) (wrap64 (x10_1 + 1))) else (some false)) = some r := H
              have A6 := Aside0.mk A60
              clear A60
              by_cases c7 : t104 = true
              · subst c7
                have H1 : (laws_zzFits2.l0 k1 l0 (l0.length : Int) (wrap64 (x10_1 + 1))) = some r := by rw [if_pos rfl] at H; exact H
                clear H
                have H := H1
                clear H1
                have H' := Aside0.mk H
                clear H
                have p102 : 0 ≤ (x10_1 : Int) := of_decide_eq_true (by first | (with_reducible assumption) | assumption)
                have q102 : x10_1 < (l0.length : Int) := of_decide_eq_true (by first | (with_reducible assumption) | assumption)
                obtain ⟨ad102, e102, hx102_0, hx102_1, hx102_2⟩ := at_T54 HR0.out x10_1 p102 q102
                cases e102
                replace hx102_0 := (HB.out.cell (World.block_lt_of_cell? w _ hx102_0)).trans hx102_0
                replace hx102_1 := (HB.out.cell (World.block_lt_of_cell? w _ hx102_1)).trans hx102_1
                replace hx102_2 := (HB.out.cell (World.block_lt_of_cell? w _ hx102_2)).trans hx102_2
                replace p102 := eq_true p102
                replace q102 := eq_true q102
                go_wp2_with (first | ((with_reducible refine gate_dst (N := 4) rfl ?_); refine box_event ?hg (N := 4) ?hd (cs := #[.string (⟨#[]⟩ : ByteArray), .bool false, .bool false]) (t := 54) ?hr ?_; (case hd => rfl); (case hg => rfl); (case hr => first | (go_simp; done) | (go_simp; rfl)); intro gb103 hg w8 hbox hb; have n0_ := Aside0.mk (below_step (by repeat (first | (with_reducible first | exact HB.out | apply below_alloc | apply pw_below_drewN | apply below_drew1) | exact HB.out)) hb); have n1_ := Aside0.mk (hbox); have n2_ := Aside0.mk ((by rw [hg]; exact (below_size (by repeat (first | (with_reducible first | exact HB.out | apply below_alloc | apply pw_below_drewN | apply below_drew1) | exact HB.out))) : w.heap.size ≤ gb103)); have n3_ := Aside0.mk ((by rw [hg]; exact (below_size (by repeat (first | (with_reducible first | exact HB.out | apply below_alloc | apply pw_below_drewN | apply below_drew1) | exact HB.out))) : w.heap.size ≤ gb103)); clear HB; have HB := n0_; have BK103 := n1_; have GW103 := n2_; have GE103 := n3_; clear n0_ n1_ n2_ n3_; clear hb hbox hg; have hcz9_0 : w8.cell? ⟨gb103, 0, none⟩ = some (.string (⟨#[]⟩ : ByteArray)) := (blk_cell BK103.out 0).trans rfl; have hcz9_1 : w8.cell? ⟨gb103, 1, none⟩ = some (.bool false) := (blk_cell BK103.out 1).trans rfl; have hcz9_2 : w8.cell? ⟨gb103, 2, none⟩ = some (.bool false) := (blk_cell BK103.out 2).trans rfl; have hfz9_0 := blk_frozen BK103.out 0; have hfz9_1 := blk_frozen BK103.out 1; have hfz9_2 := blk_frozen BK103.out 2) | ((with_reducible refine gate_callee (f := 33) rfl ?_); refine goesL_ (some 15) rfl rfl Tryz.func33 (by kernel_rfl) rfl #[.agg #[.string ((rd_T54 l0 x10_1).f0), .bool ((rd_T54 l0 x10_1).f1), .bool ((rd_T54 l0 x10_1).f2)]] rfl (by (try simp only [List.map_toArray, List.map_cons, List.map_nil]); first | done | rfl | (simp only [List.length_drop, List.length_take]; rfl)) ?_; (with_reducible refine (laws_zzFits3.calls ((rd_T54 l0 x10_1).f0) ((rd_T54 l0 x10_1).f1) ((rd_T54 l0 x10_1).f2) true _ A6.out).mono ?_); rintro e w10 ⟨rfl, hb⟩; refine ⟨_, rfl, ?_⟩; have n0_ := Aside0.mk (blk_below (g := gb103) (o := .cells #[.string ((rd_T54 l0 x10_1).f0), .bool ((rd_T54 l0 x10_1).f1), .bool ((rd_T54 l0 x10_1).f2)] 54 (0, 0)) (by (with_reducible repeat (first | refine blk_drewN ?_ _ | refine blk_drew ?_ | refine blk_alloc ?_ _)); refine blk_put (cs := #[.string ((rd_T54 l0 x10_1).f0), .bool ((rd_T54 l0 x10_1).f1), .bool false]) ?_ 2 _ rfl; (with_reducible repeat (first | refine blk_drewN ?_ _ | refine blk_drew ?_ | refine blk_alloc ?_ _)); refine blk_put (cs := #[.string ((rd_T54 l0 x10_1).f0), .bool false, .bool false]) ?_ 1 _ rfl; (with_reducible repeat (first | refine blk_drewN ?_ _ | refine blk_drew ?_ | refine blk_alloc ?_ _)); refine blk_put (cs := #[.string (⟨#[]⟩ : ByteArray), .bool false, .bool false]) ?_ 0 _ rfl; (with_reducible repeat (first | refine blk_drewN ?_ _ | refine blk_drew ?_ | refine blk_alloc ?_ _)); exact BK103.out) hb); have n1_ := Aside0.mk (below_step (by repeat (first | (with_reducible first | exact HB.out | apply below_alloc | apply pw_below_drewN | apply below_drew1 | refine below_set ?_ GE103.out) | exact HB.out)) hb); clear BK103; clear HB; have BK103 := n0_; have HB := n1_; clear n0_ n1_; (try clear hb); (try clear hb2); (try clear hk); (try clear hi)))
                go_roundg k1
                case measure => have := HK1.out; omega
                case rel => exact ⟨(wrap64 (x10_1 + 1)), (by first | rfl | (simp; done) | (simp [*]; done)), H', ⟨by have := HK1.out; omega⟩, ⟨by repeat (first | (with_reducible first | exact HB.out | apply below_alloc | apply pw_below_drewN | apply below_drew1 | refine below_set ?_ GE103.out) | exact HB.out)⟩⟩
              · replace c7 := Bool.eq_false_iff.mpr c7
                subst c7
                have H1 : (some false) = some r := by rw [if_neg (show ¬ (false = true) by decide)] at H; exact H
                clear H
                have H := H1
                clear H1
                obtain rfl := Option.some.inj H
                have p102 : 0 ≤ (x10_1 : Int) := of_decide_eq_true (by first | (with_reducible assumption) | assumption)
                have q102 : x10_1 < (l0.length : Int) := of_decide_eq_true (by first | (with_reducible assumption) | assumption)
                obtain ⟨ad102, e102, hx102_0, hx102_1, hx102_2⟩ := at_T54 HR0.out x10_1 p102 q102
                cases e102
                replace hx102_0 := (HB.out.cell (World.block_lt_of_cell? w _ hx102_0)).trans hx102_0
                replace hx102_1 := (HB.out.cell (World.block_lt_of_cell? w _ hx102_1)).trans hx102_1
                replace hx102_2 := (HB.out.cell (World.block_lt_of_cell? w _ hx102_2)).trans hx102_2
                replace p102 := eq_true p102
                replace q102 := eq_true q102
                go_wp2_with (first | ((with_reducible refine gate_dst (N := 4) rfl ?_); refine box_event ?hg (N := 4) ?hd (cs := #[.string (⟨#[]⟩ : ByteArray), .bool false, .bool false]) (t := 54) ?hr ?_; (case hd => rfl); (case hg => rfl); (case hr => first | (go_simp; done) | (go_simp; rfl)); intro gb103 hg w11 hbox hb; have n0_ := Aside0.mk (below_step (by repeat (first | (with_reducible first | exact HB.out | apply below_alloc | apply pw_below_drewN | apply below_drew1) | exact HB.out)) hb); have n1_ := Aside0.mk (hbox); have n2_ := Aside0.mk ((by rw [hg]; exact (below_size (by repeat (first | (with_reducible first | exact HB.out | apply below_alloc | apply pw_below_drewN | apply below_drew1) | exact HB.out))) : w.heap.size ≤ gb103)); have n3_ := Aside0.mk ((by rw [hg]; exact (below_size (by repeat (first | (with_reducible first | exact HB.out | apply below_alloc | apply pw_below_drewN | apply below_drew1) | exact HB.out))) : w.heap.size ≤ gb103)); clear HB; have HB := n0_; have BK103 := n1_; have GW103 := n2_; have GE103 := n3_; clear n0_ n1_ n2_ n3_; clear hb hbox hg; have hcz12_0 : w11.cell? ⟨gb103, 0, none⟩ = some (.string (⟨#[]⟩ : ByteArray)) := (blk_cell BK103.out 0).trans rfl; have hcz12_1 : w11.cell? ⟨gb103, 1, none⟩ = some (.bool false) := (blk_cell BK103.out 1).trans rfl; have hcz12_2 : w11.cell? ⟨gb103, 2, none⟩ = some (.bool false) := (blk_cell BK103.out 2).trans rfl; have hfz12_0 := blk_frozen BK103.out 0; have hfz12_1 := blk_frozen BK103.out 1; have hfz12_2 := blk_frozen BK103.out 2) | ((with_reducible refine gate_callee (f := 33) rfl ?_); refine goesL_ (some 15) rfl rfl Tryz.func33 (by kernel_rfl) rfl #[.agg #[.string ((rd_T54 l0 x10_1).f0), .bool ((rd_T54 l0 x10_1).f1), .bool ((rd_T54 l0 x10_1).f2)]] rfl (by (try simp only [List.map_toArray, List.map_cons, List.map_nil]); first | done | rfl | (simp only [List.length_drop, List.length_take]; rfl)) ?_; (with_reducible refine (laws_zzFits3.calls ((rd_T54 l0 x10_1).f0) ((rd_T54 l0 x10_1).f1) ((rd_T54 l0 x10_1).f2) false _ A6.out).mono ?_); rintro e w13 ⟨rfl, hb⟩; refine ⟨_, rfl, ?_⟩; have n0_ := Aside0.mk (blk_below (g := gb103) (o := .cells #[.string ((rd_T54 l0 x10_1).f0), .bool ((rd_T54 l0 x10_1).f1), .bool ((rd_T54 l0 x10_1).f2)] 54 (0, 0)) (by (with_reducible repeat (first | refine blk_drewN ?_ _ | refine blk_drew ?_ | refine blk_alloc ?_ _)); refine blk_put (cs := #[.string ((rd_T54 l0 x10_1).f0), .bool ((rd_T54 l0 x10_1).f1), .bool false]) ?_ 2 _ rfl; (with_reducible repeat (first | refine blk_drewN ?_ _ | refine blk_drew ?_ | refine blk_alloc ?_ _)); refine blk_put (cs := #[.string ((rd_T54 l0 x10_1).f0), .bool false, .bool false]) ?_ 1 _ rfl; (with_reducible repeat (first | refine blk_drewN ?_ _ | refine blk_drew ?_ | refine blk_alloc ?_ _)); refine blk_put (cs := #[.string (⟨#[]⟩ : ByteArray), .bool false, .bool false]) ?_ 0 _ rfl; (with_reducible repeat (first | refine blk_drewN ?_ _ | refine blk_drew ?_ | refine blk_alloc ?_ _)); exact BK103.out) hb); have n1_ := Aside0.mk (below_step (by repeat (first | (with_reducible first | exact HB.out | apply below_alloc | apply pw_below_drewN | apply below_drew1 | refine below_set ?_ GE103.out) | exact HB.out)) hb); clear BK103; clear HB; have BK103 := n0_; have HB := n1_; clear n0_ n1_; (try clear hb); (try clear hb2); (try clear hk); (try clear hi)))
                go_ret
                exact ⟨by first | rfl | (simp [errW_none, errW_some] <;> rfl) | (simp [*, errW_none, errW_some] <;> rfl), by repeat (first | (with_reducible first | exact HB.out | apply below_alloc | apply pw_below_drewN | apply below_drew1 | refine below_set ?_ GE103.out) | exact HB.out)⟩
            · rw [if_neg c5] at H
              exact absurd H (by simp)
          · rw [if_neg c4] at H
            exact absurd H (by simp)
        · rw [if_neg c3] at H
          have c3b0 : decide (x10_1 < (l0.length : Int)) = false := decide_eq_false c3
          clear c3
          obtain rfl := Option.some.inj H
          go_wp2
          go_ret
          exact ⟨by first | rfl | (simp [errW_none, errW_some] <;> rfl) | (simp [*, errW_none, errW_some] <;> rfl), by repeat (first | (with_reducible first | exact HB.out | apply below_alloc | apply pw_below_drewN | apply below_drew1) | exact HB.out)⟩
def laws_zzFits1.f (k : Nat) (a0_0 : ByteArray) (a0_1 : ByteArray) (l0_2 : List (S54)) : Option (Bool) := if (a0_0.size : Int) > 2147483647 then (some false) else (if (a0_1.size : Int) > 2147483647 then (some false) else ((laws_zzFits2.f k l0_2).bind fun t106 => (if t106 = true then (some true) else (some false))))
theorem laws_zzFits1.mono : ∀ a0 a1 a2 k, LeO (laws_zzFits1.f k a0 a1 a2) (laws_zzFits1.f (k + 1) a0 a1 a2) := by
  intro a0 a1 a2 k
  unfold laws_zzFits1.f
  repeat' first
      | (with_reducible exact laws_zzFits2.mono _ _)
      | (with_reducible exact LeO.refl _)
      | (with_reducible exact LeO.none _)
      | (with_reducible refine LeO.ite ?_ ?_)
      | (with_reducible refine LeO.bind ?_ (fun _ => ?_))
      | exact laws_zzFits2.mono _ _
      | exact LeO.none _
      | refine LeO.ite ?_ ?_
      | refine LeO.bind ?_ (fun _ => ?_)
set_option maxHeartbeats 8000000 in
set_option maxRecDepth 100000 in
theorem laws_zzFits1.calls (k : Nat) (a0_0 : ByteArray) (a0_1 : ByteArray) (A0_2 : Option Addr) (c0_2 : Nat) (l0_2 : List (S54)) (r : Bool) (w : World) (hr0_2 : Kd.C k54 w A0_2 l0_2.length l0_2) (hc0_2 : l0_2.length ≤ c0_2) (h : laws_zzFits1.f k a0_0 a0_1 l0_2 = some r) :
    Calls Tryz.prog 14 #[.agg #[.string a0_0, .string a0_1, .slice A0_2 l0_2.length c0_2]] w fun e w' => e = .returned (.bool r) ∧ Below w.heap.size w w' := by
  have hu41 := Tryz.underlying41
  have HR0_2 := Aside0.mk hr0_2
  have HC0_2 := Aside0.mk hc0_2
  clear hr0_2 hc0_2
  have HB := Aside0.mk (Below.refl w.heap.size w)
  have H : (if (a0_0.size : Int) > 2147483647 then (some false) else (if (a0_1.size : Int) > 2147483647 then (some false) else ((laws_zzFits2.f k l0_2).bind fun t106 => (if t106 = true then (some true) else (some false))))) = some r := h
  clear h
  by_cases c2 : (a0_0.size : Int) > 2147483647
  · rw [if_pos c2] at H
    have c2b0 : decide (2147483647 < (a0_0.size : Int)) = true := decide_eq_true c2
    have c2b1 : decide (2147483647 < a0_0.size) = true := decide_eq_true (by omega)
    clear c2
    obtain rfl := Option.some.inj H
    go_enter Tryz.func14, Tryz.ntmps14
    go_wp2_with (first | ((with_reducible refine gate_dst (N := 1) rfl ?_); refine box_event ?hg (N := 1) ?hd (cs := #[.string a0_0, .string a0_1, .slice A0_2 l0_2.length c0_2]) (t := 41) ?hr ?_; (case hd => rfl); (case hg => rfl); (case hr => first | (go_simp; done) | (go_simp; rfl)); intro gb105 hg w3 hbox hb; have n0_ := Aside0.mk (below_step (by repeat (first | (with_reducible first | exact HB.out | apply below_alloc | apply pw_below_drewN | apply below_drew1) | exact HB.out)) hb); have n1_ := Aside0.mk (hbox); have n2_ := Aside0.mk ((by rw [hg]; exact (below_size (by repeat (first | (with_reducible first | exact HB.out | apply below_alloc | apply pw_below_drewN | apply below_drew1) | exact HB.out))) : w.heap.size ≤ gb105)); have n3_ := Aside0.mk ((by rw [hg]; exact (below_size (by repeat (first | (with_reducible first | exact HB.out | apply below_alloc | apply pw_below_drewN | apply below_drew1) | exact HB.out))) : w.heap.size ≤ gb105)); clear HB; have HB := n0_; have BK105 := n1_; have GW105 := n2_; have GE105 := n3_; clear n0_ n1_ n2_ n3_; clear hb hbox hg; have hcz4_0 : w3.cell? ⟨gb105, 0, none⟩ = some (.string a0_0) := (blk_cell BK105.out 0).trans rfl; have hcz4_1 : w3.cell? ⟨gb105, 1, none⟩ = some (.string a0_1) := (blk_cell BK105.out 1).trans rfl; have hcz4_2 : w3.cell? ⟨gb105, 2, none⟩ = some (.slice A0_2 l0_2.length c0_2) := (blk_cell BK105.out 2).trans rfl; have hfz4_0 := blk_frozen BK105.out 0; have hfz4_1 := blk_frozen BK105.out 1; have hfz4_2 := blk_frozen BK105.out 2))
    go_ret
    exact ⟨by first | rfl | (simp [errW_none, errW_some] <;> rfl) | (simp [*, errW_none, errW_some] <;> rfl), by repeat (first | (with_reducible first | exact HB.out | apply below_alloc | apply pw_below_drewN | apply below_drew1 | refine below_set ?_ GE105.out) | exact HB.out)⟩
  · rw [if_neg c2] at H
    have c2b0 : decide (2147483647 < (a0_0.size : Int)) = false := decide_eq_false c2
    have c2b1 : decide (2147483647 < a0_0.size) = false := decide_eq_false (by omega)
    clear c2
    by_cases c5 : (a0_1.size : Int) > 2147483647
    · rw [if_pos c5] at H
      have c5b0 : decide (2147483647 < (a0_1.size : Int)) = true := decide_eq_true c5
      have c5b1 : decide (2147483647 < a0_1.size) = true := decide_eq_true (by omega)
      clear c5
      obtain rfl := Option.some.inj H
      go_enter Tryz.func14, Tryz.ntmps14
      go_wp2_with (first | ((with_reducible refine gate_dst (N := 1) rfl ?_); refine box_event ?hg (N := 1) ?hd (cs := #[.string a0_0, .string a0_1, .slice A0_2 l0_2.length c0_2]) (t := 41) ?hr ?_; (case hd => rfl); (case hg => rfl); (case hr => first | (go_simp; done) | (go_simp; rfl)); intro gb105 hg w6 hbox hb; have n0_ := Aside0.mk (below_step (by repeat (first | (with_reducible first | exact HB.out | apply below_alloc | apply pw_below_drewN | apply below_drew1) | exact HB.out)) hb); have n1_ := Aside0.mk (hbox); have n2_ := Aside0.mk ((by rw [hg]; exact (below_size (by repeat (first | (with_reducible first | exact HB.out | apply below_alloc | apply pw_below_drewN | apply below_drew1) | exact HB.out))) : w.heap.size ≤ gb105)); have n3_ := Aside0.mk ((by rw [hg]; exact (below_size (by repeat (first | (with_reducible first | exact HB.out | apply below_alloc | apply pw_below_drewN | apply below_drew1) | exact HB.out))) : w.heap.size ≤ gb105)); clear HB; have HB := n0_; have BK105 := n1_; have GW105 := n2_; have GE105 := n3_; clear n0_ n1_ n2_ n3_; clear hb hbox hg; have hcz7_0 : w6.cell? ⟨gb105, 0, none⟩ = some (.string a0_0) := (blk_cell BK105.out 0).trans rfl; have hcz7_1 : w6.cell? ⟨gb105, 1, none⟩ = some (.string a0_1) := (blk_cell BK105.out 1).trans rfl; have hcz7_2 : w6.cell? ⟨gb105, 2, none⟩ = some (.slice A0_2 l0_2.length c0_2) := (blk_cell BK105.out 2).trans rfl; have hfz7_0 := blk_frozen BK105.out 0; have hfz7_1 := blk_frozen BK105.out 1; have hfz7_2 := blk_frozen BK105.out 2))
      go_ret
      exact ⟨by first | rfl | (simp [errW_none, errW_some] <;> rfl) | (simp [*, errW_none, errW_some] <;> rfl), by repeat (first | (with_reducible first | exact HB.out | apply below_alloc | apply pw_below_drewN | apply below_drew1 | refine below_set ?_ GE105.out) | exact HB.out)⟩
    · rw [if_neg c5] at H
      have c5b0 : decide (2147483647 < (a0_1.size : Int)) = false := decide_eq_false c5
      have c5b1 : decide (2147483647 < a0_1.size) = false := decide_eq_false (by omega)
      clear c5
      replace H := Option.bind_eq_some_iff.mp H
      obtain ⟨t106, A80, H⟩ := H
      replace H : (if t106 = true then (some true) else (some false)) = some r := H
      have A8 := Aside0.mk A80
      clear A80
      by_cases c9 : t106 = true
      · subst c9
        have H1 : (some true) = some r := by rw [if_pos rfl] at H; exact H
        clear H
        have H := H1
        clear H1
        obtain rfl := Option.some.inj H
        go_enter Tryz.func14, Tryz.ntmps14
        go_wp2_with (first | ((with_reducible refine gate_dst (N := 1) rfl ?_); refine box_event ?hg (N := 1) ?hd (cs := #[.string a0_0, .string a0_1, .slice A0_2 l0_2.length c0_2]) (t := 41) ?hr ?_; (case hd => rfl); (case hg => rfl); (case hr => first | (go_simp; done) | (go_simp; rfl)); intro gb105 hg w10 hbox hb; have n0_ := Aside0.mk (below_step (by repeat (first | (with_reducible first | exact HB.out | apply below_alloc | apply pw_below_drewN | apply below_drew1) | exact HB.out)) hb); have n1_ := Aside0.mk (hbox); have n2_ := Aside0.mk ((by rw [hg]; exact (below_size (by repeat (first | (with_reducible first | exact HB.out | apply below_alloc | apply pw_below_drewN | apply below_drew1) | exact HB.out))) : w.heap.size ≤ gb105)); have n3_ := Aside0.mk ((by rw [hg]; exact (below_size (by repeat (first | (with_reducible first | exact HB.out | apply below_alloc | apply pw_below_drewN | apply below_drew1) | exact HB.out))) : w.heap.size ≤ gb105)); clear HB; have HB := n0_; have BK105 := n1_; have GW105 := n2_; have GE105 := n3_; clear n0_ n1_ n2_ n3_; clear hb hbox hg; have hcz11_0 : w10.cell? ⟨gb105, 0, none⟩ = some (.string a0_0) := (blk_cell BK105.out 0).trans rfl; have hcz11_1 : w10.cell? ⟨gb105, 1, none⟩ = some (.string a0_1) := (blk_cell BK105.out 1).trans rfl; have hcz11_2 : w10.cell? ⟨gb105, 2, none⟩ = some (.slice A0_2 l0_2.length c0_2) := (blk_cell BK105.out 2).trans rfl; have hfz11_0 := blk_frozen BK105.out 0; have hfz11_1 := blk_frozen BK105.out 1; have hfz11_2 := blk_frozen BK105.out 2) | ((with_reducible refine gate_callee (f := 22) rfl ?_); refine goesL_ (some 13) rfl rfl Tryz.func22 (by kernel_rfl) rfl #[.slice A0_2 l0_2.length c0_2] rfl (by (try simp only [List.map_toArray, List.map_cons, List.map_nil]); first | done | rfl | (simp only [List.length_drop, List.length_take]; rfl)) ?_; (with_reducible refine (laws_zzFits2.calls k _ _ l0_2 true _ ?side1 ?side2 A8.out).mono ?_); (case side1 => repeat (first | exact (Kd.C_below HR0_2.out HB.out) | (with_reducible refine Kd.C_alloc ?_ _) | (with_reducible refine Kd.C_drewN ?_ _) | (with_reducible refine Kd.C_drew ?_))); (case side2 => exact HC0_2.out); rintro e w12 ⟨rfl, hb⟩; refine ⟨_, rfl, ?_⟩; have n0_ := Aside0.mk (blk_below (g := gb105) (o := .cells #[.string a0_0, .string a0_1, .slice A0_2 l0_2.length c0_2] 41 (0, 0)) (by (with_reducible repeat (first | refine blk_drewN ?_ _ | refine blk_drew ?_ | refine blk_alloc ?_ _)); exact BK105.out) hb); have n1_ := Aside0.mk (below_step (by repeat (first | (with_reducible first | exact HB.out | apply below_alloc | apply pw_below_drewN | apply below_drew1 | refine below_set ?_ GE105.out) | exact HB.out)) hb); clear BK105; clear HB; have BK105 := n0_; have HB := n1_; clear n0_ n1_; (try clear hb); (try clear hb2); (try clear hk); (try clear hi)))
        go_ret
        exact ⟨by first | rfl | (simp [errW_none, errW_some] <;> rfl) | (simp [*, errW_none, errW_some] <;> rfl), by repeat (first | (with_reducible first | exact HB.out | apply below_alloc | apply pw_below_drewN | apply below_drew1 | refine below_set ?_ GE105.out) | exact HB.out)⟩
      · replace c9 := Bool.eq_false_iff.mpr c9
        subst c9
        have H1 : (some false) = some r := by rw [if_neg (show ¬ (false = true) by decide)] at H; exact H
        clear H
        have H := H1
        clear H1
        obtain rfl := Option.some.inj H
        go_enter Tryz.func14, Tryz.ntmps14
        go_wp2_with (first | ((with_reducible refine gate_dst (N := 1) rfl ?_); refine box_event ?hg (N := 1) ?hd (cs := #[.string a0_0, .string a0_1, .slice A0_2 l0_2.length c0_2]) (t := 41) ?hr ?_; (case hd => rfl); (case hg => rfl); (case hr => first | (go_simp; done) | (go_simp; rfl)); intro gb105 hg w13 hbox hb; have n0_ := Aside0.mk (below_step (by repeat (first | (with_reducible first | exact HB.out | apply below_alloc | apply pw_below_drewN | apply below_drew1) | exact HB.out)) hb); have n1_ := Aside0.mk (hbox); have n2_ := Aside0.mk ((by rw [hg]; exact (below_size (by repeat (first | (with_reducible first | exact HB.out | apply below_alloc | apply pw_below_drewN | apply below_drew1) | exact HB.out))) : w.heap.size ≤ gb105)); have n3_ := Aside0.mk ((by rw [hg]; exact (below_size (by repeat (first | (with_reducible first | exact HB.out | apply below_alloc | apply pw_below_drewN | apply below_drew1) | exact HB.out))) : w.heap.size ≤ gb105)); clear HB; have HB := n0_; have BK105 := n1_; have GW105 := n2_; have GE105 := n3_; clear n0_ n1_ n2_ n3_; clear hb hbox hg; have hcz14_0 : w13.cell? ⟨gb105, 0, none⟩ = some (.string a0_0) := (blk_cell BK105.out 0).trans rfl; have hcz14_1 : w13.cell? ⟨gb105, 1, none⟩ = some (.string a0_1) := (blk_cell BK105.out 1).trans rfl; have hcz14_2 : w13.cell? ⟨gb105, 2, none⟩ = some (.slice A0_2 l0_2.length c0_2) := (blk_cell BK105.out 2).trans rfl; have hfz14_0 := blk_frozen BK105.out 0; have hfz14_1 := blk_frozen BK105.out 1; have hfz14_2 := blk_frozen BK105.out 2) | ((with_reducible refine gate_callee (f := 22) rfl ?_); refine goesL_ (some 13) rfl rfl Tryz.func22 (by kernel_rfl) rfl #[.slice A0_2 l0_2.length c0_2] rfl (by (try simp only [List.map_toArray, List.map_cons, List.map_nil]); first | done | rfl | (simp only [List.length_drop, List.length_take]; rfl)) ?_; (with_reducible refine (laws_zzFits2.calls k _ _ l0_2 false _ ?side1 ?side2 A8.out).mono ?_); (case side1 => repeat (first | exact (Kd.C_below HR0_2.out HB.out) | (with_reducible refine Kd.C_alloc ?_ _) | (with_reducible refine Kd.C_drewN ?_ _) | (with_reducible refine Kd.C_drew ?_))); (case side2 => exact HC0_2.out); rintro e w15 ⟨rfl, hb⟩; refine ⟨_, rfl, ?_⟩; have n0_ := Aside0.mk (blk_below (g := gb105) (o := .cells #[.string a0_0, .string a0_1, .slice A0_2 l0_2.length c0_2] 41 (0, 0)) (by (with_reducible repeat (first | refine blk_drewN ?_ _ | refine blk_drew ?_ | refine blk_alloc ?_ _)); exact BK105.out) hb); have n1_ := Aside0.mk (below_step (by repeat (first | (with_reducible first | exact HB.out | apply below_alloc | apply pw_below_drewN | apply below_drew1 | refine below_set ?_ GE105.out) | exact HB.out)) hb); clear BK105; clear HB; have BK105 := n0_; have HB := n1_; clear n0_ n1_; (try clear hb); (try clear hb2); (try clear hk); (try clear hi)))
        go_ret
        exact ⟨by first | rfl | (simp [errW_none, errW_some] <;> rfl) | (simp [*, errW_none, errW_some] <;> rfl), by repeat (first | (with_reducible first | exact HB.out | apply below_alloc | apply pw_below_drewN | apply below_drew1 | refine below_set ?_ GE105.out) | exact HB.out)⟩
def laws_zzFits5.l0 : Nat → List (S41) → Int → Int → Option (Bool)
  | 0, _, _, _ => none
  | k + 1, x8, x9, x10 => if x10 < x9 then (if 0 ≤ x10 then (if x10 < (x8.length : Int) then ((laws_zzFits1.f k ((rd_T41 x8 x10).f0) ((rd_T41 x8 x10).f1) ((rd_T41 x8 x10).f2)).bind fun t109 => (if t109 = true then (laws_zzFits5.l0 k x8 x9 (wrap64 (x10 + 1))) else (some false))) else (none)) else (none)) else (some true)
def laws_zzFits5.f (k : Nat) (l0 : List (S41)) : Option (Bool) := if (l0.length : Int) > 2147483647 then (some false) else (laws_zzFits5.l0 k l0 (l0.length : Int) 0)
theorem laws_zzFits5.mono_l : ∀ k, (∀ y0 y1 y2, LeO (laws_zzFits5.l0 k y0 y1 y2) (laws_zzFits5.l0 (k + 1) y0 y1 y2))
  | 0 => fun _ _ _ r h => by simp [laws_zzFits5.l0] at h
  | k + 1 => by
    have ih0 := laws_zzFits5.mono_l k
    · intro y0 y1 y2
      unfold laws_zzFits5.l0
      repeat' first
      | (with_reducible exact ih0 _ _ _)
      | (with_reducible exact laws_zzFits1.mono _ _ _ _)
      | (with_reducible exact LeO.refl _)
      | (with_reducible exact LeO.none _)
      | (with_reducible refine LeO.ite ?_ ?_)
      | (with_reducible refine LeO.bind ?_ (fun _ => ?_))
      | exact ih0 _ _ _
      | exact laws_zzFits1.mono _ _ _ _
      | exact LeO.none _
      | refine LeO.ite ?_ ?_
      | refine LeO.bind ?_ (fun _ => ?_)
set_option maxHeartbeats 8000000 in
set_option maxRecDepth 100000 in
theorem laws_zzFits5.calls (k : Nat) (A0 : Option Addr) (c0 : Nat) (l0 : List (S41)) (r : Bool) (w : World) (hr0 : Kd.C k41 w A0 l0.length l0) (hc0 : l0.length ≤ c0) (h : laws_zzFits5.f k l0 = some r) :
    Calls Tryz.prog 4 #[.slice A0 l0.length c0] w fun e w' => e = .returned (.bool r) ∧ Below w.heap.size w w' := by
  have hu41 := Tryz.underlying41
  have HR0 := Aside0.mk hr0
  have HC0 := Aside0.mk hc0
  clear hr0 hc0
  have HB := Aside0.mk (Below.refl w.heap.size w)
  have H : (if (l0.length : Int) > 2147483647 then (some false) else (laws_zzFits5.l0 k l0 (l0.length : Int) 0)) = some r := h
  clear h
  by_cases c2 : (l0.length : Int) > 2147483647
  · rw [if_pos c2] at H
    have c2b0 : decide (2147483647 < (l0.length : Int)) = true := decide_eq_true c2
    have c2b1 : decide (2147483647 < l0.length) = true := decide_eq_true (by omega)
    clear c2
    obtain rfl := Option.some.inj H
    go_enter Tryz.func4, Tryz.ntmps4
    go_wp2
    go_ret
    exact ⟨by first | rfl | (simp [errW_none, errW_some] <;> rfl) | (simp [*, errW_none, errW_some] <;> rfl), by repeat (first | (with_reducible first | exact HB.out | apply below_alloc | apply pw_below_drewN | apply below_drew1) | exact HB.out)⟩
  · rw [if_neg c2] at H
    have c2b0 : decide (2147483647 < (l0.length : Int)) = false := decide_eq_false c2
    have c2b1 : decide (2147483647 < l0.length) = false := decide_eq_false (by omega)
    clear c2
    have H' := Aside0.mk H
    clear H
    go_enter Tryz.func4, Tryz.ntmps4
    go_wp2
    go_loopg [10] k (fun kq v10 w' => ∃ (x10_1 : Int), v10 = .int .i64 x10_1 ∧ Aside0 (laws_zzFits5.l0 kq l0 (l0.length : Int) x10_1 = some r) ∧ Aside0 (kq ≤ k) ∧ Aside0 (Below w.heap.size w w'))
    case atStart => exact ⟨(0), (by first | rfl | (simp; done) | (simp [*]; done)), H', ⟨Nat.le_refl _⟩, ⟨by repeat (first | (with_reducible first | exact HB.out | apply below_alloc | apply pw_below_drewN | apply below_drew1) | exact HB.out)⟩⟩
    case round =>
      clear H'
      try clear c2
      try clear c2b0
      try clear c2b1
      try clear p2
      obtain ⟨x10_1, rfl, HA, HK1, HB⟩ := hrel
      cases gk with
      | zero => exact absurd HA.out (by simp [laws_zzFits5.l0])
      | succ k1 =>
        have H := HA.out
        clear HA
        simp only [laws_zzFits5.l0] at H
        by_cases c3 : x10_1 < (l0.length : Int)
        · rw [if_pos c3] at H
          have c3b0 : decide (x10_1 < (l0.length : Int)) = true := decide_eq_true c3
          clear c3
          by_cases c4 : 0 ≤ x10_1
          · rw [if_pos c4] at H
            have c4b0 : decide (0 ≤ x10_1) = true := decide_eq_true c4
            clear c4
            by_cases c5 : x10_1 < (l0.length : Int)
            · rw [if_pos c5] at H
              have c5b0 : decide (x10_1 < (l0.length : Int)) = true := decide_eq_true c5
              clear c5
              replace H := Option.bind_eq_some_iff.mp H
              obtain ⟨t109, A60, H⟩ := H
              replace H : (if t109 = true then (laws_zzFits5.l0 k1 l0 (l0.length : Int) (wrap64 (x10_1 + 1))) else (some false)) = some r := H
              have A6 := Aside0.mk A60
              clear A60
              by_cases c7 : t109 = true
              · subst c7
                have H1 : (laws_zzFits5.l0 k1 l0 (l0.length : Int) (wrap64 (x10_1 + 1))) = some r := by rw [if_pos rfl] at H; exact H
                clear H
                have H := H1
                clear H1
                have H' := Aside0.mk H
                clear H
                have p107 : 0 ≤ (x10_1 : Int) := of_decide_eq_true (by first | (with_reducible assumption) | assumption)
                have q107 : x10_1 < (l0.length : Int) := of_decide_eq_true (by first | (with_reducible assumption) | assumption)
                obtain ⟨ad107, A107_2, c107_2, e107, hx107_0, hx107_1, hx107_2, hl107_2, hi107_2⟩ := at_T41 HR0.out x10_1 p107 q107
                cases e107
                replace hx107_0 := (HB.out.cell (World.block_lt_of_cell? w _ hx107_0)).trans hx107_0
                replace hx107_1 := (HB.out.cell (World.block_lt_of_cell? w _ hx107_1)).trans hx107_1
                replace hx107_2 := (HB.out.cell (World.block_lt_of_cell? w _ hx107_2)).trans hx107_2
                have HR107_2 := Aside0.mk hi107_2
                have HC107_2 := Aside0.mk hl107_2
                clear hi107_2 hl107_2
                replace p107 := eq_true p107
                replace q107 := eq_true q107
                go_wp2_with (first | ((with_reducible refine gate_dst (N := 4) rfl ?_); refine box_event ?hg (N := 4) ?hd (cs := #[.string (⟨#[]⟩ : ByteArray), .string (⟨#[]⟩ : ByteArray), .slice none 0 0]) (t := 41) ?hr ?_; (case hd => rfl); (case hg => rfl); (case hr => first | (go_simp; done) | (go_simp; rfl)); intro gb108 hg w8 hbox hb; have n0_ := Aside0.mk (below_step (by repeat (first | (with_reducible first | exact HB.out | apply below_alloc | apply pw_below_drewN | apply below_drew1) | exact HB.out)) hb); have n1_ := Aside0.mk (hbox); have n2_ := Aside0.mk ((by rw [hg]; exact (below_size (by repeat (first | (with_reducible first | exact HB.out | apply below_alloc | apply pw_below_drewN | apply below_drew1) | exact HB.out))) : w.heap.size ≤ gb108)); have n3_ := Aside0.mk ((by rw [hg]; exact (below_size (by repeat (first | (with_reducible first | exact HB.out | apply below_alloc | apply pw_below_drewN | apply below_drew1) | exact HB.out))) : w.heap.size ≤ gb108)); clear HB; have HB := n0_; have BK108 := n1_; have GW108 := n2_; have GE108 := n3_; clear n0_ n1_ n2_ n3_; clear hb hbox hg; have hcz9_0 : w8.cell? ⟨gb108, 0, none⟩ = some (.string (⟨#[]⟩ : ByteArray)) := (blk_cell BK108.out 0).trans rfl; have hcz9_1 : w8.cell? ⟨gb108, 1, none⟩ = some (.string (⟨#[]⟩ : ByteArray)) := (blk_cell BK108.out 1).trans rfl; have hcz9_2 : w8.cell? ⟨gb108, 2, none⟩ = some (.slice none 0 0) := (blk_cell BK108.out 2).trans rfl; have hfz9_0 := blk_frozen BK108.out 0; have hfz9_1 := blk_frozen BK108.out 1; have hfz9_2 := blk_frozen BK108.out 2) | ((with_reducible refine gate_callee (f := 14) rfl ?_); refine goesL_ (some 15) rfl rfl Tryz.func14 (by kernel_rfl) rfl #[.agg #[.string ((rd_T41 l0 x10_1).f0), .string ((rd_T41 l0 x10_1).f1), .slice A107_2 ((rd_T41 l0 x10_1).f2).length c107_2]] rfl (by (try simp only [List.map_toArray, List.map_cons, List.map_nil]); first | done | rfl | (simp only [List.length_drop, List.length_take]; rfl)) ?_; (with_reducible refine (laws_zzFits1.calls k1 ((rd_T41 l0 x10_1).f0) ((rd_T41 l0 x10_1).f1) _ _ ((rd_T41 l0 x10_1).f2) true _ ?side1 ?side2 A6.out).mono ?_); (case side1 => exact Kd.C_below HR107_2.out (by repeat (first | (with_reducible first | exact HB.out | apply below_alloc | apply pw_below_drewN | apply below_drew1 | refine below_set ?_ GE108.out) | exact HB.out))); (case side2 => exact HC107_2.out); rintro e w10 ⟨rfl, hb⟩; refine ⟨_, rfl, ?_⟩; have n0_ := Aside0.mk (blk_below (g := gb108) (o := .cells #[.string ((rd_T41 l0 x10_1).f0), .string ((rd_T41 l0 x10_1).f1), .slice A107_2 ((rd_T41 l0 x10_1).f2).length c107_2] 41 (0, 0)) (by (with_reducible repeat (first | refine blk_drewN ?_ _ | refine blk_drew ?_ | refine blk_alloc ?_ _)); refine blk_put (cs := #[.string ((rd_T41 l0 x10_1).f0), .string ((rd_T41 l0 x10_1).f1), .slice none 0 0]) ?_ 2 _ rfl; (with_reducible repeat (first | refine blk_drewN ?_ _ | refine blk_drew ?_ | refine blk_alloc ?_ _)); refine blk_put (cs := #[.string ((rd_T41 l0 x10_1).f0), .string (⟨#[]⟩ : ByteArray), .slice none 0 0]) ?_ 1 _ rfl; (with_reducible repeat (first | refine blk_drewN ?_ _ | refine blk_drew ?_ | refine blk_alloc ?_ _)); refine blk_put (cs := #[.string (⟨#[]⟩ : ByteArray), .string (⟨#[]⟩ : ByteArray), .slice none 0 0]) ?_ 0 _ rfl; (with_reducible repeat (first | refine blk_drewN ?_ _ | refine blk_drew ?_ | refine blk_alloc ?_ _)); exact BK108.out) hb); have n1_ := Aside0.mk (below_step (by repeat (first | (with_reducible first | exact HB.out | apply below_alloc | apply pw_below_drewN | apply below_drew1 | refine below_set ?_ GE108.out) | exact HB.out)) hb); clear BK108; clear HB; have BK108 := n0_; have HB := n1_; clear n0_ n1_; (try clear hb); (try clear hb2); (try clear hk); (try clear hi)))
                go_roundg k1
                case measure => have := HK1.out; omega
                case rel => exact ⟨(wrap64 (x10_1 + 1)), (by first | rfl | (simp; done) | (simp [*]; done)), H', ⟨by have := HK1.out; omega⟩, ⟨by repeat (first | (with_reducible first | exact HB.out | apply below_alloc | apply pw_below_drewN | apply below_drew1 | refine below_set ?_ GE108.out) | exact HB.out)⟩⟩
              · replace c7 := Bool.eq_false_iff.mpr c7
                subst c7
                have H1 : (some false) = some r := by rw [if_neg (show ¬ (false = true) by decide)] at H; exact H
                clear H
                have H := H1
                clear H1
                obtain rfl := Option.some.inj H
                have p107 : 0 ≤ (x10_1 : Int) := of_decide_eq_true (by first | (with_reducible assumption) | assumption)
                have q107 : x10_1 < (l0.length : Int) := of_decide_eq_true (by first | (with_reducible assumption) | assumption)
                obtain ⟨ad107, A107_2, c107_2, e107, hx107_0, hx107_1, hx107_2, hl107_2, hi107_2⟩ := at_T41 HR0.out x10_1 p107 q107
                cases e107
                replace hx107_0 := (HB.out.cell (World.block_lt_of_cell? w _ hx107_0)).trans hx107_0
                replace hx107_1 := (HB.out.cell (World.block_lt_of_cell? w _ hx107_1)).trans hx107_1
                replace hx107_2 := (HB.out.cell (World.block_lt_of_cell? w _ hx107_2)).trans hx107_2
                have HR107_2 := Aside0.mk hi107_2
                have HC107_2 := Aside0.mk hl107_2
                clear hi107_2 hl107_2
                replace p107 := eq_true p107
                replace q107 := eq_true q107
                go_wp2_with (first | ((with_reducible refine gate_dst (N := 4) rfl ?_); refine box_event ?hg (N := 4) ?hd (cs := #[.string (⟨#[]⟩ : ByteArray), .string (⟨#[]⟩ : ByteArray), .slice none 0 0]) (t := 41) ?hr ?_; (case hd => rfl); (case hg => rfl); (case hr => first | (go_simp; done) | (go_simp; rfl)); intro gb108 hg w11 hbox hb; have n0_ := Aside0.mk (below_step (by repeat (first | (with_reducible first | exact HB.out | apply below_alloc | apply pw_below_drewN | apply below_drew1) | exact HB.out)) hb); have n1_ := Aside0.mk (hbox); have n2_ := Aside0.mk ((by rw [hg]; exact (below_size (by repeat (first | (with_reducible first | exact HB.out | apply below_alloc | apply pw_below_drewN | apply below_drew1) | exact HB.out))) : w.heap.size ≤ gb108)); have n3_ := Aside0.mk ((by rw [hg]; exact (below_size (by repeat (first | (with_reducible first | exact HB.out | apply below_alloc | apply pw_below_drewN | apply below_drew1) | exact HB.out))) : w.heap.size ≤ gb108)); clear HB; have HB := n0_; have BK108 := n1_; have GW108 := n2_; have GE108 := n3_; clear n0_ n1_ n2_ n3_; clear hb hbox hg; have hcz12_0 : w11.cell? ⟨gb108, 0, none⟩ = some (.string (⟨#[]⟩ : ByteArray)) := (blk_cell BK108.out 0).trans rfl; have hcz12_1 : w11.cell? ⟨gb108, 1, none⟩ = some (.string (⟨#[]⟩ : ByteArray)) := (blk_cell BK108.out 1).trans rfl; have hcz12_2 : w11.cell? ⟨gb108, 2, none⟩ = some (.slice none 0 0) := (blk_cell BK108.out 2).trans rfl; have hfz12_0 := blk_frozen BK108.out 0; have hfz12_1 := blk_frozen BK108.out 1; have hfz12_2 := blk_frozen BK108.out 2) | ((with_reducible refine gate_callee (f := 14) rfl ?_); refine goesL_ (some 15) rfl rfl Tryz.func14 (by kernel_rfl) rfl #[.agg #[.string ((rd_T41 l0 x10_1).f0), .string ((rd_T41 l0 x10_1).f1), .slice A107_2 ((rd_T41 l0 x10_1).f2).length c107_2]] rfl (by (try simp only [List.map_toArray, List.map_cons, List.map_nil]); first | done | rfl | (simp only [List.length_drop, List.length_take]; rfl)) ?_; (with_reducible refine (laws_zzFits1.calls k1 ((rd_T41 l0 x10_1).f0) ((rd_T41 l0 x10_1).f1) _ _ ((rd_T41 l0 x10_1).f2) false _ ?side1 ?side2 A6.out).mono ?_); (case side1 => exact Kd.C_below HR107_2.out (by repeat (first | (with_reducible first | exact HB.out | apply below_alloc | apply pw_below_drewN | apply below_drew1 | refine below_set ?_ GE108.out) | exact HB.out))); (case side2 => exact HC107_2.out); rintro e w13 ⟨rfl, hb⟩; refine ⟨_, rfl, ?_⟩; have n0_ := Aside0.mk (blk_below (g := gb108) (o := .cells #[.string ((rd_T41 l0 x10_1).f0), .string ((rd_T41 l0 x10_1).f1), .slice A107_2 ((rd_T41 l0 x10_1).f2).length c107_2] 41 (0, 0)) (by (with_reducible repeat (first | refine blk_drewN ?_ _ | refine blk_drew ?_ | refine blk_alloc ?_ _)); refine blk_put (cs := #[.string ((rd_T41 l0 x10_1).f0), .string ((rd_T41 l0 x10_1).f1), .slice none 0 0]) ?_ 2 _ rfl; (with_reducible repeat (first | refine blk_drewN ?_ _ | refine blk_drew ?_ | refine blk_alloc ?_ _)); refine blk_put (cs := #[.string ((rd_T41 l0 x10_1).f0), .string (⟨#[]⟩ : ByteArray), .slice none 0 0]) ?_ 1 _ rfl; (with_reducible repeat (first | refine blk_drewN ?_ _ | refine blk_drew ?_ | refine blk_alloc ?_ _)); refine blk_put (cs := #[.string (⟨#[]⟩ : ByteArray), .string (⟨#[]⟩ : ByteArray), .slice none 0 0]) ?_ 0 _ rfl; (with_reducible repeat (first | refine blk_drewN ?_ _ | refine blk_drew ?_ | refine blk_alloc ?_ _)); exact BK108.out) hb); have n1_ := Aside0.mk (below_step (by repeat (first | (with_reducible first | exact HB.out | apply below_alloc | apply pw_below_drewN | apply below_drew1 | refine below_set ?_ GE108.out) | exact HB.out)) hb); clear BK108; clear HB; have BK108 := n0_; have HB := n1_; clear n0_ n1_; (try clear hb); (try clear hb2); (try clear hk); (try clear hi)))
                go_ret
                exact ⟨by first | rfl | (simp [errW_none, errW_some] <;> rfl) | (simp [*, errW_none, errW_some] <;> rfl), by repeat (first | (with_reducible first | exact HB.out | apply below_alloc | apply pw_below_drewN | apply below_drew1 | refine below_set ?_ GE108.out) | exact HB.out)⟩
            · rw [if_neg c5] at H
              exact absurd H (by simp)
          · rw [if_neg c4] at H
            exact absurd H (by simp)
        · rw [if_neg c3] at H
          have c3b0 : decide (x10_1 < (l0.length : Int)) = false := decide_eq_false c3
          clear c3
          obtain rfl := Option.some.inj H
          go_wp2
          go_ret
          exact ⟨by first | rfl | (simp [errW_none, errW_some] <;> rfl) | (simp [*, errW_none, errW_some] <;> rfl), by repeat (first | (with_reducible first | exact HB.out | apply below_alloc | apply pw_below_drewN | apply below_drew1) | exact HB.out)⟩
def laws_conv.l0 : Nat → List (S54) → Int → Int → ByteArray → ByteArray → List (S52) → Option (ByteArray × ByteArray × (List (S52)))
  | 0, _, _, _, _, _, _ => none
  | k + 1, x12, x13, x14, x113000, x113001, x113002 => if x14 < x13 then (if 0 ≤ x14 then (if x14 < (x12.length : Int) then (if x113002.length < 5864062014805 then (laws_conv.l0 k x12 x13 (wrap64 (x14 + 1)) x113000 x113001 (x113002 ++ [(⟨(rd_T54 x12 x14).f0, (rd_T54 x12 x14).f1, (rd_T54 x12 x14).f2⟩ : S52)])) else (none)) else (none)) else (none)) else (some (x113000, x113001, x113002))
def laws_conv.f (k : Nat) (a0_0 : ByteArray) (a0_1 : ByteArray) (l0_2 : List (S54)) : Option (ByteArray × ByteArray × (List (S52))) := laws_conv.l0 k l0_2 (l0_2.length : Int) 0 a0_0 a0_1 ([] : List (S52))
theorem laws_conv.mono_l : ∀ k, (∀ y0 y1 y2 y3 y4 y5, LeO (laws_conv.l0 k y0 y1 y2 y3 y4 y5) (laws_conv.l0 (k + 1) y0 y1 y2 y3 y4 y5))
  | 0 => fun _ _ _ _ _ _ r h => by simp [laws_conv.l0] at h
  | k + 1 => by
    have ih0 := laws_conv.mono_l k
    · intro y0 y1 y2 y3 y4 y5
      unfold laws_conv.l0
      repeat' first
      | (with_reducible exact ih0 _ _ _ _ _ _)
      | (with_reducible exact LeO.refl _)
      | (with_reducible exact LeO.none _)
      | (with_reducible refine LeO.ite ?_ ?_)
      | (with_reducible refine LeO.bind ?_ (fun _ => ?_))
      | exact ih0 _ _ _ _ _ _
      | exact LeO.none _
      | refine LeO.ite ?_ ?_
      | refine LeO.bind ?_ (fun _ => ?_)
theorem laws_conv.mono : ∀ a0 a1 a2 k, LeO (laws_conv.f k a0 a1 a2) (laws_conv.f (k + 1) a0 a1 a2) := by
  intro a0 a1 a2 k
  have ih0 := laws_conv.mono_l k
  unfold laws_conv.f
  repeat' first
      | (with_reducible exact ih0 _ _ _ _ _ _)
      | (with_reducible exact LeO.refl _)
      | (with_reducible exact LeO.none _)
      | (with_reducible refine LeO.ite ?_ ?_)
      | (with_reducible refine LeO.bind ?_ (fun _ => ?_))
      | exact ih0 _ _ _ _ _ _
      | exact LeO.none _
      | refine LeO.ite ?_ ?_
      | refine LeO.bind ?_ (fun _ => ?_)
set_option maxHeartbeats 8000000 in
set_option maxRecDepth 100000 in
theorem laws_conv.calls (k : Nat) (a0_0 : ByteArray) (a0_1 : ByteArray) (A0_2 : Option Addr) (c0_2 : Nat) (l0_2 : List (S54)) (r1 : ByteArray) (r2 : ByteArray) (r3 : List (S52)) (w : World) (hr0_2 : Kd.C k54 w A0_2 l0_2.length l0_2) (hc0_2 : l0_2.length ≤ c0_2) (h : laws_conv.f k a0_0 a0_1 l0_2 = some (r1, r2, r3)) :
    Calls Tryz.prog 15 #[.agg #[.string a0_0, .string a0_1, .slice A0_2 l0_2.length c0_2]] w fun e w' => ∃ v2_ : Value, e = .returned (.agg #[.string r1, .string r2, v2_]) ∧ Kd.R k52 52 w' w.heap.size (fun _ => True) v2_ r3 ∧ Below w.heap.size w w' := by
  have hu41 := Tryz.underlying41
  have hu35 := Tryz.underlying35
  have hu54 := Tryz.underlying54
  have hu52 := Tryz.underlying52
  have HR0_2 := Aside0.mk hr0_2
  have HC0_2 := Aside0.mk hc0_2
  clear hr0_2 hc0_2
  have HB := Aside0.mk (Below.refl w.heap.size w)
  have H : (laws_conv.l0 k l0_2 (l0_2.length : Int) 0 a0_0 a0_1 ([] : List (S52))) = some (r1, r2, r3) := h
  clear h
  have H' := Aside0.mk H
  clear H
  go_enter Tryz.func15, Tryz.ntmps15
  go_wp2_with (first | ((with_reducible refine gate_dst (N := 1) rfl ?_); refine box_event ?hg (N := 1) ?hd (cs := #[.string a0_0, .string a0_1, .slice A0_2 l0_2.length c0_2]) (t := 41) ?hr ?_; (case hd => rfl); (case hg => rfl); (case hr => first | (go_simp; done) | (go_simp; rfl)); intro gb110 hg w2 hbox hb; have n0_ := Aside0.mk (below_step (by repeat (first | (with_reducible first | exact HB.out | apply below_alloc | apply pw_below_drewN | apply below_drew1) | exact HB.out)) hb); have n1_ := Aside0.mk (hbox); have n2_ := Aside0.mk ((by rw [hg]; exact (below_size (by repeat (first | (with_reducible first | exact HB.out | apply below_alloc | apply pw_below_drewN | apply below_drew1) | exact HB.out))) : w.heap.size ≤ gb110)); have n3_ := Aside0.mk ((by rw [hg]; exact (below_size (by repeat (first | (with_reducible first | exact HB.out | apply below_alloc | apply pw_below_drewN | apply below_drew1) | exact HB.out))) : w.heap.size ≤ gb110)); clear HB; have HB := n0_; have BK110 := n1_; have GW110 := n2_; have GE110 := n3_; clear n0_ n1_ n2_ n3_; clear hb hbox hg) | ((with_reducible refine gate_dst (N := 2) rfl ?_); refine box_event ?hg (N := 2) ?hd (cs := #[.string (⟨#[]⟩ : ByteArray), .string (⟨#[]⟩ : ByteArray), .slice none 0 0]) (t := 35) ?hr ?_; (case hd => rfl); (case hg => rfl); (case hr => first | (go_simp; done) | (go_simp; rfl)); intro gb111 hg w3 hbox hb; have n0_ := Aside0.mk (blk_below (g := gb110) (o := .cells #[.string a0_0, .string a0_1, .slice A0_2 l0_2.length c0_2] 41 (0, 0)) (by (with_reducible repeat (first | refine blk_drewN ?_ _ | refine blk_drew ?_ | refine blk_alloc ?_ _)); exact BK110.out) hb); have n1_ := Aside0.mk (below_step (by repeat (first | (with_reducible first | exact HB.out | apply below_alloc | apply pw_below_drewN | apply below_drew1 | refine below_set ?_ GE110.out) | exact HB.out)) hb); have n2_ := Aside0.mk (hbox); have n3_ := Aside0.mk ((by rw [hg]; exact (below_size (by repeat (first | (with_reducible first | exact HB.out | apply below_alloc | apply pw_below_drewN | apply below_drew1 | refine below_set ?_ GE110.out) | exact HB.out))) : w.heap.size ≤ gb111)); have n4_ := Aside0.mk ((by rw [hg]; exact (below_size (by repeat (first | (with_reducible first | exact HB.out | apply below_alloc | apply pw_below_drewN | apply below_drew1 | refine below_set ?_ GE110.out) | exact HB.out))) : w.heap.size ≤ gb111)); have n5_ := Aside0.mk ((by rw [hg]; exact Nat.ne_of_lt (blk_lt (g := gb110) (o := .cells #[.string a0_0, .string a0_1, .slice A0_2 l0_2.length c0_2] 41 (0, 0)) (by (with_reducible repeat (first | refine blk_drewN ?_ _ | refine blk_drew ?_ | refine blk_alloc ?_ _)); exact BK110.out)) : gb110 ≠ gb111)); have n6_ := Aside0.mk ((by rw [hg]; exact Nat.ne_of_gt (blk_lt (g := gb110) (o := .cells #[.string a0_0, .string a0_1, .slice A0_2 l0_2.length c0_2] 41 (0, 0)) (by (with_reducible repeat (first | refine blk_drewN ?_ _ | refine blk_drew ?_ | refine blk_alloc ?_ _)); exact BK110.out)) : gb111 ≠ gb110)); clear BK110; clear HB; have BK110 := n0_; have HB := n1_; have BK111 := n2_; have GW111 := n3_; have GE111 := n4_; have NB110_111 := n5_; have NB111_110 := n6_; clear n0_ n1_ n2_ n3_ n4_ n5_ n6_; clear hb hbox hg; have hnb4 := NB110_111.out; have hnc4 := NB111_110.out; have hcz5_0 : w3.cell? ⟨gb110, 0, none⟩ = some (.string a0_0) := (blk_cell BK110.out 0).trans rfl; have hcz5_1 : w3.cell? ⟨gb110, 1, none⟩ = some (.string a0_1) := (blk_cell BK110.out 1).trans rfl; have hcz5_2 : w3.cell? ⟨gb110, 2, none⟩ = some (.slice A0_2 l0_2.length c0_2) := (blk_cell BK110.out 2).trans rfl; have hfz5_0 := blk_frozen BK110.out 0; have hfz5_1 := blk_frozen BK110.out 1; have hfz5_2 := blk_frozen BK110.out 2) | ((with_reducible refine gate_dst (N := 3) rfl ?_); refine box_event ?hg (N := 3) ?hd (cs := #[.string (⟨#[]⟩ : ByteArray), .string (⟨#[]⟩ : ByteArray), .slice none 0 0]) (t := 35) ?hr ?_; (case hd => rfl); (case hg => rfl); (case hr => first | (go_simp; done) | (go_simp; rfl)); intro gb112 hg w6 hbox hb; have n0_ := Aside0.mk (blk_below (g := gb110) (o := .cells #[.string a0_0, .string a0_1, .slice A0_2 l0_2.length c0_2] 41 (0, 0)) (by (with_reducible repeat (first | refine blk_drewN ?_ _ | refine blk_drew ?_ | refine blk_alloc ?_ _)); exact BK110.out) hb); have n1_ := Aside0.mk (blk_below (g := gb111) (o := .cells #[.string (⟨#[]⟩ : ByteArray), .string (⟨#[]⟩ : ByteArray), .slice none 0 0] 35 (0, 0)) (by (with_reducible repeat (first | refine blk_drewN ?_ _ | refine blk_drew ?_ | refine blk_alloc ?_ _)); exact BK111.out) hb); have n2_ := Aside0.mk (below_step (by repeat (first | (with_reducible first | exact HB.out | apply below_alloc | apply pw_below_drewN | apply below_drew1 | refine below_set ?_ GE110.out | refine below_set ?_ GE111.out) | exact HB.out)) hb); have n3_ := Aside0.mk (hbox); have n4_ := Aside0.mk ((by rw [hg]; exact (below_size (by repeat (first | (with_reducible first | exact HB.out | apply below_alloc | apply pw_below_drewN | apply below_drew1 | refine below_set ?_ GE110.out | refine below_set ?_ GE111.out) | exact HB.out))) : w.heap.size ≤ gb112)); have n5_ := Aside0.mk ((by rw [hg]; exact (below_size (by repeat (first | (with_reducible first | exact HB.out | apply below_alloc | apply pw_below_drewN | apply below_drew1 | refine below_set ?_ GE110.out | refine below_set ?_ GE111.out) | exact HB.out))) : w.heap.size ≤ gb112)); have n6_ := Aside0.mk ((by rw [hg]; exact Nat.ne_of_lt (blk_lt (g := gb110) (o := .cells #[.string a0_0, .string a0_1, .slice A0_2 l0_2.length c0_2] 41 (0, 0)) (by (with_reducible repeat (first | refine blk_drewN ?_ _ | refine blk_drew ?_ | refine blk_alloc ?_ _)); exact BK110.out)) : gb110 ≠ gb112)); have n7_ := Aside0.mk ((by rw [hg]; exact Nat.ne_of_gt (blk_lt (g := gb110) (o := .cells #[.string a0_0, .string a0_1, .slice A0_2 l0_2.length c0_2] 41 (0, 0)) (by (with_reducible repeat (first | refine blk_drewN ?_ _ | refine blk_drew ?_ | refine blk_alloc ?_ _)); exact BK110.out)) : gb112 ≠ gb110)); have n8_ := Aside0.mk ((by rw [hg]; exact Nat.ne_of_lt (blk_lt (g := gb111) (o := .cells #[.string (⟨#[]⟩ : ByteArray), .string (⟨#[]⟩ : ByteArray), .slice none 0 0] 35 (0, 0)) (by (with_reducible repeat (first | refine blk_drewN ?_ _ | refine blk_drew ?_ | refine blk_alloc ?_ _)); exact BK111.out)) : gb111 ≠ gb112)); have n9_ := Aside0.mk ((by rw [hg]; exact Nat.ne_of_gt (blk_lt (g := gb111) (o := .cells #[.string (⟨#[]⟩ : ByteArray), .string (⟨#[]⟩ : ByteArray), .slice none 0 0] 35 (0, 0)) (by (with_reducible repeat (first | refine blk_drewN ?_ _ | refine blk_drew ?_ | refine blk_alloc ?_ _)); exact BK111.out)) : gb112 ≠ gb111)); clear BK110; clear BK111; clear HB; have BK110 := n0_; have BK111 := n1_; have HB := n2_; have BK112 := n3_; have GW112 := n4_; have GE112 := n5_; have NB110_112 := n6_; have NB112_110 := n7_; have NB111_112 := n8_; have NB112_111 := n9_; clear n0_ n1_ n2_ n3_ n4_ n5_ n6_ n7_ n8_ n9_; clear hb hbox hg; have hnb7 := NB112_110.out; have hnc7 := NB110_112.out; have hnb8 := NB112_111.out; have hnc8 := NB111_112.out; have hcz9_0 : w6.cell? ⟨gb112, 0, none⟩ = some (.string (⟨#[]⟩ : ByteArray)) := (blk_cell BK112.out 0).trans rfl; have hcz9_1 : w6.cell? ⟨gb112, 1, none⟩ = some (.string (⟨#[]⟩ : ByteArray)) := (blk_cell BK112.out 1).trans rfl; have hcz9_2 : w6.cell? ⟨gb112, 2, none⟩ = some (.slice none 0 0) := (blk_cell BK112.out 2).trans rfl; have hfz9_0 := blk_frozen BK112.out 0; have hfz9_1 := blk_frozen BK112.out 1; have hfz9_2 := blk_frozen BK112.out 2; have hcz10_0 : w6.cell? ⟨gb110, 0, none⟩ = some (.string a0_0) := (blk_cell BK110.out 0).trans rfl; have hcz10_1 : w6.cell? ⟨gb110, 1, none⟩ = some (.string a0_1) := (blk_cell BK110.out 1).trans rfl; have hcz10_2 : w6.cell? ⟨gb110, 2, none⟩ = some (.slice A0_2 l0_2.length c0_2) := (blk_cell BK110.out 2).trans rfl; have hfz10_0 := blk_frozen BK110.out 0; have hfz10_1 := blk_frozen BK110.out 1; have hfz10_2 := blk_frozen BK110.out 2))
  go_loopg [14] k (fun kq v14 w' => ∃ (x14_1 : Int) (x113002_1 : List (S52)) (u113002 : Value), v14 = .int .i64 x14_1 ∧ Aside0 (laws_conv.l0 kq l0_2 (l0_2.length : Int) x14_1 a0_0 a0_1 x113002_1 = some (r1, r2, r3)) ∧ Aside0 (kq ≤ k) ∧ Aside0 (Kd.R k52 52 w' w.heap.size (fun _ => True) u113002 x113002_1) ∧ Aside0 (w'.heap[gb110]? = some (.cells #[.string a0_0, .string a0_1, (.slice A0_2 l0_2.length c0_2)] 41 (0, 0))) ∧ Aside0 (w'.heap[gb111]? = some (.cells #[.string (⟨#[]⟩ : ByteArray), .string (⟨#[]⟩ : ByteArray), (.slice none 0 0)] 35 (0, 0))) ∧ Aside0 (w'.heap[gb112]? = some (.cells #[.string a0_0, .string a0_1, u113002] 35 (0, 0))) ∧ Aside0 (Below w.heap.size w w'))
  case atStart => exact ⟨(0), (([] : List (S52))), (.slice none 0 0), (by first | rfl | (simp; done) | (simp [*]; done)), H', ⟨Nat.le_refl _⟩, ⟨by first | exact Kd.R_nil _ _ _ _ _ | exact Kd.N_nil _ _ _ _ _ | exact Kd.V_nil _ _ _ _ _ | exact Kd.Q_nil _ _ _ _ _ | exact Kd.S_nil _ _ _ _ _⟩, ⟨by (with_reducible repeat (first | refine blk_drewN ?_ _ | refine blk_drew ?_ | refine blk_alloc ?_ _)); refine blk_far ?_ NB110_112.out _; (with_reducible repeat (first | refine blk_drewN ?_ _ | refine blk_drew ?_ | refine blk_alloc ?_ _)); refine blk_far ?_ NB110_112.out _; (with_reducible repeat (first | refine blk_drewN ?_ _ | refine blk_drew ?_ | refine blk_alloc ?_ _)); refine blk_far ?_ NB110_112.out _; (with_reducible repeat (first | refine blk_drewN ?_ _ | refine blk_drew ?_ | refine blk_alloc ?_ _)); exact BK110.out⟩, ⟨by (with_reducible repeat (first | refine blk_drewN ?_ _ | refine blk_drew ?_ | refine blk_alloc ?_ _)); refine blk_far ?_ NB111_112.out _; (with_reducible repeat (first | refine blk_drewN ?_ _ | refine blk_drew ?_ | refine blk_alloc ?_ _)); refine blk_far ?_ NB111_112.out _; (with_reducible repeat (first | refine blk_drewN ?_ _ | refine blk_drew ?_ | refine blk_alloc ?_ _)); refine blk_far ?_ NB111_112.out _; (with_reducible repeat (first | refine blk_drewN ?_ _ | refine blk_drew ?_ | refine blk_alloc ?_ _)); exact BK111.out⟩, ⟨by (with_reducible repeat (first | refine blk_drewN ?_ _ | refine blk_drew ?_ | refine blk_alloc ?_ _)); refine blk_put (cs := #[.string a0_0, .string a0_1, .slice none 0 0]) ?_ 2 _ rfl; (with_reducible repeat (first | refine blk_drewN ?_ _ | refine blk_drew ?_ | refine blk_alloc ?_ _)); refine blk_put (cs := #[.string a0_0, .string (⟨#[]⟩ : ByteArray), .slice none 0 0]) ?_ 1 _ rfl; (with_reducible repeat (first | refine blk_drewN ?_ _ | refine blk_drew ?_ | refine blk_alloc ?_ _)); refine blk_put (cs := #[.string (⟨#[]⟩ : ByteArray), .string (⟨#[]⟩ : ByteArray), .slice none 0 0]) ?_ 0 _ rfl; (with_reducible repeat (first | refine blk_drewN ?_ _ | refine blk_drew ?_ | refine blk_alloc ?_ _)); exact BK112.out⟩, ⟨by repeat (first | (with_reducible first | exact HB.out | apply below_alloc | apply pw_below_drewN | apply below_drew1 | refine below_set ?_ GE110.out | refine below_set ?_ GE111.out | refine below_set ?_ GE112.out) | exact HB.out)⟩⟩
  case round =>
    clear H'
    try clear c1
    try clear p2
    try clear c4
    try clear c7
    try clear c8
    try clear hcz10_0
    try clear hcz10_1
    try clear hcz10_2
    try clear hcz5_0
    try clear hcz5_1
    try clear hcz5_2
    try clear hcz9_0
    try clear hcz9_1
    try clear hcz9_2
    try clear hfz10_0
    try clear hfz10_1
    try clear hfz10_2
    try clear hfz5_0
    try clear hfz5_1
    try clear hfz5_2
    try clear hfz9_0
    try clear hfz9_1
    try clear hfz9_2
    obtain ⟨x14_1, x113002_1, u113002, rfl, HA, HK1, HO_113002, BK110, BK111, BK112, HB⟩ := hrel
    cases gk with
    | zero => exact absurd HA.out (by simp [laws_conv.l0])
    | succ k1 =>
      have H := HA.out
      clear HA
      simp only [laws_conv.l0] at H
      by_cases c11 : x14_1 < (l0_2.length : Int)
      · rw [if_pos c11] at H
        have c11b0 : decide (x14_1 < (l0_2.length : Int)) = true := decide_eq_true c11
        clear c11
        by_cases c12 : 0 ≤ x14_1
        · rw [if_pos c12] at H
          have c12b0 : decide (0 ≤ x14_1) = true := decide_eq_true c12
          clear c12
          by_cases c13 : x14_1 < (l0_2.length : Int)
          · rw [if_pos c13] at H
            have c13b0 : decide (x14_1 < (l0_2.length : Int)) = true := decide_eq_true c13
            clear c13
            by_cases c14 : x113002_1.length < 5864062014805
            · rw [if_pos c14] at H
              have LMc14 := Aside0.mk c14
              clear c14
              obtain ⟨y115, hy115⟩ : ∃ y_ : List (S52), y_ = (x113002_1 ++ [(⟨(rd_T54 l0_2 x14_1).f0, (rd_T54 l0_2 x14_1).f1, (rd_T54 l0_2 x14_1).f2⟩ : S52)]) := ⟨_, rfl⟩
              replace H : (laws_conv.l0 k1 l0_2 (l0_2.length : Int) (wrap64 (x14_1 + 1)) a0_0 a0_1 y115) = some (r1, r2, r3) := by first | (rw [hy115]; with_reducible exact H) | (have H2_ := (Option.bind_some _ _).symm.trans H; rw [hy115]; with_reducible exact H2_) | (have H2_ := (Option.bind_some _ _).symm.trans H; with_reducible exact H2_) | with_reducible exact H | (rw [hy115]; exact H) | exact H
              have Ny115 := Aside0.mk hy115
              clear hy115
              have H' := Aside0.mk H
              clear H
              have p113 : 0 ≤ (x14_1 : Int) := of_decide_eq_true (by first | (with_reducible assumption) | assumption)
              have q113 : x14_1 < (l0_2.length : Int) := of_decide_eq_true (by first | (with_reducible assumption) | assumption)
              obtain ⟨ad113, e113, hx113_0, hx113_1, hx113_2⟩ := at_T54 HR0_2.out x14_1 p113 q113
              cases e113
              replace hx113_0 := (HB.out.cell (World.block_lt_of_cell? w _ hx113_0)).trans hx113_0
              replace hx113_1 := (HB.out.cell (World.block_lt_of_cell? w _ hx113_1)).trans hx113_1
              replace hx113_2 := (HB.out.cell (World.block_lt_of_cell? w _ hx113_2)).trans hx113_2
              replace p113 := eq_true p113
              replace q113 := eq_true q113
              go_wp2_with (first | ((with_reducible refine gate_dst (N := 5) rfl ?_); refine box_event ?hg (N := 5) ?hd (cs := #[.string (⟨#[]⟩ : ByteArray), .bool false, .bool false]) (t := 54) ?hr ?_; (case hd => rfl); (case hg => rfl); (case hr => first | (go_simp; done) | (go_simp; rfl)); intro gb114 hg w15 hbox hb; have n0_ := Aside0.mk (Kd.R_below (by (with_reducible repeat (first | apply Kd.R_alloc | apply Kd.R_drewN | apply Kd.R_drew)); exact HO_113002.out) hb); have n1_ := Aside0.mk (blk_below (g := gb110) (o := .cells #[.string a0_0, .string a0_1, .slice (some ad113) l0_2.length c0_2] 41 (0, 0)) (by (with_reducible repeat (first | refine blk_drewN ?_ _ | refine blk_drew ?_ | refine blk_alloc ?_ _)); exact BK110.out) hb); have n2_ := Aside0.mk (blk_below (g := gb111) (o := .cells #[.string (⟨#[]⟩ : ByteArray), .string (⟨#[]⟩ : ByteArray), .slice none 0 0] 35 (0, 0)) (by (with_reducible repeat (first | refine blk_drewN ?_ _ | refine blk_drew ?_ | refine blk_alloc ?_ _)); exact BK111.out) hb); have n3_ := Aside0.mk (blk_below (g := gb112) (o := .cells #[.string a0_0, .string a0_1, u113002] 35 (0, 0)) (by (with_reducible repeat (first | refine blk_drewN ?_ _ | refine blk_drew ?_ | refine blk_alloc ?_ _)); exact BK112.out) hb); have n4_ := Aside0.mk (below_step (by repeat (first | (with_reducible first | exact HB.out | apply below_alloc | apply pw_below_drewN | apply below_drew1 | refine below_set ?_ GE110.out | refine below_set ?_ GE111.out | refine below_set ?_ GE112.out) | exact HB.out)) hb); have n5_ := Aside0.mk (hbox); have n6_ := Aside0.mk ((by rw [hg]; exact (below_size (by repeat (first | (with_reducible first | exact HB.out | apply below_alloc | apply pw_below_drewN | apply below_drew1 | refine below_set ?_ GE110.out | refine below_set ?_ GE111.out | refine below_set ?_ GE112.out) | exact HB.out))) : w.heap.size ≤ gb114)); have n7_ := Aside0.mk ((by rw [hg]; exact (below_size (by repeat (first | (with_reducible first | exact HB.out | apply below_alloc | apply pw_below_drewN | apply below_drew1 | refine below_set ?_ GE110.out | refine below_set ?_ GE111.out | refine below_set ?_ GE112.out) | exact HB.out))) : w.heap.size ≤ gb114)); have n8_ := Aside0.mk ((by rw [hg]; exact Nat.ne_of_lt (blk_lt (g := gb110) (o := .cells #[.string a0_0, .string a0_1, .slice (some ad113) l0_2.length c0_2] 41 (0, 0)) (by (with_reducible repeat (first | refine blk_drewN ?_ _ | refine blk_drew ?_ | refine blk_alloc ?_ _)); exact BK110.out)) : gb110 ≠ gb114)); have n9_ := Aside0.mk ((by rw [hg]; exact Nat.ne_of_gt (blk_lt (g := gb110) (o := .cells #[.string a0_0, .string a0_1, .slice (some ad113) l0_2.length c0_2] 41 (0, 0)) (by (with_reducible repeat (first | refine blk_drewN ?_ _ | refine blk_drew ?_ | refine blk_alloc ?_ _)); exact BK110.out)) : gb114 ≠ gb110)); have n10_ := Aside0.mk ((by rw [hg]; exact Nat.ne_of_lt (blk_lt (g := gb111) (o := .cells #[.string (⟨#[]⟩ : ByteArray), .string (⟨#[]⟩ : ByteArray), .slice none 0 0] 35 (0, 0)) (by (with_reducible repeat (first | refine blk_drewN ?_ _ | refine blk_drew ?_ | refine blk_alloc ?_ _)); exact BK111.out)) : gb111 ≠ gb114)); have n11_ := Aside0.mk ((by rw [hg]; exact Nat.ne_of_gt (blk_lt (g := gb111) (o := .cells #[.string (⟨#[]⟩ : ByteArray), .string (⟨#[]⟩ : ByteArray), .slice none 0 0] 35 (0, 0)) (by (with_reducible repeat (first | refine blk_drewN ?_ _ | refine blk_drew ?_ | refine blk_alloc ?_ _)); exact BK111.out)) : gb114 ≠ gb111)); have n12_ := Aside0.mk ((by rw [hg]; exact Nat.ne_of_lt (blk_lt (g := gb112) (o := .cells #[.string a0_0, .string a0_1, u113002] 35 (0, 0)) (by (with_reducible repeat (first | refine blk_drewN ?_ _ | refine blk_drew ?_ | refine blk_alloc ?_ _)); exact BK112.out)) : gb112 ≠ gb114)); have n13_ := Aside0.mk ((by rw [hg]; exact Nat.ne_of_gt (blk_lt (g := gb112) (o := .cells #[.string a0_0, .string a0_1, u113002] 35 (0, 0)) (by (with_reducible repeat (first | refine blk_drewN ?_ _ | refine blk_drew ?_ | refine blk_alloc ?_ _)); exact BK112.out)) : gb114 ≠ gb112)); clear HO_113002; clear BK110; clear BK111; clear BK112; clear HB; have HO_113002 := n0_; have BK110 := n1_; have BK111 := n2_; have BK112 := n3_; have HB := n4_; have BK114 := n5_; have GW114 := n6_; have GE114 := n7_; have NB110_114 := n8_; have NB114_110 := n9_; have NB111_114 := n10_; have NB114_111 := n11_; have NB112_114 := n12_; have NB114_112 := n13_; clear n0_ n1_ n2_ n3_ n4_ n5_ n6_ n7_ n8_ n9_ n10_ n11_ n12_ n13_; clear hb hbox hg; have hnb16 := NB114_110.out; have hnc16 := NB110_114.out; have hnb17 := NB114_111.out; have hnc17 := NB111_114.out; have hnb18 := NB114_112.out; have hnc18 := NB112_114.out; have hcz19_0 : w15.cell? ⟨gb114, 0, none⟩ = some (.string (⟨#[]⟩ : ByteArray)) := (blk_cell BK114.out 0).trans rfl; have hcz19_1 : w15.cell? ⟨gb114, 1, none⟩ = some (.bool false) := (blk_cell BK114.out 1).trans rfl; have hcz19_2 : w15.cell? ⟨gb114, 2, none⟩ = some (.bool false) := (blk_cell BK114.out 2).trans rfl; have hfz19_0 := blk_frozen BK114.out 0; have hfz19_1 := blk_frozen BK114.out 1; have hfz19_2 := blk_frozen BK114.out 2; have hnb20 := NB112_110.out; have hnc20 := NB110_112.out; have hnb21 := NB112_111.out; have hnc21 := NB111_112.out; have hcz22_0 : w15.cell? ⟨gb112, 0, none⟩ = some (.string a0_0) := (blk_cell BK112.out 0).trans rfl; have hcz22_1 : w15.cell? ⟨gb112, 1, none⟩ = some (.string a0_1) := (blk_cell BK112.out 1).trans rfl; have hcz22_2 : w15.cell? ⟨gb112, 2, none⟩ = some (u113002) := (blk_cell BK112.out 2).trans rfl; have hfz22_0 := blk_frozen BK112.out 0; have hfz22_1 := blk_frozen BK112.out 1; have hfz22_2 := blk_frozen BK112.out 2) | ((with_reducible refine gate_builtin (b := .append) (xs := #[.tmp 19, .tmp 27]) rfl ?_); at_builtin; refine Kd.R_append k52 (w0 := w) w.heap.size rfl (.tmp 19) (.tmp 27) 33 52 (.agg #[(.string ⟨#[]⟩), (.bool false), (.bool false)]) 24 rfl Tryz.underlying33 info52 rfl (by decide) (by omega) u113002 x113002_1 (⟨(rd_T54 l0_2 x14_1).f0, (rd_T54 l0_2 x14_1).f1, (rd_T54 l0_2 x14_1).f2⟩ : S52) [.string ((rd_T54 l0_2 x14_1).f0), .bool ((rd_T54 l0_2 x14_1).f1), .bool ((rd_T54 l0_2 x14_1).f2)] (fun _ => True) (fun _ => False) rfl (by first | (go_simp; done) | (go_simp; rfl)) ?aP (fun _ hk => hk.elim) ?aF ?aO ?aB ?aS ?aL ?_; (case aP => exact k52_mkM _ _ _ (⟨(rd_T54 l0_2 x14_1).f0, (rd_T54 l0_2 x14_1).f1, (rd_T54 l0_2 x14_1).f2⟩ : S52)); (case aB => exact (by repeat (first | (with_reducible first | exact HB.out | apply below_alloc | apply pw_below_drewN | apply below_drew1 | refine below_set ?_ GE110.out | refine below_set ?_ GE111.out | refine below_set ?_ GE112.out | refine below_set ?_ GE114.out) | exact HB.out))); (case aF => exact (fun _ _ => trivial)); (case aO => exact (by (with_reducible repeat (first | apply Kd.R_alloc | apply Kd.R_drewN | apply Kd.R_drew)); exact Kd.R_mono (Kd.R_far (p := ⟨gb114, 2, none⟩) (Kd.R_far (p := ⟨gb114, 1, none⟩) (Kd.R_far (p := ⟨gb114, 0, none⟩) (Kd.R_types HO_113002.out BK114.out (by decide)) (fun _ hk => hk.2) (.string ((rd_T54 l0_2 x14_1).f0))) (fun _ hk => hk.2) (.bool ((rd_T54 l0_2 x14_1).f1))) (fun _ hk => hk.2) (.bool ((rd_T54 l0_2 x14_1).f2))) (fun _ hk => trivial))); (case aS => exact (below_size (by repeat (first | (with_reducible first | exact HB.out | apply below_alloc | apply pw_below_drewN | apply below_drew1 | refine below_set ?_ GE110.out | refine below_set ?_ GE111.out | refine below_set ?_ GE112.out | refine below_set ?_ GE114.out) | exact HB.out)))); (case aL => have := LMc14.out; omega); intro v116 w23 ho hb hg hat; rw [← Ny115.out] at ho; have n0_ := Aside0.mk (blk_grown (g := gb110) (o := .cells #[.string a0_0, .string a0_1, .slice (some ad113) l0_2.length c0_2] 41 (0, 0)) (by (with_reducible repeat (first | refine blk_drewN ?_ _ | refine blk_drew ?_ | refine blk_alloc ?_ _)); refine blk_far ?_ NB110_114.out _; (with_reducible repeat (first | refine blk_drewN ?_ _ | refine blk_drew ?_ | refine blk_alloc ?_ _)); refine blk_far ?_ NB110_114.out _; (with_reducible repeat (first | refine blk_drewN ?_ _ | refine blk_drew ?_ | refine blk_alloc ?_ _)); refine blk_far ?_ NB110_114.out _; (with_reducible repeat (first | refine blk_drewN ?_ _ | refine blk_drew ?_ | refine blk_alloc ?_ _)); exact BK110.out) hg (Kd.R_ne HO_113002.out BK110.out (by decide))); have n1_ := Aside0.mk (blk_grown (g := gb111) (o := .cells #[.string (⟨#[]⟩ : ByteArray), .string (⟨#[]⟩ : ByteArray), .slice none 0 0] 35 (0, 0)) (by (with_reducible repeat (first | refine blk_drewN ?_ _ | refine blk_drew ?_ | refine blk_alloc ?_ _)); refine blk_far ?_ NB111_114.out _; (with_reducible repeat (first | refine blk_drewN ?_ _ | refine blk_drew ?_ | refine blk_alloc ?_ _)); refine blk_far ?_ NB111_114.out _; (with_reducible repeat (first | refine blk_drewN ?_ _ | refine blk_drew ?_ | refine blk_alloc ?_ _)); refine blk_far ?_ NB111_114.out _; (with_reducible repeat (first | refine blk_drewN ?_ _ | refine blk_drew ?_ | refine blk_alloc ?_ _)); exact BK111.out) hg (Kd.R_ne HO_113002.out BK111.out (by decide))); have n2_ := Aside0.mk (blk_grown (g := gb112) (o := .cells #[.string a0_0, .string a0_1, u113002] 35 (0, 0)) (by (with_reducible repeat (first | refine blk_drewN ?_ _ | refine blk_drew ?_ | refine blk_alloc ?_ _)); refine blk_far ?_ NB112_114.out _; (with_reducible repeat (first | refine blk_drewN ?_ _ | refine blk_drew ?_ | refine blk_alloc ?_ _)); refine blk_far ?_ NB112_114.out _; (with_reducible repeat (first | refine blk_drewN ?_ _ | refine blk_drew ?_ | refine blk_alloc ?_ _)); refine blk_far ?_ NB112_114.out _; (with_reducible repeat (first | refine blk_drewN ?_ _ | refine blk_drew ?_ | refine blk_alloc ?_ _)); exact BK112.out) hg (Kd.R_ne HO_113002.out BK112.out (by decide))); have n3_ := Aside0.mk (blk_grown (g := gb114) (o := .cells #[.string ((rd_T54 l0_2 x14_1).f0), .bool ((rd_T54 l0_2 x14_1).f1), .bool ((rd_T54 l0_2 x14_1).f2)] 54 (0, 0)) (by (with_reducible repeat (first | refine blk_drewN ?_ _ | refine blk_drew ?_ | refine blk_alloc ?_ _)); refine blk_put (cs := #[.string ((rd_T54 l0_2 x14_1).f0), .bool ((rd_T54 l0_2 x14_1).f1), .bool false]) ?_ 2 _ rfl; (with_reducible repeat (first | refine blk_drewN ?_ _ | refine blk_drew ?_ | refine blk_alloc ?_ _)); refine blk_put (cs := #[.string ((rd_T54 l0_2 x14_1).f0), .bool false, .bool false]) ?_ 1 _ rfl; (with_reducible repeat (first | refine blk_drewN ?_ _ | refine blk_drew ?_ | refine blk_alloc ?_ _)); refine blk_put (cs := #[.string (⟨#[]⟩ : ByteArray), .bool false, .bool false]) ?_ 0 _ rfl; (with_reducible repeat (first | refine blk_drewN ?_ _ | refine blk_drew ?_ | refine blk_alloc ?_ _)); exact BK114.out) hg (Kd.R_ne HO_113002.out BK114.out (by decide))); have n4_ := Aside0.mk (hb); have n5_ := Aside0.mk (ho); clear BK110; clear BK111; clear BK112; clear BK114; clear HB; clear HO_113002; have BK110 := n0_; have BK111 := n1_; have BK112 := n2_; have BK114 := n3_; have HB := n4_; have HO117 := n5_; clear n0_ n1_ n2_ n3_ n4_ n5_; clear ho hb hg hat; obtain ⟨Ao24, co24, eo24⟩ := Kd.R_slice HO117.out; subst eo24; have hcz25_0 : w23.cell? ⟨gb112, 0, none⟩ = some (.string a0_0) := (blk_cell BK112.out 0).trans rfl; have hcz25_1 : w23.cell? ⟨gb112, 1, none⟩ = some (.string a0_1) := (blk_cell BK112.out 1).trans rfl; have hcz25_2 : w23.cell? ⟨gb112, 2, none⟩ = some (u113002) := (blk_cell BK112.out 2).trans rfl; have hfz25_0 := blk_frozen BK112.out 0; have hfz25_1 := blk_frozen BK112.out 1; have hfz25_2 := blk_frozen BK112.out 2))
              go_roundg k1
              case measure => have := HK1.out; omega
              case rel => exact ⟨(wrap64 (x14_1 + 1)), (y115), (.slice Ao24 y115.length co24), (by first | rfl | (simp; done) | (simp [*]; done)), H', ⟨by have := HK1.out; omega⟩, ⟨by (with_reducible repeat (first | apply Kd.R_alloc | apply Kd.R_drewN | apply Kd.R_drew)); exact Kd.R_mono (Kd.R_far (p := ⟨gb112, 2, none⟩) (Kd.R_types HO117.out BK112.out (by decide)) (fun _ hk => hk.2) (.slice Ao24 y115.length co24)) (fun _ hk => trivial)⟩, ⟨by (with_reducible repeat (first | refine blk_drewN ?_ _ | refine blk_drew ?_ | refine blk_alloc ?_ _)); refine blk_far ?_ NB110_112.out _; (with_reducible repeat (first | refine blk_drewN ?_ _ | refine blk_drew ?_ | refine blk_alloc ?_ _)); exact BK110.out⟩, ⟨by (with_reducible repeat (first | refine blk_drewN ?_ _ | refine blk_drew ?_ | refine blk_alloc ?_ _)); refine blk_far ?_ NB111_112.out _; (with_reducible repeat (first | refine blk_drewN ?_ _ | refine blk_drew ?_ | refine blk_alloc ?_ _)); exact BK111.out⟩, ⟨by (with_reducible repeat (first | refine blk_drewN ?_ _ | refine blk_drew ?_ | refine blk_alloc ?_ _)); refine blk_put (cs := #[.string a0_0, .string a0_1, u113002]) ?_ 2 _ rfl; (with_reducible repeat (first | refine blk_drewN ?_ _ | refine blk_drew ?_ | refine blk_alloc ?_ _)); exact BK112.out⟩, ⟨by repeat (first | (with_reducible first | exact HB.out | apply below_alloc | apply pw_below_drewN | apply below_drew1 | refine below_set ?_ GE110.out | refine below_set ?_ GE111.out | refine below_set ?_ GE112.out | refine below_set ?_ GE114.out) | exact HB.out)⟩⟩
            · rw [if_neg c14] at H
              exact absurd H (by simp)
          · rw [if_neg c13] at H
            exact absurd H (by simp)
        · rw [if_neg c12] at H
          exact absurd H (by simp)
      · rw [if_neg c11] at H
        have c11b0 : decide (x14_1 < (l0_2.length : Int)) = false := decide_eq_false c11
        clear c11
        simp only [Option.some.injEq, Prod.mk.injEq] at H
        obtain ⟨rfl, rfl, rfl⟩ := H
        have hnb26 := NB112_110.out
        have hnc26 := NB110_112.out
        have hnb27 := NB112_111.out
        have hnc27 := NB111_112.out
        have hcz28_0 : wr.cell? ⟨gb112, 0, none⟩ = some (.string a0_0) := (blk_cell BK112.out 0).trans rfl
        have hcz28_1 : wr.cell? ⟨gb112, 1, none⟩ = some (.string a0_1) := (blk_cell BK112.out 1).trans rfl
        have hcz28_2 : wr.cell? ⟨gb112, 2, none⟩ = some (u113002) := (blk_cell BK112.out 2).trans rfl
        have hfz28_0 := blk_frozen BK112.out 0
        have hfz28_1 := blk_frozen BK112.out 1
        have hfz28_2 := blk_frozen BK112.out 2
        have hnb29 := NB111_110.out
        have hnc29 := NB110_111.out
        have hcz30_0 : wr.cell? ⟨gb111, 0, none⟩ = some (.string (⟨#[]⟩ : ByteArray)) := (blk_cell BK111.out 0).trans rfl
        have hcz30_1 : wr.cell? ⟨gb111, 1, none⟩ = some (.string (⟨#[]⟩ : ByteArray)) := (blk_cell BK111.out 1).trans rfl
        have hcz30_2 : wr.cell? ⟨gb111, 2, none⟩ = some (.slice none 0 0) := (blk_cell BK111.out 2).trans rfl
        have hfz30_0 := blk_frozen BK111.out 0
        have hfz30_1 := blk_frozen BK111.out 1
        have hfz30_2 := blk_frozen BK111.out 2
        obtain ⟨Ao31, co31, eo31⟩ := Kd.R_slice HO_113002.out
        subst eo31
        go_wp2
        refine bodyPost_ret (results_cell_row rfl _ _ gb111 35 #[.string a0_0, .string a0_1, .slice Ao31 x113002_1.length co31] (0, 0) _ rfl (by (with_reducible repeat (first | refine blk_drewN ?_ _ | refine blk_drew ?_ | refine blk_alloc ?_ _)); refine blk_put (cs := #[.string a0_0, .string a0_1, .slice none 0 0]) ?_ 2 _ rfl; (with_reducible repeat (first | refine blk_drewN ?_ _ | refine blk_drew ?_ | refine blk_alloc ?_ _)); refine blk_put (cs := #[.string a0_0, .string (⟨#[]⟩ : ByteArray), .slice none 0 0]) ?_ 1 _ rfl; (with_reducible repeat (first | refine blk_drewN ?_ _ | refine blk_drew ?_ | refine blk_alloc ?_ _)); refine blk_put (cs := #[.string (⟨#[]⟩ : ByteArray), .string (⟨#[]⟩ : ByteArray), .slice none 0 0]) ?_ 0 _ rfl; (with_reducible repeat (first | refine blk_drewN ?_ _ | refine blk_drew ?_ | refine blk_alloc ?_ _)); exact BK111.out) Tryz.underlying35 rfl (by kernel_rfl)) rfl ?_
        exact ⟨_, by first | rfl | (simp [errW_none, errW_some] <;> rfl) | (simp [*, errW_none, errW_some] <;> rfl), by (with_reducible repeat (first | apply Kd.R_alloc | apply Kd.R_drewN | apply Kd.R_drew)); exact Kd.R_mono (Kd.R_far (p := ⟨gb111, 2, none⟩) (Kd.R_far (p := ⟨gb111, 1, none⟩) (Kd.R_far (p := ⟨gb111, 0, none⟩) (Kd.R_types HO_113002.out BK111.out (by decide)) (fun _ hk => hk.2) (.string a0_0)) (fun _ hk => hk.2) (.string a0_1)) (fun _ hk => hk.2) (.slice Ao31 x113002_1.length co31)) (fun _ hk => trivial), by repeat (first | (with_reducible first | exact HB.out | apply below_alloc | apply pw_below_drewN | apply below_drew1 | refine below_set ?_ GE110.out | refine below_set ?_ GE111.out | refine below_set ?_ GE112.out) | exact HB.out)⟩
def laws_all.l0 : Nat → List (S35) → List (S41) → Int → Int → Option ((List (S35)))
  | 0, _, _, _, _ => none
  | k + 1, x3, x7, x8, x9 => if x9 < x8 then (if 0 ≤ x9 then (if x9 < (x7.length : Int) then ((laws_conv.f k ((rd_T41 x7 x9).f0) ((rd_T41 x7 x9).f1) ((rd_T41 x7 x9).f2)).bind fun bt123 => (if x3.length < 2513169434916 then (laws_all.l0 k (x3 ++ [(⟨bt123.1, bt123.2.1, bt123.2.2⟩ : S35)]) x7 x8 (wrap64 (x9 + 1))) else (none))) else (none)) else (none)) else (some x3)
def laws_all.f (k : Nat) (l0 : List (S41)) : Option ((List (S35))) := laws_all.l0 k (([] : List (S35))) l0 (l0.length : Int) 0
theorem laws_all.mono_l : ∀ k, (∀ y0 y1 y2 y3, LeO (laws_all.l0 k y0 y1 y2 y3) (laws_all.l0 (k + 1) y0 y1 y2 y3))
  | 0 => fun _ _ _ _ r h => by simp [laws_all.l0] at h
  | k + 1 => by
    have ih0 := laws_all.mono_l k
    · intro y0 y1 y2 y3
      unfold laws_all.l0
      repeat' first
      | (with_reducible exact ih0 _ _ _ _)
      | (with_reducible exact laws_conv.mono _ _ _ _)
      | (with_reducible exact LeO.refl _)
      | (with_reducible exact LeO.none _)
      | (with_reducible refine LeO.ite ?_ ?_)
      | (with_reducible refine LeO.bind ?_ (fun _ => ?_))
      | exact ih0 _ _ _ _
      | exact laws_conv.mono _ _ _ _
      | exact LeO.none _
      | refine LeO.ite ?_ ?_
      | refine LeO.bind ?_ (fun _ => ?_)
set_option maxHeartbeats 8000000 in
set_option maxRecDepth 100000 in
theorem laws_all.calls (k : Nat) (A0 : Option Addr) (c0 : Nat) (l0 : List (S41)) (r : List (S35)) (w : World) (hr0 : Kd.C k41 w A0 l0.length l0) (hc0 : l0.length ≤ c0) (h : laws_all.f k l0 = some r) :
    Calls Tryz.prog 5 #[.slice A0 l0.length c0] w fun e w' => ∃ v0_ : Value, e = .returned (v0_) ∧ Kd.S k35 35 w' w.heap.size (fun _ => True) v0_ r ∧ Below w.heap.size w w' := by
  have hu41 := Tryz.underlying41
  have HR0 := Aside0.mk hr0
  have HC0 := Aside0.mk hc0
  clear hr0 hc0
  have HB := Aside0.mk (Below.refl w.heap.size w)
  have H : (laws_all.l0 k (([] : List (S35))) l0 (l0.length : Int) 0) = some r := h
  clear h
  obtain ⟨y118, hy118⟩ : ∃ y_ : List (S35), y_ = (([] : List (S35))) := ⟨_, rfl⟩
  replace H : (laws_all.l0 k y118 l0 (l0.length : Int) 0) = some r := by first | (rw [hy118]; with_reducible exact H) | (have H2_ := (Option.bind_some _ _).symm.trans H; rw [hy118]; with_reducible exact H2_) | (have H2_ := (Option.bind_some _ _).symm.trans H; with_reducible exact H2_) | with_reducible exact H | (rw [hy118]; exact H) | exact H
  have Ny118 := Aside0.mk hy118
  clear hy118
  have H' := Aside0.mk H
  clear H
  go_enter Tryz.func5, Tryz.ntmps5
  go_wp2_with (first | ((with_reducible refine gate_dst (N := 6) rfl ?_); refine Kd.S_lit k35 _ 35 ?hg (N := 6) ?hd (xs := ([] : List (S35))) (inner := []) (ok := fun _ => True) (okp := fun _ => True) ?hr ?hp (fun _ hk => hk) trivial (Below.refl _ _) (Nat.le_refl _) (by simp) ?_; (case hd => rfl); (case hg => rfl); (case hr => first | (go_simp; done) | (go_simp; rfl)); (case hp => exact (Reps.none _ _)); intro v119 w2 ho3 hb hg_ hnew_; clear hg_ hnew_; (first | rw [← Ny118.out] at ho3 | (simp only [Int.reduceToNat] at ho3; rw [← Ny118.out] at ho3)); have n0_ := Aside0.mk (Kd.S_lower ho3 (below_size (by repeat (first | (with_reducible first | exact HB.out | apply below_alloc | apply pw_below_drewN | apply below_drew1) | exact HB.out)))); have n1_ := Aside0.mk (below_step (by repeat (first | (with_reducible first | exact HB.out | apply below_alloc | apply pw_below_drewN | apply below_drew1) | exact HB.out)) hb); clear HB; have HO120 := n0_; have HB := n1_; clear n0_ n1_; clear hb ho3))
  go_loopg [3, 9] k (fun kq v3 v9 w' => ∃ (x3_1 : List (S35)) (x9_1 : Int), v9 = .int .i64 x9_1 ∧ Aside0 (laws_all.l0 kq x3_1 l0 (l0.length : Int) x9_1 = some r) ∧ Aside0 (kq ≤ k) ∧ Aside0 (Kd.S k35 35 w' w.heap.size (fun _ => True) v3 x3_1) ∧ Aside0 (Below w.heap.size w w'))
  case atStart => exact ⟨(y118), (0), (by first | rfl | (simp; done) | (simp [*]; done)), H', ⟨Nat.le_refl _⟩, ⟨by (with_reducible repeat (first | apply Kd.S_alloc | apply Kd.S_drewN | apply Kd.S_drew)); exact HO120.out⟩, ⟨by repeat (first | (with_reducible first | exact HB.out | apply below_alloc | apply pw_below_drewN | apply below_drew1) | exact HB.out)⟩⟩
  case round =>
    clear H'
    try clear p2
    obtain ⟨x3_1, x9_1, rfl, HA, HK1, HO_3, HB⟩ := hrel
    cases gk with
    | zero => exact absurd HA.out (by simp [laws_all.l0])
    | succ k1 =>
      have H := HA.out
      clear HA
      simp only [laws_all.l0] at H
      by_cases c4 : x9_1 < (l0.length : Int)
      · rw [if_pos c4] at H
        have c4b0 : decide (x9_1 < (l0.length : Int)) = true := decide_eq_true c4
        clear c4
        by_cases c5 : 0 ≤ x9_1
        · rw [if_pos c5] at H
          have c5b0 : decide (0 ≤ x9_1) = true := decide_eq_true c5
          clear c5
          by_cases c6 : x9_1 < (l0.length : Int)
          · rw [if_pos c6] at H
            have c6b0 : decide (x9_1 < (l0.length : Int)) = true := decide_eq_true c6
            clear c6
            replace H := Option.bind_eq_some_iff.mp H
            obtain ⟨⟨t123, t124, t125⟩, A70, H⟩ := H
            replace H : (if x3_1.length < 2513169434916 then (laws_all.l0 k1 (x3_1 ++ [(⟨t123, t124, t125⟩ : S35)]) l0 (l0.length : Int) (wrap64 (x9_1 + 1))) else (none)) = some r := H
            have A7 := Aside0.mk A70
            clear A70
            by_cases c8 : x3_1.length < 2513169434916
            · rw [if_pos c8] at H
              have LMc8 := Aside0.mk c8
              clear c8
              obtain ⟨y128, hy128⟩ : ∃ y_ : List (S35), y_ = (x3_1 ++ [(⟨t123, t124, t125⟩ : S35)]) := ⟨_, rfl⟩
              replace H : (laws_all.l0 k1 y128 l0 (l0.length : Int) (wrap64 (x9_1 + 1))) = some r := by first | (rw [hy128]; with_reducible exact H) | (have H2_ := (Option.bind_some _ _).symm.trans H; rw [hy128]; with_reducible exact H2_) | (have H2_ := (Option.bind_some _ _).symm.trans H; with_reducible exact H2_) | with_reducible exact H | (rw [hy128]; exact H) | exact H
              have Ny128 := Aside0.mk hy128
              clear hy128
              have H' := Aside0.mk H
              clear H
              have p121 : 0 ≤ (x9_1 : Int) := of_decide_eq_true (by first | (with_reducible assumption) | assumption)
              have q121 : x9_1 < (l0.length : Int) := of_decide_eq_true (by first | (with_reducible assumption) | assumption)
              obtain ⟨ad121, A121_2, c121_2, e121, hx121_0, hx121_1, hx121_2, hl121_2, hi121_2⟩ := at_T41 HR0.out x9_1 p121 q121
              cases e121
              replace hx121_0 := (HB.out.cell (World.block_lt_of_cell? w _ hx121_0)).trans hx121_0
              replace hx121_1 := (HB.out.cell (World.block_lt_of_cell? w _ hx121_1)).trans hx121_1
              replace hx121_2 := (HB.out.cell (World.block_lt_of_cell? w _ hx121_2)).trans hx121_2
              have HR121_2 := Aside0.mk hi121_2
              have HC121_2 := Aside0.mk hl121_2
              clear hi121_2 hl121_2
              replace p121 := eq_true p121
              replace q121 := eq_true q121
              go_wp2_with (first | ((with_reducible refine gate_dst (N := 5) rfl ?_); refine box_event ?hg (N := 5) ?hd (cs := #[.string (⟨#[]⟩ : ByteArray), .string (⟨#[]⟩ : ByteArray), .slice none 0 0]) (t := 41) ?hr ?_; (case hd => rfl); (case hg => rfl); (case hr => first | (go_simp; done) | (go_simp; rfl)); intro gb122 hg w9 hbox hb; have n0_ := Aside0.mk (Kd.S_below (by (with_reducible repeat (first | apply Kd.S_alloc | apply Kd.S_drewN | apply Kd.S_drew)); exact HO_3.out) hb); have n1_ := Aside0.mk (below_step (by repeat (first | (with_reducible first | exact HB.out | apply below_alloc | apply pw_below_drewN | apply below_drew1) | exact HB.out)) hb); have n2_ := Aside0.mk (hbox); have n3_ := Aside0.mk ((by rw [hg]; exact (below_size (by repeat (first | (with_reducible first | exact HB.out | apply below_alloc | apply pw_below_drewN | apply below_drew1) | exact HB.out))) : w.heap.size ≤ gb122)); have n4_ := Aside0.mk ((by rw [hg]; exact (below_size (by repeat (first | (with_reducible first | exact HB.out | apply below_alloc | apply pw_below_drewN | apply below_drew1) | exact HB.out))) : w.heap.size ≤ gb122)); clear HO_3; clear HB; have HO_3 := n0_; have HB := n1_; have BK122 := n2_; have GW122 := n3_; have GE122 := n4_; clear n0_ n1_ n2_ n3_ n4_; clear hb hbox hg; have hcz10_0 : w9.cell? ⟨gb122, 0, none⟩ = some (.string (⟨#[]⟩ : ByteArray)) := (blk_cell BK122.out 0).trans rfl; have hcz10_1 : w9.cell? ⟨gb122, 1, none⟩ = some (.string (⟨#[]⟩ : ByteArray)) := (blk_cell BK122.out 1).trans rfl; have hcz10_2 : w9.cell? ⟨gb122, 2, none⟩ = some (.slice none 0 0) := (blk_cell BK122.out 2).trans rfl; have hfz10_0 := blk_frozen BK122.out 0; have hfz10_1 := blk_frozen BK122.out 1; have hfz10_2 := blk_frozen BK122.out 2) | ((with_reducible refine gate_callee (f := 15) rfl ?_); refine goesL_ (some 15) rfl rfl Tryz.func15 (by kernel_rfl) rfl #[.agg #[.string ((rd_T41 l0 x9_1).f0), .string ((rd_T41 l0 x9_1).f1), .slice A121_2 ((rd_T41 l0 x9_1).f2).length c121_2]] rfl (by (try simp only [List.map_toArray, List.map_cons, List.map_nil]); first | done | rfl | (simp only [List.length_drop, List.length_take]; rfl)) ?_; (with_reducible refine (laws_conv.calls k1 ((rd_T41 l0 x9_1).f0) ((rd_T41 l0 x9_1).f1) _ _ ((rd_T41 l0 x9_1).f2) t123 t124 t125 _ ?side1 ?side2 A7.out).mono ?_); (case side1 => exact Kd.C_below HR121_2.out (by repeat (first | (with_reducible first | exact HB.out | apply below_alloc | apply pw_below_drewN | apply below_drew1 | refine below_set ?_ GE122.out) | exact HB.out))); (case side2 => exact HC121_2.out); rintro e w11 ⟨v126, rfl, ho0, hb⟩; refine ⟨_, rfl, ?_⟩; have n0_ := Aside0.mk (Kd.S_elder' (by (with_reducible repeat (first | apply Kd.S_alloc | apply Kd.S_drewN | apply Kd.S_drew)); exact (Kd.S_mono (Kd.S_far (p := ⟨gb122, 2, none⟩) (Kd.S_far (p := ⟨gb122, 1, none⟩) (Kd.S_far (p := ⟨gb122, 0, none⟩) (Kd.S_types HO_3.out BK122.out (by decide)) (fun _ hk => hk.2) (.string ((rd_T41 l0 x9_1).f0))) (fun _ hk => hk.2) (.string ((rd_T41 l0 x9_1).f1))) (fun _ hk => hk.2) (.slice A121_2 ((rd_T41 l0 x9_1).f2).length c121_2)) (fun _ h_ => h_.1))) (Kd.R_base ho0) hb); have n1_ := Aside0.mk (Kd.R_lower ho0 (below_size (by repeat (first | (with_reducible first | exact HB.out | apply below_alloc | apply pw_below_drewN | apply below_drew1 | refine below_set ?_ GE122.out) | exact HB.out)))); have n2_ := Aside0.mk (blk_below (g := gb122) (o := .cells #[.string ((rd_T41 l0 x9_1).f0), .string ((rd_T41 l0 x9_1).f1), .slice A121_2 ((rd_T41 l0 x9_1).f2).length c121_2] 41 (0, 0)) (by (with_reducible repeat (first | refine blk_drewN ?_ _ | refine blk_drew ?_ | refine blk_alloc ?_ _)); refine blk_put (cs := #[.string ((rd_T41 l0 x9_1).f0), .string ((rd_T41 l0 x9_1).f1), .slice none 0 0]) ?_ 2 _ rfl; (with_reducible repeat (first | refine blk_drewN ?_ _ | refine blk_drew ?_ | refine blk_alloc ?_ _)); refine blk_put (cs := #[.string ((rd_T41 l0 x9_1).f0), .string (⟨#[]⟩ : ByteArray), .slice none 0 0]) ?_ 1 _ rfl; (with_reducible repeat (first | refine blk_drewN ?_ _ | refine blk_drew ?_ | refine blk_alloc ?_ _)); refine blk_put (cs := #[.string (⟨#[]⟩ : ByteArray), .string (⟨#[]⟩ : ByteArray), .slice none 0 0]) ?_ 0 _ rfl; (with_reducible repeat (first | refine blk_drewN ?_ _ | refine blk_drew ?_ | refine blk_alloc ?_ _)); exact BK122.out) hb); have n3_ := Aside0.mk (below_step (by repeat (first | (with_reducible first | exact HB.out | apply below_alloc | apply pw_below_drewN | apply below_drew1 | refine below_set ?_ GE122.out) | exact HB.out)) hb); clear HO_3; clear BK122; clear HB; have HO_3 := n0_; have HO127 := n1_; have BK122 := n2_; have HB := n3_; clear n0_ n1_ n2_ n3_; (try clear hb); (try clear hb2); (try clear hk); (try clear hi); (try clear ho0); obtain ⟨Ao13, co13, eo13⟩ := Kd.R_slice HO127.out; subst eo13) | ((with_reducible refine gate_builtin (b := .append) (xs := #[.tmp 13, .tmp 16]) rfl ?_); at_builtin; refine Kd.S_append k35 (w0 := w) w.heap.size rfl (.tmp 13) (.tmp 16) 24 35 (.agg #[(.string ⟨#[]⟩), (.string ⟨#[]⟩), (.slice none 0 0)]) 56 rfl Tryz.underlying24 info35 rfl (by decide) (by omega) u3 x3_1 (⟨t123, t124, t125⟩ : S35) [.string t123, .string t124, .slice Ao13 t125.length co13] (fun _ => True) (fun k_ => some k_ = (.slice Ao13 t125.length co13 : Value).ownBlock) rfl rfl ?aP (fun k_ hk_ => ((Kd.R_mono (ok' := fun k_ => ((fun _ => True)) k_ ∧ some k_ ≠ (u3 : Value).ownBlock) (Kd.R_apart' (HO127.out) (Kd.S_typed HO_3.out) (by decide)) (fun k_ hk => ⟨trivial, hk.2⟩))).1 k_ hk_.symm) ?aF ?aO ?aB ?aS ?aL ?_; (case aP => exact k35_mkM _ _ _ (⟨t123, t124, t125⟩ : S35) (Kd.R_mono (Kd.R_tight rfl (Kd.R_mono (ok' := fun k_ => ((fun _ => True)) k_ ∧ some k_ ≠ (u3 : Value).ownBlock) (Kd.R_apart' (HO127.out) (Kd.S_typed HO_3.out) (by decide)) (fun k_ hk => ⟨trivial, hk.2⟩))) (fun _ h_ => h_))); (case aB => exact (by repeat (first | (with_reducible first | exact HB.out | apply below_alloc | apply pw_below_drewN | apply below_drew1 | refine below_set ?_ GE122.out) | exact HB.out))); (case aF => exact (fun _ _ => trivial)); (case aO => exact (by (with_reducible repeat (first | apply Kd.S_alloc | apply Kd.S_drewN | apply Kd.S_drew)); exact Kd.S_mono HO_3.out (fun k_ hk => ⟨trivial, fun e_ => hk.2 e_⟩))); (case aS => exact (below_size (by repeat (first | (with_reducible first | exact HB.out | apply below_alloc | apply pw_below_drewN | apply below_drew1 | refine below_set ?_ GE122.out) | exact HB.out)))); (case aL => have := LMc8.out; omega); intro v129 w12 ho hb hg hat; rw [← Ny128.out] at ho; have n0_ := Aside0.mk (blk_grown (g := gb122) (o := .cells #[.string ((rd_T41 l0 x9_1).f0), .string ((rd_T41 l0 x9_1).f1), .slice A121_2 ((rd_T41 l0 x9_1).f2).length c121_2] 41 (0, 0)) (by (with_reducible repeat (first | refine blk_drewN ?_ _ | refine blk_drew ?_ | refine blk_alloc ?_ _)); exact BK122.out) hg (Kd.S_ne HO_3.out BK122.out (by decide))); have n1_ := Aside0.mk (hb); have n2_ := Aside0.mk (ho); clear BK122; clear HB; clear HO_3; clear HO127; have BK122 := n0_; have HB := n1_; have HO130 := n2_; clear n0_ n1_ n2_; clear ho hb hg hat))
              go_roundg k1
              case measure => have := HK1.out; omega
              case rel => exact ⟨(y128), (wrap64 (x9_1 + 1)), (by first | rfl | (simp; done) | (simp [*]; done)), H', ⟨by have := HK1.out; omega⟩, ⟨by (with_reducible repeat (first | apply Kd.S_alloc | apply Kd.S_drewN | apply Kd.S_drew)); exact HO130.out⟩, ⟨by repeat (first | (with_reducible first | exact HB.out | apply below_alloc | apply pw_below_drewN | apply below_drew1 | refine below_set ?_ GE122.out) | exact HB.out)⟩⟩
            · rw [if_neg c8] at H
              exact absurd H (by simp)
          · rw [if_neg c6] at H
            exact absurd H (by simp)
        · rw [if_neg c5] at H
          exact absurd H (by simp)
      · rw [if_neg c4] at H
        have c4b0 : decide (x9_1 < (l0.length : Int)) = false := decide_eq_false c4
        clear c4
        obtain rfl := Option.some.inj H
        go_wp2
        go_ret
        exact ⟨_, by first | rfl | (simp [errW_none, errW_some] <;> rfl) | (simp [*, errW_none, errW_some] <;> rfl), by (with_reducible repeat (first | apply Kd.S_alloc | apply Kd.S_drewN | apply Kd.S_drew)); exact HO_3.out, by repeat (first | (with_reducible first | exact HB.out | apply below_alloc | apply pw_below_drewN | apply below_drew1) | exact HB.out)⟩
def spec_has.l0 : Nat → ByteArray → Int → Int → Int → Option (Bool)
  | 0, _, _, _, _ => none
  | k + 1, x0, x1, x7, x8 => if x8 < x7 then (if 0 ≤ x8 then (if x8 < (x0.size : Int) then (if (bt x0 x8) = x1 then (some true) else (spec_has.l0 k x0 x1 x7 (wrap64 (x8 + 1)))) else (none)) else (none)) else (some false)
def spec_has.f (k : Nat) (a0 : ByteArray) (a1 : Int) : Option (Bool) := spec_has.l0 k a0 a1 (a0.size : Int) 0
theorem spec_has.mono_l : ∀ k, (∀ y0 y1 y2 y3, LeO (spec_has.l0 k y0 y1 y2 y3) (spec_has.l0 (k + 1) y0 y1 y2 y3))
  | 0 => fun _ _ _ _ r h => by simp [spec_has.l0] at h
  | k + 1 => by
    have ih0 := spec_has.mono_l k
    · intro y0 y1 y2 y3
      unfold spec_has.l0
      repeat' first
      | (with_reducible exact ih0 _ _ _ _)
      | (with_reducible exact LeO.refl _)
      | (with_reducible exact LeO.none _)
      | (with_reducible refine LeO.ite ?_ ?_)
      | (with_reducible refine LeO.bind ?_ (fun _ => ?_))
      | exact ih0 _ _ _ _
      | exact LeO.none _
      | refine LeO.ite ?_ ?_
      | refine LeO.bind ?_ (fun _ => ?_)
theorem spec_has.mono : ∀ a0 a1 k, LeO (spec_has.f k a0 a1) (spec_has.f (k + 1) a0 a1) := by
  intro a0 a1 k
  have ih0 := spec_has.mono_l k
  unfold spec_has.f
  repeat' first
      | (with_reducible exact ih0 _ _ _ _)
      | (with_reducible exact LeO.refl _)
      | (with_reducible exact LeO.none _)
      | (with_reducible refine LeO.ite ?_ ?_)
      | (with_reducible refine LeO.bind ?_ (fun _ => ?_))
      | exact ih0 _ _ _ _
      | exact LeO.none _
      | refine LeO.ite ?_ ?_
      | refine LeO.bind ?_ (fun _ => ?_)
set_option maxHeartbeats 8000000 in
set_option maxRecDepth 100000 in
theorem spec_has.calls (k : Nat) (a0 : ByteArray) (a1 : Int) (r : Bool) (w : World) (h : spec_has.f k a0 a1 = some r) :
    Calls Tryz.prog 16 #[.string a0, .int .u8 a1] w fun e w' => e = .returned (.bool r) ∧ Drawn0 w w' := by
  have H : (spec_has.l0 k a0 a1 (a0.size : Int) 0) = some r := h
  clear h
  have H' := Aside0.mk H
  clear H
  go_enter Tryz.func16, Tryz.ntmps16
  go_wp2
  go_loopg [8] k (fun kq v8 w' => ∃ (x8_1 : Int), v8 = .int .i64 x8_1 ∧ Aside0 (spec_has.l0 kq a0 a1 (a0.size : Int) x8_1 = some r) ∧ Aside0 (kq ≤ k) ∧ Drawn0 w w')
  case atStart => exact ⟨(0), (by first | rfl | (simp; done) | (simp [*]; done)), H', ⟨Nat.le_refl _⟩, by repeat (first | exact Drawn0.refl _ | apply Drawn0.step)⟩
  case round =>
    clear H'
    try clear c1
    try clear p2
    obtain ⟨x8_1, rfl, HA, HK1, ⟨m1, rfl⟩⟩ := hrel
    cases gk with
    | zero => exact absurd HA.out (by simp [spec_has.l0])
    | succ k1 =>
      have H := HA.out
      clear HA
      simp only [spec_has.l0] at H
      by_cases c3 : x8_1 < (a0.size : Int)
      · rw [if_pos c3] at H
        have c3b0 : decide (x8_1 < (a0.size : Int)) = true := decide_eq_true c3
        clear c3
        by_cases c4 : 0 ≤ x8_1
        · rw [if_pos c4] at H
          have c4b0 : decide (0 ≤ x8_1) = true := decide_eq_true c4
          clear c4
          by_cases c5 : x8_1 < (a0.size : Int)
          · rw [if_pos c5] at H
            have c5b0 : decide (x8_1 < (a0.size : Int)) = true := decide_eq_true c5
            clear c5
            by_cases c7 : (bt a0 x8_1) = a1
            · rw [if_pos c7] at H
              have c7b0 : ((bt a0 x8_1) == a1) = true := beq_iff_eq.mpr c7
              have c7b1 : ((bt a0 x8_1) != a1) = false := bne_eq_false_iff_eq.mpr c7
              clear c7
              obtain rfl := Option.some.inj H
              have p6 : 0 ≤ (x8_1 : Int) := of_decide_eq_true (by first | (with_reducible assumption) | assumption)
              have q6 : x8_1 < (a0.size : Int) := of_decide_eq_true (by first | (with_reducible assumption) | assumption)
              have hx6 := bt_at a0 x8_1
              replace p6 := eq_true p6
              replace q6 := eq_true q6
              go_wp2
              go_ret
              exact ⟨by first | rfl | (simp; done) | (simp [*]; done), by repeat (first | exact Drawn0.refl _ | apply Drawn0.step)⟩
            · rw [if_neg c7] at H
              have c7b0 : ((bt a0 x8_1) == a1) = false := beq_eq_false_iff_ne.mpr c7
              have c7b1 : ((bt a0 x8_1) != a1) = true := bne_iff_ne.mpr c7
              have H' := Aside0.mk H
              clear H
              have p6 : 0 ≤ (x8_1 : Int) := of_decide_eq_true (by first | (with_reducible assumption) | assumption)
              have q6 : x8_1 < (a0.size : Int) := of_decide_eq_true (by first | (with_reducible assumption) | assumption)
              have hx6 := bt_at a0 x8_1
              replace p6 := eq_true p6
              replace q6 := eq_true q6
              go_wp2
              go_roundg k1
              case measure => have := HK1.out; omega
              case rel => exact ⟨(wrap64 (x8_1 + 1)), (by first | rfl | (simp; done) | (simp [*]; done)), H', ⟨by have := HK1.out; omega⟩, by repeat (first | exact Drawn0.refl _ | apply Drawn0.step)⟩
          · rw [if_neg c5] at H
            exact absurd H (by simp)
        · rw [if_neg c4] at H
          exact absurd H (by simp)
      · rw [if_neg c3] at H
        have c3b0 : decide (x8_1 < (a0.size : Int)) = false := decide_eq_false c3
        clear c3
        obtain rfl := Option.some.inj H
        go_wp2
        go_ret
        exact ⟨by first | rfl | (simp; done) | (simp [*]; done), by repeat (first | exact Drawn0.refl _ | apply Drawn0.step)⟩
end Go.Proofs.YtcedefabmelogaaGreatDoor.PFnAllowed
