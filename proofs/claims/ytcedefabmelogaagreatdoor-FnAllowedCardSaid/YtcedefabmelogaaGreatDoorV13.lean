/- The text of a program (the kit's print) for the functions named below, mended where it fell: what each function of the given Go program comes to. -/
import Derived.Test.YtcedefabmelogaaGreatDoorV02
import Derived.Test.YtcedefabmelogaaGreatDoorV10
import Derived.Test.YtcedefabmelogaaGreatDoorV12
namespace Go.Proofs.YtcedefabmelogaaGreatDoor.PFnAllowed
open Go.RowKit Go.Proofs.YtcedefabmelogaaGreatDoorW.PrintWords Go.Proofs.YtcedefabmelogaaGreatDoorW.PrintLast Go.Proofs.YtcedefabmelogaaGreatDoorW.PrintMore
attribute [local go_sem] max2_int min2_int max_two min_two max_three min_three max_four min_four   -- for this text's walks alone
set_option linter.unusedVariables false
set_option linter.unusedSimpArgs false
def spec_Conflict.f (k : Nat) (a0_0 : ByteArray) (a0_1 : ByteArray) (l0_2 : List (S52)) (a1_0 : ByteArray) (a1_1 : ByteArray) (l1_2 : List (S52)) : Option (Bool) := (spec_ByMethods.f k a0_0 a1_0).bind fun t172 => ((spec_ByPaths.f k a0_0 a0_1 l0_2 a1_0 a1_1 l1_2).bind fun t173 => ((spec_Combine.f k t172 t173).bind fun t174 => (if a0_1.toList = a1_1.toList then (if t174.toList = ([101, 113, 117, 105, 118, 97, 108, 101, 110, 116] : List UInt8) then (some true) else (some (t174.toList == ([111, 118, 101, 114, 108, 97, 112, 115] : List UInt8)))) else (some false))))
theorem spec_Conflict.mono : ∀ a0 a1 a2 a3 a4 a5 k, LeO (spec_Conflict.f k a0 a1 a2 a3 a4 a5) (spec_Conflict.f (k + 1) a0 a1 a2 a3 a4 a5) := by
  intro a0 a1 a2 a3 a4 a5 k
  unfold spec_Conflict.f
  repeat' first
      | (with_reducible exact spec_ByMethods.mono _ _ _)
      | (with_reducible exact spec_ByPaths.mono _ _ _ _ _ _ _)
      | (with_reducible exact spec_Combine.mono _ _ _)
      | (with_reducible exact LeO.refl _)
      | (with_reducible exact LeO.none _)
      | (with_reducible refine LeO.ite ?_ ?_)
      | (with_reducible refine LeO.bind ?_ (fun _ => ?_))
      | exact spec_ByMethods.mono _ _ _
      | exact spec_ByPaths.mono _ _ _ _ _ _ _
      | exact spec_Combine.mono _ _ _
      | exact LeO.none _
      | refine LeO.ite ?_ ?_
      | refine LeO.bind ?_ (fun _ => ?_)
def spec_Conflict.T1 : Bool × List (List Nat × List Nat) := (true, [([], []), ([0], [0]), ([], []), ([2], [2]), ([1, 3], [1, 3]), ([], []), ([], []), ([5, 6, 4], [5, 6]), ([4, 7, 7], [4, 7]), ([8, 8, 0, 1, 2, 3, 4, 5, 6, 7, 8], [8])])
def spec_Conflict.B1 : List Nat := [0, 1, 0, 4, 15, 0, 0, 127, 255, 511]
theorem spec_Conflict.tab1 : rtab .any (opsOf Tryz.f18 1) = spec_Conflict.T1 := by kernel_rfl
theorem spec_Conflict.bits1 : waitsOk spec_Conflict.T1.2 spec_Conflict.B1 = true := by kernel_rfl
set_option maxHeartbeats 8000000 in
set_option maxRecDepth 100000 in
theorem spec_Conflict.calls (k : Nat) (a0_0 : ByteArray) (a0_1 : ByteArray) (A0_2 : Option Addr) (c0_2 : Nat) (l0_2 : List (S52)) (a1_0 : ByteArray) (a1_1 : ByteArray) (A1_2 : Option Addr) (c1_2 : Nat) (l1_2 : List (S52)) (r : Bool) (w : World) (hr0_2 : Kd.C k52 w A0_2 l0_2.length l0_2) (hc0_2 : l0_2.length ≤ c0_2) (hr1_2 : Kd.C k52 w A1_2 l1_2.length l1_2) (hc1_2 : l1_2.length ≤ c1_2) (h : spec_Conflict.f k a0_0 a0_1 l0_2 a1_0 a1_1 l1_2 = some r) :
    Calls Tryz.prog 18 #[.agg #[.string a0_0, .string a0_1, .slice A0_2 l0_2.length c0_2], .agg #[.string a1_0, .string a1_1, .slice A1_2 l1_2.length c1_2]] w fun e w' => e = .returned (.bool r) ∧ Below w.heap.size w w' := by
  have hu35 := Tryz.underlying35
  have HR0_2 := Aside0.mk hr0_2
  have HC0_2 := Aside0.mk hc0_2
  clear hr0_2 hc0_2
  have HR1_2 := Aside0.mk hr1_2
  have HC1_2 := Aside0.mk hc1_2
  clear hr1_2 hc1_2
  have HB := Aside0.mk (Below.refl w.heap.size w)
  have H : ((spec_ByMethods.f k a0_0 a1_0).bind fun t172 => ((spec_ByPaths.f k a0_0 a0_1 l0_2 a1_0 a1_1 l1_2).bind fun t173 => ((spec_Combine.f k t172 t173).bind fun t174 => (if a0_1.toList = a1_1.toList then (if t174.toList = ([101, 113, 117, 105, 118, 97, 108, 101, 110, 116] : List UInt8) then (some true) else (some (t174.toList == ([111, 118, 101, 114, 108, 97, 112, 115] : List UInt8)))) else (some false))))) = some r := h
  clear h
  replace H := Option.bind_eq_some_iff.mp H
  obtain ⟨t172, A30, H⟩ := H
  replace H : ((spec_ByPaths.f k a0_0 a0_1 l0_2 a1_0 a1_1 l1_2).bind fun t173 => ((spec_Combine.f k t172 t173).bind fun t174 => (if a0_1.toList = a1_1.toList then (if t174.toList = ([101, 113, 117, 105, 118, 97, 108, 101, 110, 116] : List UInt8) then (some true) else (some (t174.toList == ([111, 118, 101, 114, 108, 97, 112, 115] : List UInt8)))) else (some false)))) = some r := H
  have A3 := Aside0.mk A30
  clear A30
  replace H := Option.bind_eq_some_iff.mp H
  obtain ⟨t173, A40, H⟩ := H
  replace H : ((spec_Combine.f k t172 t173).bind fun t174 => (if a0_1.toList = a1_1.toList then (if t174.toList = ([101, 113, 117, 105, 118, 97, 108, 101, 110, 116] : List UInt8) then (some true) else (some (t174.toList == ([111, 118, 101, 114, 108, 97, 112, 115] : List UInt8)))) else (some false))) = some r := H
  have A4 := Aside0.mk A40
  clear A40
  replace H := Option.bind_eq_some_iff.mp H
  obtain ⟨t174, A50, H⟩ := H
  replace H : (if a0_1.toList = a1_1.toList then (if t174.toList = ([101, 113, 117, 105, 118, 97, 108, 101, 110, 116] : List UInt8) then (some true) else (some (t174.toList == ([111, 118, 101, 114, 108, 97, 112, 115] : List UInt8)))) else (some false)) = some r := H
  have A5 := Aside0.mk A50
  clear A50
  by_cases c6 : a0_1.toList = a1_1.toList
  · rw [if_pos c6] at H
    have c6b0 : (a0_1.toList == a1_1.toList) = true := beq_iff_eq.mpr c6
    have c6b1 : (a0_1.toList != a1_1.toList) = false := bne_eq_false_iff_eq.mpr c6
    clear c6
    by_cases c7 : t174.toList = ([101, 113, 117, 105, 118, 97, 108, 101, 110, 116] : List UInt8)
    · rw [if_pos c7] at H
      have c7b0 : (t174.toList == ([101, 113, 117, 105, 118, 97, 108, 101, 110, 116] : List UInt8)) = true := beq_iff_eq.mpr c7
      have c7b1 : (t174.toList != ([101, 113, 117, 105, 118, 97, 108, 101, 110, 116] : List UInt8)) = false := bne_eq_false_iff_eq.mpr c7
      clear c7
      obtain rfl := Option.some.inj H
      go_enter Tryz.func18, Tryz.ntmps18
      try go_wp2_with (first | ((with_reducible refine gate_dst (N := 2) rfl ?_); refine box_event ?hg (N := 2) ?hd (cs := #[.string a0_0, .string a0_1, .slice A0_2 l0_2.length c0_2]) (t := 35) ?hr ?_; (case hd => rfl); (case hg => rfl); (case hr => first | (go_simp; done) | (go_simp; rfl)); intro gb170 hg w8 hbox hb; have n0_ := Aside0.mk (below_step (by repeat (first | (with_reducible first | exact HB.out | apply below_alloc | apply pw_below_drewN | apply below_drew1) | exact HB.out)) hb); have n1_ := Aside0.mk (hbox); have n2_ := Aside0.mk ((by rw [hg]; exact (below_size (by repeat (first | (with_reducible first | exact HB.out | apply below_alloc | apply pw_below_drewN | apply below_drew1) | exact HB.out))) : w.heap.size ≤ gb170)); have n3_ := Aside0.mk ((by rw [hg]; exact (below_size (by repeat (first | (with_reducible first | exact HB.out | apply below_alloc | apply pw_below_drewN | apply below_drew1) | exact HB.out))) : w.heap.size ≤ gb170)); clear HB; have HB := n0_; have BK170 := n1_; have GW170 := n2_; have GE170 := n3_; clear n0_ n1_ n2_ n3_; clear hb hbox hg) | ((with_reducible refine gate_dst (N := 3) rfl ?_); refine box_event ?hg (N := 3) ?hd (cs := #[.string a1_0, .string a1_1, .slice A1_2 l1_2.length c1_2]) (t := 35) ?hr ?_; (case hd => rfl); (case hg => rfl); (case hr => first | (go_simp; done) | (go_simp; rfl)); intro gb171 hg w9 hbox hb; have n0_ := Aside0.mk (blk_below (g := gb170) (o := .cells #[.string a0_0, .string a0_1, .slice A0_2 l0_2.length c0_2] 35 (0, 0)) (by (with_reducible repeat (first | refine blk_drewN ?_ _ | refine blk_drew ?_ | refine blk_alloc ?_ _)); exact BK170.out) hb); have n1_ := Aside0.mk (below_step (by repeat (first | (with_reducible first | exact HB.out | apply below_alloc | apply pw_below_drewN | apply below_drew1 | refine below_set ?_ GE170.out) | exact HB.out)) hb); have n2_ := Aside0.mk (hbox); have n3_ := Aside0.mk ((by rw [hg]; exact (below_size (by repeat (first | (with_reducible first | exact HB.out | apply below_alloc | apply pw_below_drewN | apply below_drew1 | refine below_set ?_ GE170.out) | exact HB.out))) : w.heap.size ≤ gb171)); have n4_ := Aside0.mk ((by rw [hg]; exact (below_size (by repeat (first | (with_reducible first | exact HB.out | apply below_alloc | apply pw_below_drewN | apply below_drew1 | refine below_set ?_ GE170.out) | exact HB.out))) : w.heap.size ≤ gb171)); have n5_ := Aside0.mk ((by rw [hg]; exact Nat.ne_of_lt (blk_lt (g := gb170) (o := .cells #[.string a0_0, .string a0_1, .slice A0_2 l0_2.length c0_2] 35 (0, 0)) (by (with_reducible repeat (first | refine blk_drewN ?_ _ | refine blk_drew ?_ | refine blk_alloc ?_ _)); exact BK170.out)) : gb170 ≠ gb171)); have n6_ := Aside0.mk ((by rw [hg]; exact Nat.ne_of_gt (blk_lt (g := gb170) (o := .cells #[.string a0_0, .string a0_1, .slice A0_2 l0_2.length c0_2] 35 (0, 0)) (by (with_reducible repeat (first | refine blk_drewN ?_ _ | refine blk_drew ?_ | refine blk_alloc ?_ _)); exact BK170.out)) : gb171 ≠ gb170)); clear BK170; clear HB; have BK170 := n0_; have HB := n1_; have BK171 := n2_; have GW171 := n3_; have GE171 := n4_; have NB170_171 := n5_; have NB171_170 := n6_; clear n0_ n1_ n2_ n3_ n4_ n5_ n6_; clear hb hbox hg))
      have n0_ := Aside0.mk (blk_drew BK170.out)
      have n1_ := Aside0.mk (blk_drew BK171.out)
      have n2_ := Aside0.mk (below_drew1 HB.out)
      clear BK170
      clear BK171
      clear HB
      have BK170 := n0_
      have BK171 := n1_
      have HB := n2_
      clear n0_ n1_ n2_
      refine start_ (n := 10) (S := fun w' => w'.cell? ⟨gb170, 0, none⟩ = some (.string a0_0) ∧ w'.cell? ⟨gb170, 1, none⟩ = some (.string a0_1) ∧ w'.cell? ⟨gb170, 2, none⟩ = some (.slice A0_2 l0_2.length c0_2) ∧ w'.cell? ⟨gb171, 0, none⟩ = some (.string a1_0) ∧ w'.cell? ⟨gb171, 1, none⟩ = some (.string a1_1) ∧ w'.cell? ⟨gb171, 2, none⟩ = some (.slice A1_2 l1_2.length c1_2)) (ds := []) #[false, false, false, false, false, false, false, false, false, false] (by kernel_rfl) rfl rfl ⟨(blk_cell BK170.out 0).trans rfl, (blk_cell BK170.out 1).trans rfl, (blk_cell BK170.out 2).trans rfl, (blk_cell BK171.out 0).trans rfl, (blk_cell BK171.out 1).trans rfl, (blk_cell BK171.out 2).trans rfl⟩ (fun hHeld => ?_); refine with_tabW spec_Conflict.tab1 spec_Conflict.bits1 (fun HT_ HW_ => ?_)
      generalize w9.drew = w10 at BK170 BK171 HB hHeld ⊢
      refine pure_ (i := 0) (N := some 6) (v := ?_) (a' := ?_) #[true, false, false, false, false, false, false, false, false, false] rfl rfl (any_of HT_.out (by kernel_rfl)) (fun _ _ _ h => h) (Or.inl ⟨by rfl, ?_⟩) ?_ ?_
      rotate_left
      · intro w'
        go_simp
        with_reducible rfl
      rotate_left
      · simp only [Act.put, List.setIfInBounds_toArray, List.set_cons_zero, List.set_cons_succ, i64_w, i32_w]
        rfl
      refine pure_ (i := 2) (N := some 8) (v := ?_) (a' := ?_) #[true, false, true, false, false, false, false, false, false, false] rfl rfl (any_of HT_.out (by kernel_rfl)) (fun _ _ _ h => h) (Or.inl ⟨by rfl, ?_⟩) ?_ ?_
      rotate_left
      · intro w'
        go_simp
        with_reducible rfl
      rotate_left
      · simp only [Act.put, List.setIfInBounds_toArray, List.set_cons_zero, List.set_cons_succ, i64_w, i32_w]
        rfl
      refine take_ (i := 1) (N := some 7) (v := ?_) (a' := ?_) #[true, true, true, false, false, false, false, false, false, false] rfl rfl (take_ofW HT_.out HW_.out (by kernel_rfl)) (fun _ _ _ h => h) (Or.inl ⟨by rfl, ?_⟩) hHeld ?_ ?_
      rotate_left
      · rintro w' ⟨s0, s1, s2, s3, s4, s5⟩
        go_simp
        with_reducible rfl
      rotate_left
      · simp only [Act.put, List.setIfInBounds_toArray, List.set_cons_zero, List.set_cons_succ, i64_w, i32_w]
        rfl
      refine take_ (i := 3) (N := some 9) (v := ?_) (a' := ?_) #[true, true, true, true, false, false, false, false, false, false] rfl rfl (take_ofW HT_.out HW_.out (by kernel_rfl)) (fun _ _ _ h => h) (Or.inl ⟨by rfl, ?_⟩) hHeld ?_ ?_
      rotate_left
      · rintro w' ⟨s0, s1, s2, s3, s4, s5⟩
        go_simp
        with_reducible rfl
      rotate_left
      · simp only [Act.put, List.setIfInBounds_toArray, List.set_cons_zero, List.set_cons_succ, i64_w, i32_w]
        rfl
      refine take_ (i := 5) (N := some 11) (v := ?_) (a' := ?_) #[true, true, true, true, false, true, false, false, false, false] rfl rfl (take_ofW HT_.out HW_.out (by kernel_rfl)) (fun _ _ _ h => h) (Or.inl ⟨by rfl, ?_⟩) hHeld ?_ ?_
      rotate_left
      · rintro w' ⟨s0, s1, s2, s3, s4, s5⟩
        go_simp
        with_reducible rfl
      rotate_left
      · simp only [Act.put, List.setIfInBounds_toArray, List.set_cons_zero, List.set_cons_succ, i64_w, i32_w]
        rfl
      refine take_ (i := 6) (N := some 12) (v := ?_) (a' := ?_) #[true, true, true, true, false, true, true, false, false, false] rfl rfl (take_ofW HT_.out HW_.out (by kernel_rfl)) (fun _ _ _ h => h) (Or.inl ⟨by rfl, ?_⟩) hHeld ?_ ?_
      rotate_left
      · rintro w' ⟨s0, s1, s2, s3, s4, s5⟩
        go_simp
        with_reducible rfl
      rotate_left
      · simp only [Act.put, List.setIfInBounds_toArray, List.set_cons_zero, List.set_cons_succ, i64_w, i32_w]
        rfl
      refine one_ (i := 4) (N := some 10) #[true, true, true, true, true, true, true, false, false, false] rfl rfl (one_of HT_.out (by kernel_rfl)) (by decide) (fun K hK => ?_)
      refine goes_ Tryz.func27 (by kernel_rfl) rfl #[.string a0_0, .string a1_0] (by rfl) rfl rfl (by (try simp only [List.map_toArray, List.map_cons, List.map_nil]); first | done | rfl | (simp only [List.length_drop, List.length_take]; rfl)) ?_
      with_reducible refine (spec_ByMethods.calls k a0_0 a1_0 t172 _ A3.out).mono ?_
      rintro e w' ⟨rfl, ⟨nd, rfl⟩⟩
      refine ⟨_, rfl, ?_⟩
      refine hK.out _ _ ⟨(blk_cell BK170.out 0).trans rfl, (blk_cell BK170.out 1).trans rfl, (blk_cell BK170.out 2).trans rfl, (blk_cell BK171.out 0).trans rfl, (blk_cell BK171.out 1).trans rfl, (blk_cell BK171.out 2).trans rfl⟩ (fun hHeld => ?_)
      clear hK K
      refine norm_ (a' := ?_) ?_ ?_
      rotate_left
      · show Act.put _ (some 10) _ = _
        simp only [Act.put, List.setIfInBounds_toArray, List.set_cons_zero, List.set_cons_succ, i64_w, i32_w]
        rfl
      refine one_ (i := 7) (N := some 13) #[true, true, true, true, true, true, true, true, false, false] rfl rfl (one_of HT_.out (by kernel_rfl)) (by decide) (fun K hK => ?_)
      refine goes_ Tryz.func28 (by kernel_rfl) rfl #[.agg #[.string a0_0, .string a0_1, .slice A0_2 l0_2.length c0_2], .agg #[.string a1_0, .string a1_1, .slice A1_2 l1_2.length c1_2]] (by rfl) rfl rfl (by (try simp only [List.map_toArray, List.map_cons, List.map_nil]); first | done | rfl | (simp only [List.length_drop, List.length_take]; rfl)) ?_
      with_reducible refine (spec_ByPaths.calls k a0_0 a0_1 _ _ l0_2 a1_0 a1_1 _ _ l1_2 t173 _ ?side1 ?side2 ?side3 ?side4 A4.out).mono ?_
      (case side1 => repeat (first | exact (Kd.C_below HR0_2.out (by repeat (first | (with_reducible first | exact HB.out | apply below_alloc | apply pw_below_drewN | apply below_drew1 | refine below_set ?_ GE170.out | refine below_set ?_ GE171.out) | exact HB.out))) | (with_reducible refine Kd.C_alloc ?_ _) | (with_reducible refine Kd.C_drewN ?_ _) | (with_reducible refine Kd.C_drew ?_)))
      (case side2 => exact HC0_2.out)
      (case side3 => repeat (first | exact (Kd.C_below HR1_2.out (by repeat (first | (with_reducible first | exact HB.out | apply below_alloc | apply pw_below_drewN | apply below_drew1 | refine below_set ?_ GE170.out | refine below_set ?_ GE171.out) | exact HB.out))) | (with_reducible refine Kd.C_alloc ?_ _) | (with_reducible refine Kd.C_drewN ?_ _) | (with_reducible refine Kd.C_drew ?_)))
      (case side4 => exact HC1_2.out)
      rintro e w11 ⟨rfl, hb⟩
      refine ⟨_, rfl, ?_⟩
      have n0_ := Aside0.mk (blk_below (g := gb170) (o := .cells #[.string a0_0, .string a0_1, .slice A0_2 l0_2.length c0_2] 35 (0, 0)) (by (with_reducible repeat (first | refine blk_drewN ?_ _ | refine blk_drew ?_ | refine blk_alloc ?_ _)); exact BK170.out) hb)
      have n1_ := Aside0.mk (blk_below (g := gb171) (o := .cells #[.string a1_0, .string a1_1, .slice A1_2 l1_2.length c1_2] 35 (0, 0)) (by (with_reducible repeat (first | refine blk_drewN ?_ _ | refine blk_drew ?_ | refine blk_alloc ?_ _)); exact BK171.out) hb)
      have n2_ := Aside0.mk (below_step (by repeat (first | (with_reducible first | exact HB.out | apply below_alloc | apply pw_below_drewN | apply below_drew1 | refine below_set ?_ GE170.out | refine below_set ?_ GE171.out) | exact HB.out)) hb)
      clear BK170
      clear BK171
      clear HB
      have BK170 := n0_
      have BK171 := n1_
      have HB := n2_
      clear n0_ n1_ n2_
      (try clear hb)
      (try clear hb2)
      (try clear hk)
      (try clear hi)
      refine hK.out _ _ ⟨(blk_cell BK170.out 0).trans rfl, (blk_cell BK170.out 1).trans rfl, (blk_cell BK170.out 2).trans rfl, (blk_cell BK171.out 0).trans rfl, (blk_cell BK171.out 1).trans rfl, (blk_cell BK171.out 2).trans rfl⟩ (fun hHeld => ?_)
      clear hK K
      refine norm_ (a' := ?_) ?_ ?_
      rotate_left
      · show Act.put _ (some 13) _ = _
        simp only [Act.put, List.setIfInBounds_toArray, List.set_cons_zero, List.set_cons_succ, i64_w, i32_w]
        rfl
      refine one_ (i := 8) (N := some 14) #[true, true, true, true, true, true, true, true, true, false] rfl rfl (one_of HT_.out (by kernel_rfl)) (by decide) (fun K hK => ?_)
      refine goes_ Tryz.func26 (by kernel_rfl) rfl #[.string t172, .string t173] (by rfl) rfl rfl (by (try simp only [List.map_toArray, List.map_cons, List.map_nil]); first | done | rfl | (simp only [List.length_drop, List.length_take]; rfl)) ?_
      with_reducible refine (spec_Combine.calls k t172 t173 t174 _ A5.out).mono ?_
      rintro e w' ⟨rfl, ⟨nd, rfl⟩⟩
      refine ⟨_, rfl, ?_⟩
      refine hK.out _ _ ⟨(blk_cell BK170.out 0).trans rfl, (blk_cell BK170.out 1).trans rfl, (blk_cell BK170.out 2).trans rfl, (blk_cell BK171.out 0).trans rfl, (blk_cell BK171.out 1).trans rfl, (blk_cell BK171.out 2).trans rfl⟩ (fun hHeld => ?_)
      clear hK K
      refine norm_ (a' := ?_) ?_ ?_
      rotate_left
      · show Act.put _ (some 14) _ = _
        simp only [Act.put, List.setIfInBounds_toArray, List.set_cons_zero, List.set_cons_succ, i64_w, i32_w]
        rfl
      refine pure_ (i := 9) (N := some 5) (v := ?_) (a' := ?_) #[true, true, true, true, true, true, true, true, true, true] rfl rfl (any_of HT_.out (by kernel_rfl)) (fun _ _ _ h => h) (Or.inl ⟨by rfl, ?_⟩) ?_ ?_
      rotate_left
      · intro w'
        go_simp
        with_reducible rfl
      rotate_left
      · simp only [Act.put, List.setIfInBounds_toArray, List.set_cons_zero, List.set_cons_succ, i64_w, i32_w]
        rfl
      refine done_ (done_of HT_.out (by kernel_rfl)) ?_
      have hnb12 := NB170_171.out
      have hnc12 := NB171_170.out
      have hcz13_0 : w11.cell? ⟨gb170, 0, none⟩ = some (.string a0_0) := (blk_cell BK170.out 0).trans rfl
      have hcz13_1 : w11.cell? ⟨gb170, 1, none⟩ = some (.string a0_1) := (blk_cell BK170.out 1).trans rfl
      have hcz13_2 : w11.cell? ⟨gb170, 2, none⟩ = some (.slice A0_2 l0_2.length c0_2) := (blk_cell BK170.out 2).trans rfl
      have hfz13_0 := blk_frozen BK170.out 0
      have hfz13_1 := blk_frozen BK170.out 1
      have hfz13_2 := blk_frozen BK170.out 2
      have hcz14_0 : w11.cell? ⟨gb171, 0, none⟩ = some (.string a1_0) := (blk_cell BK171.out 0).trans rfl
      have hcz14_1 : w11.cell? ⟨gb171, 1, none⟩ = some (.string a1_1) := (blk_cell BK171.out 1).trans rfl
      have hcz14_2 : w11.cell? ⟨gb171, 2, none⟩ = some (.slice A1_2 l1_2.length c1_2) := (blk_cell BK171.out 2).trans rfl
      have hfz14_0 := blk_frozen BK171.out 0
      have hfz14_1 := blk_frozen BK171.out 1
      have hfz14_2 := blk_frozen BK171.out 2
      try go_wp2
      go_ret
      exact ⟨by first | rfl | (simp [errW_none, errW_some] <;> rfl) | (simp [*, errW_none, errW_some] <;> rfl), by repeat (first | (with_reducible first | exact HB.out | apply below_alloc | apply pw_below_drewN | apply below_drew1 | refine below_set ?_ GE170.out | refine below_set ?_ GE171.out) | exact HB.out)⟩
    · rw [if_neg c7] at H
      have c7b0 : (t174.toList == ([101, 113, 117, 105, 118, 97, 108, 101, 110, 116] : List UInt8)) = false := beq_eq_false_iff_ne.mpr c7
      have c7b1 : (t174.toList != ([101, 113, 117, 105, 118, 97, 108, 101, 110, 116] : List UInt8)) = true := bne_iff_ne.mpr c7
      obtain rfl := Option.some.inj H
      go_enter Tryz.func18, Tryz.ntmps18
      try go_wp2_with (first | ((with_reducible refine gate_dst (N := 2) rfl ?_); refine box_event ?hg (N := 2) ?hd (cs := #[.string a0_0, .string a0_1, .slice A0_2 l0_2.length c0_2]) (t := 35) ?hr ?_; (case hd => rfl); (case hg => rfl); (case hr => first | (go_simp; done) | (go_simp; rfl)); intro gb170 hg w15 hbox hb; have n0_ := Aside0.mk (below_step (by repeat (first | (with_reducible first | exact HB.out | apply below_alloc | apply pw_below_drewN | apply below_drew1) | exact HB.out)) hb); have n1_ := Aside0.mk (hbox); have n2_ := Aside0.mk ((by rw [hg]; exact (below_size (by repeat (first | (with_reducible first | exact HB.out | apply below_alloc | apply pw_below_drewN | apply below_drew1) | exact HB.out))) : w.heap.size ≤ gb170)); have n3_ := Aside0.mk ((by rw [hg]; exact (below_size (by repeat (first | (with_reducible first | exact HB.out | apply below_alloc | apply pw_below_drewN | apply below_drew1) | exact HB.out))) : w.heap.size ≤ gb170)); clear HB; have HB := n0_; have BK170 := n1_; have GW170 := n2_; have GE170 := n3_; clear n0_ n1_ n2_ n3_; clear hb hbox hg) | ((with_reducible refine gate_dst (N := 3) rfl ?_); refine box_event ?hg (N := 3) ?hd (cs := #[.string a1_0, .string a1_1, .slice A1_2 l1_2.length c1_2]) (t := 35) ?hr ?_; (case hd => rfl); (case hg => rfl); (case hr => first | (go_simp; done) | (go_simp; rfl)); intro gb171 hg w16 hbox hb; have n0_ := Aside0.mk (blk_below (g := gb170) (o := .cells #[.string a0_0, .string a0_1, .slice A0_2 l0_2.length c0_2] 35 (0, 0)) (by (with_reducible repeat (first | refine blk_drewN ?_ _ | refine blk_drew ?_ | refine blk_alloc ?_ _)); exact BK170.out) hb); have n1_ := Aside0.mk (below_step (by repeat (first | (with_reducible first | exact HB.out | apply below_alloc | apply pw_below_drewN | apply below_drew1 | refine below_set ?_ GE170.out) | exact HB.out)) hb); have n2_ := Aside0.mk (hbox); have n3_ := Aside0.mk ((by rw [hg]; exact (below_size (by repeat (first | (with_reducible first | exact HB.out | apply below_alloc | apply pw_below_drewN | apply below_drew1 | refine below_set ?_ GE170.out) | exact HB.out))) : w.heap.size ≤ gb171)); have n4_ := Aside0.mk ((by rw [hg]; exact (below_size (by repeat (first | (with_reducible first | exact HB.out | apply below_alloc | apply pw_below_drewN | apply below_drew1 | refine below_set ?_ GE170.out) | exact HB.out))) : w.heap.size ≤ gb171)); have n5_ := Aside0.mk ((by rw [hg]; exact Nat.ne_of_lt (blk_lt (g := gb170) (o := .cells #[.string a0_0, .string a0_1, .slice A0_2 l0_2.length c0_2] 35 (0, 0)) (by (with_reducible repeat (first | refine blk_drewN ?_ _ | refine blk_drew ?_ | refine blk_alloc ?_ _)); exact BK170.out)) : gb170 ≠ gb171)); have n6_ := Aside0.mk ((by rw [hg]; exact Nat.ne_of_gt (blk_lt (g := gb170) (o := .cells #[.string a0_0, .string a0_1, .slice A0_2 l0_2.length c0_2] 35 (0, 0)) (by (with_reducible repeat (first | refine blk_drewN ?_ _ | refine blk_drew ?_ | refine blk_alloc ?_ _)); exact BK170.out)) : gb171 ≠ gb170)); clear BK170; clear HB; have BK170 := n0_; have HB := n1_; have BK171 := n2_; have GW171 := n3_; have GE171 := n4_; have NB170_171 := n5_; have NB171_170 := n6_; clear n0_ n1_ n2_ n3_ n4_ n5_ n6_; clear hb hbox hg))
      have n0_ := Aside0.mk (blk_drew BK170.out)
      have n1_ := Aside0.mk (blk_drew BK171.out)
      have n2_ := Aside0.mk (below_drew1 HB.out)
      clear BK170
      clear BK171
      clear HB
      have BK170 := n0_
      have BK171 := n1_
      have HB := n2_
      clear n0_ n1_ n2_
      refine start_ (n := 10) (S := fun w' => w'.cell? ⟨gb170, 0, none⟩ = some (.string a0_0) ∧ w'.cell? ⟨gb170, 1, none⟩ = some (.string a0_1) ∧ w'.cell? ⟨gb170, 2, none⟩ = some (.slice A0_2 l0_2.length c0_2) ∧ w'.cell? ⟨gb171, 0, none⟩ = some (.string a1_0) ∧ w'.cell? ⟨gb171, 1, none⟩ = some (.string a1_1) ∧ w'.cell? ⟨gb171, 2, none⟩ = some (.slice A1_2 l1_2.length c1_2)) (ds := []) #[false, false, false, false, false, false, false, false, false, false] (by kernel_rfl) rfl rfl ⟨(blk_cell BK170.out 0).trans rfl, (blk_cell BK170.out 1).trans rfl, (blk_cell BK170.out 2).trans rfl, (blk_cell BK171.out 0).trans rfl, (blk_cell BK171.out 1).trans rfl, (blk_cell BK171.out 2).trans rfl⟩ (fun hHeld => ?_); refine with_tabW spec_Conflict.tab1 spec_Conflict.bits1 (fun HT_ HW_ => ?_)
      generalize w16.drew = w17 at BK170 BK171 HB hHeld ⊢
      refine pure_ (i := 0) (N := some 6) (v := ?_) (a' := ?_) #[true, false, false, false, false, false, false, false, false, false] rfl rfl (any_of HT_.out (by kernel_rfl)) (fun _ _ _ h => h) (Or.inl ⟨by rfl, ?_⟩) ?_ ?_
      rotate_left
      · intro w'
        go_simp
        with_reducible rfl
      rotate_left
      · simp only [Act.put, List.setIfInBounds_toArray, List.set_cons_zero, List.set_cons_succ, i64_w, i32_w]
        rfl
      refine pure_ (i := 2) (N := some 8) (v := ?_) (a' := ?_) #[true, false, true, false, false, false, false, false, false, false] rfl rfl (any_of HT_.out (by kernel_rfl)) (fun _ _ _ h => h) (Or.inl ⟨by rfl, ?_⟩) ?_ ?_
      rotate_left
      · intro w'
        go_simp
        with_reducible rfl
      rotate_left
      · simp only [Act.put, List.setIfInBounds_toArray, List.set_cons_zero, List.set_cons_succ, i64_w, i32_w]
        rfl
      refine take_ (i := 1) (N := some 7) (v := ?_) (a' := ?_) #[true, true, true, false, false, false, false, false, false, false] rfl rfl (take_ofW HT_.out HW_.out (by kernel_rfl)) (fun _ _ _ h => h) (Or.inl ⟨by rfl, ?_⟩) hHeld ?_ ?_
      rotate_left
      · rintro w' ⟨s0, s1, s2, s3, s4, s5⟩
        go_simp
        with_reducible rfl
      rotate_left
      · simp only [Act.put, List.setIfInBounds_toArray, List.set_cons_zero, List.set_cons_succ, i64_w, i32_w]
        rfl
      refine take_ (i := 3) (N := some 9) (v := ?_) (a' := ?_) #[true, true, true, true, false, false, false, false, false, false] rfl rfl (take_ofW HT_.out HW_.out (by kernel_rfl)) (fun _ _ _ h => h) (Or.inl ⟨by rfl, ?_⟩) hHeld ?_ ?_
      rotate_left
      · rintro w' ⟨s0, s1, s2, s3, s4, s5⟩
        go_simp
        with_reducible rfl
      rotate_left
      · simp only [Act.put, List.setIfInBounds_toArray, List.set_cons_zero, List.set_cons_succ, i64_w, i32_w]
        rfl
      refine take_ (i := 5) (N := some 11) (v := ?_) (a' := ?_) #[true, true, true, true, false, true, false, false, false, false] rfl rfl (take_ofW HT_.out HW_.out (by kernel_rfl)) (fun _ _ _ h => h) (Or.inl ⟨by rfl, ?_⟩) hHeld ?_ ?_
      rotate_left
      · rintro w' ⟨s0, s1, s2, s3, s4, s5⟩
        go_simp
        with_reducible rfl
      rotate_left
      · simp only [Act.put, List.setIfInBounds_toArray, List.set_cons_zero, List.set_cons_succ, i64_w, i32_w]
        rfl
      refine take_ (i := 6) (N := some 12) (v := ?_) (a' := ?_) #[true, true, true, true, false, true, true, false, false, false] rfl rfl (take_ofW HT_.out HW_.out (by kernel_rfl)) (fun _ _ _ h => h) (Or.inl ⟨by rfl, ?_⟩) hHeld ?_ ?_
      rotate_left
      · rintro w' ⟨s0, s1, s2, s3, s4, s5⟩
        go_simp
        with_reducible rfl
      rotate_left
      · simp only [Act.put, List.setIfInBounds_toArray, List.set_cons_zero, List.set_cons_succ, i64_w, i32_w]
        rfl
      refine one_ (i := 4) (N := some 10) #[true, true, true, true, true, true, true, false, false, false] rfl rfl (one_of HT_.out (by kernel_rfl)) (by decide) (fun K hK => ?_)
      refine goes_ Tryz.func27 (by kernel_rfl) rfl #[.string a0_0, .string a1_0] (by rfl) rfl rfl (by (try simp only [List.map_toArray, List.map_cons, List.map_nil]); first | done | rfl | (simp only [List.length_drop, List.length_take]; rfl)) ?_
      with_reducible refine (spec_ByMethods.calls k a0_0 a1_0 t172 _ A3.out).mono ?_
      rintro e w' ⟨rfl, ⟨nd, rfl⟩⟩
      refine ⟨_, rfl, ?_⟩
      refine hK.out _ _ ⟨(blk_cell BK170.out 0).trans rfl, (blk_cell BK170.out 1).trans rfl, (blk_cell BK170.out 2).trans rfl, (blk_cell BK171.out 0).trans rfl, (blk_cell BK171.out 1).trans rfl, (blk_cell BK171.out 2).trans rfl⟩ (fun hHeld => ?_)
      clear hK K
      refine norm_ (a' := ?_) ?_ ?_
      rotate_left
      · show Act.put _ (some 10) _ = _
        simp only [Act.put, List.setIfInBounds_toArray, List.set_cons_zero, List.set_cons_succ, i64_w, i32_w]
        rfl
      refine one_ (i := 7) (N := some 13) #[true, true, true, true, true, true, true, true, false, false] rfl rfl (one_of HT_.out (by kernel_rfl)) (by decide) (fun K hK => ?_)
      refine goes_ Tryz.func28 (by kernel_rfl) rfl #[.agg #[.string a0_0, .string a0_1, .slice A0_2 l0_2.length c0_2], .agg #[.string a1_0, .string a1_1, .slice A1_2 l1_2.length c1_2]] (by rfl) rfl rfl (by (try simp only [List.map_toArray, List.map_cons, List.map_nil]); first | done | rfl | (simp only [List.length_drop, List.length_take]; rfl)) ?_
      with_reducible refine (spec_ByPaths.calls k a0_0 a0_1 _ _ l0_2 a1_0 a1_1 _ _ l1_2 t173 _ ?side1 ?side2 ?side3 ?side4 A4.out).mono ?_
      (case side1 => repeat (first | exact (Kd.C_below HR0_2.out (by repeat (first | (with_reducible first | exact HB.out | apply below_alloc | apply pw_below_drewN | apply below_drew1 | refine below_set ?_ GE170.out | refine below_set ?_ GE171.out) | exact HB.out))) | (with_reducible refine Kd.C_alloc ?_ _) | (with_reducible refine Kd.C_drewN ?_ _) | (with_reducible refine Kd.C_drew ?_)))
      (case side2 => exact HC0_2.out)
      (case side3 => repeat (first | exact (Kd.C_below HR1_2.out (by repeat (first | (with_reducible first | exact HB.out | apply below_alloc | apply pw_below_drewN | apply below_drew1 | refine below_set ?_ GE170.out | refine below_set ?_ GE171.out) | exact HB.out))) | (with_reducible refine Kd.C_alloc ?_ _) | (with_reducible refine Kd.C_drewN ?_ _) | (with_reducible refine Kd.C_drew ?_)))
      (case side4 => exact HC1_2.out)
      rintro e w18 ⟨rfl, hb⟩
      refine ⟨_, rfl, ?_⟩
      have n0_ := Aside0.mk (blk_below (g := gb170) (o := .cells #[.string a0_0, .string a0_1, .slice A0_2 l0_2.length c0_2] 35 (0, 0)) (by (with_reducible repeat (first | refine blk_drewN ?_ _ | refine blk_drew ?_ | refine blk_alloc ?_ _)); exact BK170.out) hb)
      have n1_ := Aside0.mk (blk_below (g := gb171) (o := .cells #[.string a1_0, .string a1_1, .slice A1_2 l1_2.length c1_2] 35 (0, 0)) (by (with_reducible repeat (first | refine blk_drewN ?_ _ | refine blk_drew ?_ | refine blk_alloc ?_ _)); exact BK171.out) hb)
      have n2_ := Aside0.mk (below_step (by repeat (first | (with_reducible first | exact HB.out | apply below_alloc | apply pw_below_drewN | apply below_drew1 | refine below_set ?_ GE170.out | refine below_set ?_ GE171.out) | exact HB.out)) hb)
      clear BK170
      clear BK171
      clear HB
      have BK170 := n0_
      have BK171 := n1_
      have HB := n2_
      clear n0_ n1_ n2_
      (try clear hb)
      (try clear hb2)
      (try clear hk)
      (try clear hi)
      refine hK.out _ _ ⟨(blk_cell BK170.out 0).trans rfl, (blk_cell BK170.out 1).trans rfl, (blk_cell BK170.out 2).trans rfl, (blk_cell BK171.out 0).trans rfl, (blk_cell BK171.out 1).trans rfl, (blk_cell BK171.out 2).trans rfl⟩ (fun hHeld => ?_)
      clear hK K
      refine norm_ (a' := ?_) ?_ ?_
      rotate_left
      · show Act.put _ (some 13) _ = _
        simp only [Act.put, List.setIfInBounds_toArray, List.set_cons_zero, List.set_cons_succ, i64_w, i32_w]
        rfl
      refine one_ (i := 8) (N := some 14) #[true, true, true, true, true, true, true, true, true, false] rfl rfl (one_of HT_.out (by kernel_rfl)) (by decide) (fun K hK => ?_)
      refine goes_ Tryz.func26 (by kernel_rfl) rfl #[.string t172, .string t173] (by rfl) rfl rfl (by (try simp only [List.map_toArray, List.map_cons, List.map_nil]); first | done | rfl | (simp only [List.length_drop, List.length_take]; rfl)) ?_
      with_reducible refine (spec_Combine.calls k t172 t173 t174 _ A5.out).mono ?_
      rintro e w' ⟨rfl, ⟨nd, rfl⟩⟩
      refine ⟨_, rfl, ?_⟩
      refine hK.out _ _ ⟨(blk_cell BK170.out 0).trans rfl, (blk_cell BK170.out 1).trans rfl, (blk_cell BK170.out 2).trans rfl, (blk_cell BK171.out 0).trans rfl, (blk_cell BK171.out 1).trans rfl, (blk_cell BK171.out 2).trans rfl⟩ (fun hHeld => ?_)
      clear hK K
      refine norm_ (a' := ?_) ?_ ?_
      rotate_left
      · show Act.put _ (some 14) _ = _
        simp only [Act.put, List.setIfInBounds_toArray, List.set_cons_zero, List.set_cons_succ, i64_w, i32_w]
        rfl
      refine pure_ (i := 9) (N := some 5) (v := ?_) (a' := ?_) #[true, true, true, true, true, true, true, true, true, true] rfl rfl (any_of HT_.out (by kernel_rfl)) (fun _ _ _ h => h) (Or.inl ⟨by rfl, ?_⟩) ?_ ?_
      rotate_left
      · intro w'
        go_simp
        with_reducible rfl
      rotate_left
      · simp only [Act.put, List.setIfInBounds_toArray, List.set_cons_zero, List.set_cons_succ, i64_w, i32_w]
        rfl
      refine done_ (done_of HT_.out (by kernel_rfl)) ?_
      have hnb19 := NB170_171.out
      have hnc19 := NB171_170.out
      have hcz20_0 : w18.cell? ⟨gb170, 0, none⟩ = some (.string a0_0) := (blk_cell BK170.out 0).trans rfl
      have hcz20_1 : w18.cell? ⟨gb170, 1, none⟩ = some (.string a0_1) := (blk_cell BK170.out 1).trans rfl
      have hcz20_2 : w18.cell? ⟨gb170, 2, none⟩ = some (.slice A0_2 l0_2.length c0_2) := (blk_cell BK170.out 2).trans rfl
      have hfz20_0 := blk_frozen BK170.out 0
      have hfz20_1 := blk_frozen BK170.out 1
      have hfz20_2 := blk_frozen BK170.out 2
      have hcz21_0 : w18.cell? ⟨gb171, 0, none⟩ = some (.string a1_0) := (blk_cell BK171.out 0).trans rfl
      have hcz21_1 : w18.cell? ⟨gb171, 1, none⟩ = some (.string a1_1) := (blk_cell BK171.out 1).trans rfl
      have hcz21_2 : w18.cell? ⟨gb171, 2, none⟩ = some (.slice A1_2 l1_2.length c1_2) := (blk_cell BK171.out 2).trans rfl
      have hfz21_0 := blk_frozen BK171.out 0
      have hfz21_1 := blk_frozen BK171.out 1
      have hfz21_2 := blk_frozen BK171.out 2
      try go_wp2
      go_ret
      exact ⟨by first | rfl | (simp [errW_none, errW_some] <;> rfl) | (simp [*, errW_none, errW_some] <;> rfl), by repeat (first | (with_reducible first | exact HB.out | apply below_alloc | apply pw_below_drewN | apply below_drew1 | refine below_set ?_ GE170.out | refine below_set ?_ GE171.out) | exact HB.out)⟩
  · rw [if_neg c6] at H
    have c6b0 : (a0_1.toList == a1_1.toList) = false := beq_eq_false_iff_ne.mpr c6
    have c6b1 : (a0_1.toList != a1_1.toList) = true := bne_iff_ne.mpr c6
    obtain rfl := Option.some.inj H
    go_enter Tryz.func18, Tryz.ntmps18
    try go_wp2_with (first | ((with_reducible refine gate_dst (N := 2) rfl ?_); refine box_event ?hg (N := 2) ?hd (cs := #[.string a0_0, .string a0_1, .slice A0_2 l0_2.length c0_2]) (t := 35) ?hr ?_; (case hd => rfl); (case hg => rfl); (case hr => first | (go_simp; done) | (go_simp; rfl)); intro gb170 hg w22 hbox hb; have n0_ := Aside0.mk (below_step (by repeat (first | (with_reducible first | exact HB.out | apply below_alloc | apply pw_below_drewN | apply below_drew1) | exact HB.out)) hb); have n1_ := Aside0.mk (hbox); have n2_ := Aside0.mk ((by rw [hg]; exact (below_size (by repeat (first | (with_reducible first | exact HB.out | apply below_alloc | apply pw_below_drewN | apply below_drew1) | exact HB.out))) : w.heap.size ≤ gb170)); have n3_ := Aside0.mk ((by rw [hg]; exact (below_size (by repeat (first | (with_reducible first | exact HB.out | apply below_alloc | apply pw_below_drewN | apply below_drew1) | exact HB.out))) : w.heap.size ≤ gb170)); clear HB; have HB := n0_; have BK170 := n1_; have GW170 := n2_; have GE170 := n3_; clear n0_ n1_ n2_ n3_; clear hb hbox hg) | ((with_reducible refine gate_dst (N := 3) rfl ?_); refine box_event ?hg (N := 3) ?hd (cs := #[.string a1_0, .string a1_1, .slice A1_2 l1_2.length c1_2]) (t := 35) ?hr ?_; (case hd => rfl); (case hg => rfl); (case hr => first | (go_simp; done) | (go_simp; rfl)); intro gb171 hg w23 hbox hb; have n0_ := Aside0.mk (blk_below (g := gb170) (o := .cells #[.string a0_0, .string a0_1, .slice A0_2 l0_2.length c0_2] 35 (0, 0)) (by (with_reducible repeat (first | refine blk_drewN ?_ _ | refine blk_drew ?_ | refine blk_alloc ?_ _)); exact BK170.out) hb); have n1_ := Aside0.mk (below_step (by repeat (first | (with_reducible first | exact HB.out | apply below_alloc | apply pw_below_drewN | apply below_drew1 | refine below_set ?_ GE170.out) | exact HB.out)) hb); have n2_ := Aside0.mk (hbox); have n3_ := Aside0.mk ((by rw [hg]; exact (below_size (by repeat (first | (with_reducible first | exact HB.out | apply below_alloc | apply pw_below_drewN | apply below_drew1 | refine below_set ?_ GE170.out) | exact HB.out))) : w.heap.size ≤ gb171)); have n4_ := Aside0.mk ((by rw [hg]; exact (below_size (by repeat (first | (with_reducible first | exact HB.out | apply below_alloc | apply pw_below_drewN | apply below_drew1 | refine below_set ?_ GE170.out) | exact HB.out))) : w.heap.size ≤ gb171)); have n5_ := Aside0.mk ((by rw [hg]; exact Nat.ne_of_lt (blk_lt (g := gb170) (o := .cells #[.string a0_0, .string a0_1, .slice A0_2 l0_2.length c0_2] 35 (0, 0)) (by (with_reducible repeat (first | refine blk_drewN ?_ _ | refine blk_drew ?_ | refine blk_alloc ?_ _)); exact BK170.out)) : gb170 ≠ gb171)); have n6_ := Aside0.mk ((by rw [hg]; exact Nat.ne_of_gt (blk_lt (g := gb170) (o := .cells #[.string a0_0, .string a0_1, .slice A0_2 l0_2.length c0_2] 35 (0, 0)) (by (with_reducible repeat (first | refine blk_drewN ?_ _ | refine blk_drew ?_ | refine blk_alloc ?_ _)); exact BK170.out)) : gb171 ≠ gb170)); clear BK170; clear HB; have BK170 := n0_; have HB := n1_; have BK171 := n2_; have GW171 := n3_; have GE171 := n4_; have NB170_171 := n5_; have NB171_170 := n6_; clear n0_ n1_ n2_ n3_ n4_ n5_ n6_; clear hb hbox hg))
    have n0_ := Aside0.mk (blk_drew BK170.out)
    have n1_ := Aside0.mk (blk_drew BK171.out)
    have n2_ := Aside0.mk (below_drew1 HB.out)
    clear BK170
    clear BK171
    clear HB
    have BK170 := n0_
    have BK171 := n1_
    have HB := n2_
    clear n0_ n1_ n2_
    refine start_ (n := 10) (S := fun w' => w'.cell? ⟨gb170, 0, none⟩ = some (.string a0_0) ∧ w'.cell? ⟨gb170, 1, none⟩ = some (.string a0_1) ∧ w'.cell? ⟨gb170, 2, none⟩ = some (.slice A0_2 l0_2.length c0_2) ∧ w'.cell? ⟨gb171, 0, none⟩ = some (.string a1_0) ∧ w'.cell? ⟨gb171, 1, none⟩ = some (.string a1_1) ∧ w'.cell? ⟨gb171, 2, none⟩ = some (.slice A1_2 l1_2.length c1_2)) (ds := []) #[false, false, false, false, false, false, false, false, false, false] (by kernel_rfl) rfl rfl ⟨(blk_cell BK170.out 0).trans rfl, (blk_cell BK170.out 1).trans rfl, (blk_cell BK170.out 2).trans rfl, (blk_cell BK171.out 0).trans rfl, (blk_cell BK171.out 1).trans rfl, (blk_cell BK171.out 2).trans rfl⟩ (fun hHeld => ?_); refine with_tabW spec_Conflict.tab1 spec_Conflict.bits1 (fun HT_ HW_ => ?_)
    generalize w23.drew = w24 at BK170 BK171 HB hHeld ⊢
    refine pure_ (i := 0) (N := some 6) (v := ?_) (a' := ?_) #[true, false, false, false, false, false, false, false, false, false] rfl rfl (any_of HT_.out (by kernel_rfl)) (fun _ _ _ h => h) (Or.inl ⟨by rfl, ?_⟩) ?_ ?_
    rotate_left
    · intro w'
      go_simp
      with_reducible rfl
    rotate_left
    · simp only [Act.put, List.setIfInBounds_toArray, List.set_cons_zero, List.set_cons_succ, i64_w, i32_w]
      rfl
    refine pure_ (i := 2) (N := some 8) (v := ?_) (a' := ?_) #[true, false, true, false, false, false, false, false, false, false] rfl rfl (any_of HT_.out (by kernel_rfl)) (fun _ _ _ h => h) (Or.inl ⟨by rfl, ?_⟩) ?_ ?_
    rotate_left
    · intro w'
      go_simp
      with_reducible rfl
    rotate_left
    · simp only [Act.put, List.setIfInBounds_toArray, List.set_cons_zero, List.set_cons_succ, i64_w, i32_w]
      rfl
    refine take_ (i := 1) (N := some 7) (v := ?_) (a' := ?_) #[true, true, true, false, false, false, false, false, false, false] rfl rfl (take_ofW HT_.out HW_.out (by kernel_rfl)) (fun _ _ _ h => h) (Or.inl ⟨by rfl, ?_⟩) hHeld ?_ ?_
    rotate_left
    · rintro w' ⟨s0, s1, s2, s3, s4, s5⟩
      go_simp
      with_reducible rfl
    rotate_left
    · simp only [Act.put, List.setIfInBounds_toArray, List.set_cons_zero, List.set_cons_succ, i64_w, i32_w]
      rfl
    refine take_ (i := 3) (N := some 9) (v := ?_) (a' := ?_) #[true, true, true, true, false, false, false, false, false, false] rfl rfl (take_ofW HT_.out HW_.out (by kernel_rfl)) (fun _ _ _ h => h) (Or.inl ⟨by rfl, ?_⟩) hHeld ?_ ?_
    rotate_left
    · rintro w' ⟨s0, s1, s2, s3, s4, s5⟩
      go_simp
      with_reducible rfl
    rotate_left
    · simp only [Act.put, List.setIfInBounds_toArray, List.set_cons_zero, List.set_cons_succ, i64_w, i32_w]
      rfl
    refine take_ (i := 5) (N := some 11) (v := ?_) (a' := ?_) #[true, true, true, true, false, true, false, false, false, false] rfl rfl (take_ofW HT_.out HW_.out (by kernel_rfl)) (fun _ _ _ h => h) (Or.inl ⟨by rfl, ?_⟩) hHeld ?_ ?_
    rotate_left
    · rintro w' ⟨s0, s1, s2, s3, s4, s5⟩
      go_simp
      with_reducible rfl
    rotate_left
    · simp only [Act.put, List.setIfInBounds_toArray, List.set_cons_zero, List.set_cons_succ, i64_w, i32_w]
      rfl
    refine take_ (i := 6) (N := some 12) (v := ?_) (a' := ?_) #[true, true, true, true, false, true, true, false, false, false] rfl rfl (take_ofW HT_.out HW_.out (by kernel_rfl)) (fun _ _ _ h => h) (Or.inl ⟨by rfl, ?_⟩) hHeld ?_ ?_
    rotate_left
    · rintro w' ⟨s0, s1, s2, s3, s4, s5⟩
      go_simp
      with_reducible rfl
    rotate_left
    · simp only [Act.put, List.setIfInBounds_toArray, List.set_cons_zero, List.set_cons_succ, i64_w, i32_w]
      rfl
    refine one_ (i := 4) (N := some 10) #[true, true, true, true, true, true, true, false, false, false] rfl rfl (one_of HT_.out (by kernel_rfl)) (by decide) (fun K hK => ?_)
    refine goes_ Tryz.func27 (by kernel_rfl) rfl #[.string a0_0, .string a1_0] (by rfl) rfl rfl (by (try simp only [List.map_toArray, List.map_cons, List.map_nil]); first | done | rfl | (simp only [List.length_drop, List.length_take]; rfl)) ?_
    with_reducible refine (spec_ByMethods.calls k a0_0 a1_0 t172 _ A3.out).mono ?_
    rintro e w' ⟨rfl, ⟨nd, rfl⟩⟩
    refine ⟨_, rfl, ?_⟩
    refine hK.out _ _ ⟨(blk_cell BK170.out 0).trans rfl, (blk_cell BK170.out 1).trans rfl, (blk_cell BK170.out 2).trans rfl, (blk_cell BK171.out 0).trans rfl, (blk_cell BK171.out 1).trans rfl, (blk_cell BK171.out 2).trans rfl⟩ (fun hHeld => ?_)
    clear hK K
    refine norm_ (a' := ?_) ?_ ?_
    rotate_left
    · show Act.put _ (some 10) _ = _
      simp only [Act.put, List.setIfInBounds_toArray, List.set_cons_zero, List.set_cons_succ, i64_w, i32_w]
      rfl
    refine one_ (i := 7) (N := some 13) #[true, true, true, true, true, true, true, true, false, false] rfl rfl (one_of HT_.out (by kernel_rfl)) (by decide) (fun K hK => ?_)
    refine goes_ Tryz.func28 (by kernel_rfl) rfl #[.agg #[.string a0_0, .string a0_1, .slice A0_2 l0_2.length c0_2], .agg #[.string a1_0, .string a1_1, .slice A1_2 l1_2.length c1_2]] (by rfl) rfl rfl (by (try simp only [List.map_toArray, List.map_cons, List.map_nil]); first | done | rfl | (simp only [List.length_drop, List.length_take]; rfl)) ?_
    with_reducible refine (spec_ByPaths.calls k a0_0 a0_1 _ _ l0_2 a1_0 a1_1 _ _ l1_2 t173 _ ?side1 ?side2 ?side3 ?side4 A4.out).mono ?_
    (case side1 => repeat (first | exact (Kd.C_below HR0_2.out (by repeat (first | (with_reducible first | exact HB.out | apply below_alloc | apply pw_below_drewN | apply below_drew1 | refine below_set ?_ GE170.out | refine below_set ?_ GE171.out) | exact HB.out))) | (with_reducible refine Kd.C_alloc ?_ _) | (with_reducible refine Kd.C_drewN ?_ _) | (with_reducible refine Kd.C_drew ?_)))
    (case side2 => exact HC0_2.out)
    (case side3 => repeat (first | exact (Kd.C_below HR1_2.out (by repeat (first | (with_reducible first | exact HB.out | apply below_alloc | apply pw_below_drewN | apply below_drew1 | refine below_set ?_ GE170.out | refine below_set ?_ GE171.out) | exact HB.out))) | (with_reducible refine Kd.C_alloc ?_ _) | (with_reducible refine Kd.C_drewN ?_ _) | (with_reducible refine Kd.C_drew ?_)))
    (case side4 => exact HC1_2.out)
    rintro e w25 ⟨rfl, hb⟩
    refine ⟨_, rfl, ?_⟩
    have n0_ := Aside0.mk (blk_below (g := gb170) (o := .cells #[.string a0_0, .string a0_1, .slice A0_2 l0_2.length c0_2] 35 (0, 0)) (by (with_reducible repeat (first | refine blk_drewN ?_ _ | refine blk_drew ?_ | refine blk_alloc ?_ _)); exact BK170.out) hb)
    have n1_ := Aside0.mk (blk_below (g := gb171) (o := .cells #[.string a1_0, .string a1_1, .slice A1_2 l1_2.length c1_2] 35 (0, 0)) (by (with_reducible repeat (first | refine blk_drewN ?_ _ | refine blk_drew ?_ | refine blk_alloc ?_ _)); exact BK171.out) hb)
    have n2_ := Aside0.mk (below_step (by repeat (first | (with_reducible first | exact HB.out | apply below_alloc | apply pw_below_drewN | apply below_drew1 | refine below_set ?_ GE170.out | refine below_set ?_ GE171.out) | exact HB.out)) hb)
    clear BK170
    clear BK171
    clear HB
    have BK170 := n0_
    have BK171 := n1_
    have HB := n2_
    clear n0_ n1_ n2_
    (try clear hb)
    (try clear hb2)
    (try clear hk)
    (try clear hi)
    refine hK.out _ _ ⟨(blk_cell BK170.out 0).trans rfl, (blk_cell BK170.out 1).trans rfl, (blk_cell BK170.out 2).trans rfl, (blk_cell BK171.out 0).trans rfl, (blk_cell BK171.out 1).trans rfl, (blk_cell BK171.out 2).trans rfl⟩ (fun hHeld => ?_)
    clear hK K
    refine norm_ (a' := ?_) ?_ ?_
    rotate_left
    · show Act.put _ (some 13) _ = _
      simp only [Act.put, List.setIfInBounds_toArray, List.set_cons_zero, List.set_cons_succ, i64_w, i32_w]
      rfl
    refine one_ (i := 8) (N := some 14) #[true, true, true, true, true, true, true, true, true, false] rfl rfl (one_of HT_.out (by kernel_rfl)) (by decide) (fun K hK => ?_)
    refine goes_ Tryz.func26 (by kernel_rfl) rfl #[.string t172, .string t173] (by rfl) rfl rfl (by (try simp only [List.map_toArray, List.map_cons, List.map_nil]); first | done | rfl | (simp only [List.length_drop, List.length_take]; rfl)) ?_
    with_reducible refine (spec_Combine.calls k t172 t173 t174 _ A5.out).mono ?_
    rintro e w' ⟨rfl, ⟨nd, rfl⟩⟩
    refine ⟨_, rfl, ?_⟩
    refine hK.out _ _ ⟨(blk_cell BK170.out 0).trans rfl, (blk_cell BK170.out 1).trans rfl, (blk_cell BK170.out 2).trans rfl, (blk_cell BK171.out 0).trans rfl, (blk_cell BK171.out 1).trans rfl, (blk_cell BK171.out 2).trans rfl⟩ (fun hHeld => ?_)
    clear hK K
    refine norm_ (a' := ?_) ?_ ?_
    rotate_left
    · show Act.put _ (some 14) _ = _
      simp only [Act.put, List.setIfInBounds_toArray, List.set_cons_zero, List.set_cons_succ, i64_w, i32_w]
      rfl
    refine pure_ (i := 9) (N := some 5) (v := ?_) (a' := ?_) #[true, true, true, true, true, true, true, true, true, true] rfl rfl (any_of HT_.out (by kernel_rfl)) (fun _ _ _ h => h) (Or.inl ⟨by rfl, ?_⟩) ?_ ?_
    rotate_left
    · intro w'
      go_simp
      with_reducible rfl
    rotate_left
    · simp only [Act.put, List.setIfInBounds_toArray, List.set_cons_zero, List.set_cons_succ, i64_w, i32_w]
      rfl
    refine done_ (done_of HT_.out (by kernel_rfl)) ?_
    have hnb26 := NB170_171.out
    have hnc26 := NB171_170.out
    have hcz27_0 : w25.cell? ⟨gb170, 0, none⟩ = some (.string a0_0) := (blk_cell BK170.out 0).trans rfl
    have hcz27_1 : w25.cell? ⟨gb170, 1, none⟩ = some (.string a0_1) := (blk_cell BK170.out 1).trans rfl
    have hcz27_2 : w25.cell? ⟨gb170, 2, none⟩ = some (.slice A0_2 l0_2.length c0_2) := (blk_cell BK170.out 2).trans rfl
    have hfz27_0 := blk_frozen BK170.out 0
    have hfz27_1 := blk_frozen BK170.out 1
    have hfz27_2 := blk_frozen BK170.out 2
    have hcz28_0 : w25.cell? ⟨gb171, 0, none⟩ = some (.string a1_0) := (blk_cell BK171.out 0).trans rfl
    have hcz28_1 : w25.cell? ⟨gb171, 1, none⟩ = some (.string a1_1) := (blk_cell BK171.out 1).trans rfl
    have hcz28_2 : w25.cell? ⟨gb171, 2, none⟩ = some (.slice A1_2 l1_2.length c1_2) := (blk_cell BK171.out 2).trans rfl
    have hfz28_0 := blk_frozen BK171.out 0
    have hfz28_1 := blk_frozen BK171.out 1
    have hfz28_2 := blk_frozen BK171.out 2
    try go_wp2
    go_ret
    exact ⟨by first | rfl | (simp [errW_none, errW_some] <;> rfl) | (simp [*, errW_none, errW_some] <;> rfl), by repeat (first | (with_reducible first | exact HB.out | apply below_alloc | apply pw_below_drewN | apply below_drew1 | refine below_set ?_ GE170.out | refine below_set ?_ GE171.out) | exact HB.out)⟩
mutual
def spec_Peace.l0 : Nat → List (S35) → List (S35) → Int → Int → Option (Bool)
  | 0, _, _, _, _ => none
  | k + 1, x0, x7, x8, x9 => if x9 < x8 then (if 0 ≤ x9 then (if x9 < (x7.length : Int) then (if x9 ≤ (x0.length : Int) then ((some (x0.take (x9 : Int).toNat : List (S35))).bind fun y177 => (spec_Peace.l1 k x0 x7 x8 x9 y177 (y177.length : Int) 0 ((rd_T35 x7 x9).f0) ((rd_T35 x7 x9).f1) ((rd_T35 x7 x9).f2))) else (none)) else (none)) else (none)) else (some true)
def spec_Peace.l1 : Nat → List (S35) → List (S35) → Int → Int → List (S35) → Int → Int → ByteArray → ByteArray → List (S52) → Option (Bool)
  | 0, _, _, _, _, _, _, _, _, _, _ => none
  | k + 1, x0, x7, x8, x9, x16, x17, x18, x177000, x177001, x177002 => if x18 < x17 then (if 0 ≤ x18 then (if x18 < (x16.length : Int) then ((spec_Conflict.f k x177000 x177001 x177002 ((rd_T35 x16 x18).f0) ((rd_T35 x16 x18).f1) ((rd_T35 x16 x18).f2)).bind fun t183 => (if t183 = true then (some false) else (spec_Peace.l1 k x0 x7 x8 x9 x16 x17 (wrap64 (x18 + 1)) x177000 x177001 x177002))) else (none)) else (none)) else (spec_Peace.l0 k x0 x7 x8 (wrap64 (x9 + 1)))
end
def spec_Peace.f (k : Nat) (l0 : List (S35)) : Option (Bool) := spec_Peace.l0 k l0 l0 (l0.length : Int) 0
theorem spec_Peace.mono_l : ∀ k, (∀ y0 y1 y2 y3, LeO (spec_Peace.l0 k y0 y1 y2 y3) (spec_Peace.l0 (k + 1) y0 y1 y2 y3)) ∧ (∀ y0 y1 y2 y3 y4 y5 y6 y7 y8 y9, LeO (spec_Peace.l1 k y0 y1 y2 y3 y4 y5 y6 y7 y8 y9) (spec_Peace.l1 (k + 1) y0 y1 y2 y3 y4 y5 y6 y7 y8 y9))
  | 0 => ⟨fun _ _ _ _ r h => by simp [spec_Peace.l0] at h, fun _ _ _ _ _ _ _ _ _ _ r h => by simp [spec_Peace.l1] at h⟩
  | k + 1 => by
    obtain ⟨ih0, ih1⟩ := spec_Peace.mono_l k
    refine ⟨?_, ?_⟩
    · intro y0 y1 y2 y3
      unfold spec_Peace.l0
      repeat' first
      | (with_reducible exact ih0 _ _ _ _)
      | (with_reducible exact ih1 _ _ _ _ _ _ _ _ _ _)
      | (with_reducible exact spec_Conflict.mono _ _ _ _ _ _ _)
      | (with_reducible exact LeO.refl _)
      | (with_reducible exact LeO.none _)
      | (with_reducible refine LeO.ite ?_ ?_)
      | (with_reducible refine LeO.bind ?_ (fun _ => ?_))
      | exact ih0 _ _ _ _
      | exact ih1 _ _ _ _ _ _ _ _ _ _
      | exact spec_Conflict.mono _ _ _ _ _ _ _
      | exact LeO.none _
      | refine LeO.ite ?_ ?_
      | refine LeO.bind ?_ (fun _ => ?_)
    · intro y0 y1 y2 y3 y4 y5 y6 y7 y8 y9
      unfold spec_Peace.l1
      repeat' first
      | (with_reducible exact ih0 _ _ _ _)
      | (with_reducible exact ih1 _ _ _ _ _ _ _ _ _ _)
      | (with_reducible exact spec_Conflict.mono _ _ _ _ _ _ _)
      | (with_reducible exact LeO.refl _)
      | (with_reducible exact LeO.none _)
      | (with_reducible refine LeO.ite ?_ ?_)
      | (with_reducible refine LeO.bind ?_ (fun _ => ?_))
      | exact ih0 _ _ _ _
      | exact ih1 _ _ _ _ _ _ _ _ _ _
      | exact spec_Conflict.mono _ _ _ _ _ _ _
      | exact LeO.none _
      | refine LeO.ite ?_ ?_
      | refine LeO.bind ?_ (fun _ => ?_)
set_option maxHeartbeats 8000000 in
set_option maxRecDepth 100000 in
theorem spec_Peace.calls (k : Nat) (A0 : Option Addr) (c0 : Nat) (l0 : List (S35)) (r : Bool) (w : World) (hr0 : Kd.C k35 w A0 l0.length l0) (hc0 : l0.length ≤ c0) (h : spec_Peace.f k l0 = some r) :
    Calls Tryz.prog 9 #[.slice A0 l0.length c0] w fun e w' => e = .returned (.bool r) ∧ Below w.heap.size w w' := by
  have hu35 := Tryz.underlying35
  have HR0 := Aside0.mk hr0
  have HC0 := Aside0.mk hc0
  clear hr0 hc0
  have HB := Aside0.mk (Below.refl w.heap.size w)
  have H : (spec_Peace.l0 k l0 l0 (l0.length : Int) 0) = some r := h
  clear h
  have H' := Aside0.mk H
  clear H
  go_enter Tryz.func9, Tryz.ntmps9
  go_wp2
  go_loopg [9] k (fun kq v9 w' => ∃ (x9_1 : Int), v9 = .int .i64 x9_1 ∧ Aside0 (spec_Peace.l0 kq l0 l0 (l0.length : Int) x9_1 = some r) ∧ Aside0 (kq ≤ k) ∧ Aside0 (Below w.heap.size w w'))
  case atStart => exact ⟨(0), (by first | rfl | (simp; done) | (simp [*]; done)), H', ⟨Nat.le_refl _⟩, ⟨by repeat (first | (with_reducible first | exact HB.out | apply below_alloc | apply pw_below_drewN | apply below_drew1) | exact HB.out)⟩⟩
  case round =>
    clear H'
    obtain ⟨x9_1, rfl, HA, HK1, HB⟩ := hrel
    cases gk with
    | zero => exact absurd HA.out (by simp [spec_Peace.l0])
    | succ k1 =>
      have H := HA.out
      clear HA
      simp only [spec_Peace.l0] at H
      by_cases c2 : x9_1 < (l0.length : Int)
      · rw [if_pos c2] at H
        have c2b0 : decide (x9_1 < (l0.length : Int)) = true := decide_eq_true c2
        clear c2
        by_cases c3 : 0 ≤ x9_1
        · rw [if_pos c3] at H
          have c3b0 : decide (0 ≤ x9_1) = true := decide_eq_true c3
          clear c3
          by_cases c4 : x9_1 < (l0.length : Int)
          · rw [if_pos c4] at H
            have c4b0 : decide (x9_1 < (l0.length : Int)) = true := decide_eq_true c4
            clear c4
            have c5b0 := eq_true (of_decide_eq_true (by first | (with_reducible assumption) | assumption) : 0 ≤ x9_1)
            by_cases c6 : x9_1 ≤ (l0.length : Int)
            · rw [if_pos c6] at H
              have c6b0 := eq_true c6
              have c6b1 : decide (x9_1 ≤ (l0.length : Int)) = true := decide_eq_true c6
              clear c6
              obtain ⟨y177, hy177⟩ : ∃ y_ : List (S35), y_ = (l0.take (x9_1 : Int).toNat) := ⟨_, rfl⟩
              replace H : (spec_Peace.l1 k1 l0 l0 (l0.length : Int) x9_1 y177 (y177.length : Int) 0 ((rd_T35 l0 x9_1).f0) ((rd_T35 l0 x9_1).f1) ((rd_T35 l0 x9_1).f2)) = some r := by first | (rw [hy177]; with_reducible exact H) | (have H2_ := (Option.bind_some _ _).symm.trans H; rw [hy177]; with_reducible exact H2_) | (have H2_ := (Option.bind_some _ _).symm.trans H; with_reducible exact H2_) | with_reducible exact H | (rw [hy177]; exact H) | exact H
              have Ny177 := Aside0.mk hy177
              clear hy177
              have H' := Aside0.mk H
              clear H
              have p175 : 0 ≤ (x9_1 : Int) := of_decide_eq_true (by first | (with_reducible assumption) | assumption)
              have q175 : x9_1 < (l0.length : Int) := of_decide_eq_true (by first | (with_reducible assumption) | assumption)
              obtain ⟨ad175, A175_2, c175_2, e175, hx175_0, hx175_1, hx175_2, hl175_2, hi175_2⟩ := at_T35 HR0.out x9_1 p175 q175
              cases e175
              replace hx175_0 := (HB.out.cell (World.block_lt_of_cell? w _ hx175_0)).trans hx175_0
              replace hx175_1 := (HB.out.cell (World.block_lt_of_cell? w _ hx175_1)).trans hx175_1
              replace hx175_2 := (HB.out.cell (World.block_lt_of_cell? w _ hx175_2)).trans hx175_2
              have HR175_2 := Aside0.mk hi175_2
              have HC175_2 := Aside0.mk hl175_2
              clear hi175_2 hl175_2
              replace p175 := eq_true p175
              replace q175 := eq_true q175
              go_wp2_with (first | ((with_reducible refine gate_dst (N := 4) rfl ?_); refine box_event ?hg (N := 4) ?hd (cs := #[.string (⟨#[]⟩ : ByteArray), .string (⟨#[]⟩ : ByteArray), .slice none 0 0]) (t := 35) ?hr ?_; (case hd => rfl); (case hg => rfl); (case hr => first | (go_simp; done) | (go_simp; rfl)); intro gb176 hg w7 hbox hb; have n0_ := Aside0.mk (below_step (by repeat (first | (with_reducible first | exact HB.out | apply below_alloc | apply pw_below_drewN | apply below_drew1) | exact HB.out)) hb); have n1_ := Aside0.mk (hbox); have n2_ := Aside0.mk ((by rw [hg]; exact (below_size (by repeat (first | (with_reducible first | exact HB.out | apply below_alloc | apply pw_below_drewN | apply below_drew1) | exact HB.out))) : w.heap.size ≤ gb176)); have n3_ := Aside0.mk ((by rw [hg]; exact (below_size (by repeat (first | (with_reducible first | exact HB.out | apply below_alloc | apply pw_below_drewN | apply below_drew1) | exact HB.out))) : w.heap.size ≤ gb176)); clear HB; have HB := n0_; have BK176 := n1_; have GW176 := n2_; have GE176 := n3_; clear n0_ n1_ n2_ n3_; clear hb hbox hg; have hcz8_0 : w7.cell? ⟨gb176, 0, none⟩ = some (.string (⟨#[]⟩ : ByteArray)) := (blk_cell BK176.out 0).trans rfl; have hcz8_1 : w7.cell? ⟨gb176, 1, none⟩ = some (.string (⟨#[]⟩ : ByteArray)) := (blk_cell BK176.out 1).trans rfl; have hcz8_2 : w7.cell? ⟨gb176, 2, none⟩ = some (.slice none 0 0) := (blk_cell BK176.out 2).trans rfl; have hfz8_0 := blk_frozen BK176.out 0; have hfz8_1 := blk_frozen BK176.out 1; have hfz8_2 := blk_frozen BK176.out 2) | ((with_reducible refine gate_store (t := 35) (p := 4) rfl ?_); refine store_event (t := 35) (p := 4) (v := ?vo_w9) (w1 := (((w7.setCell ⟨gb176, 0, none⟩ (.string ((rd_T35 l0 x9_1).f0))).setCell ⟨gb176, 1, none⟩ (.string ((rd_T35 l0 x9_1).f1))).setCell ⟨gb176, 2, none⟩ (.slice A175_2 ((rd_T35 l0 x9_1).f2).length c175_2))) ?hg ?ho ?hn ?hr ?_; (case ho => rfl); (case hg => rfl); (case hn => rfl); (case hr => first | (go_simp; done) | (go_simp; rfl)); intro w9 hw; have n0_ : Aside0 (w9.heap[gb176]? = some (.cells #[.string ((rd_T35 l0 x9_1).f0), .string ((rd_T35 l0 x9_1).f1), .slice A175_2 ((rd_T35 l0 x9_1).f2).length c175_2] 35 (0, 0))) := ⟨(by rw [hw]; exact (by (with_reducible repeat (first | refine blk_drewN ?_ _ | refine blk_drew ?_ | refine blk_alloc ?_ _)); refine blk_put (cs := #[.string ((rd_T35 l0 x9_1).f0), .string ((rd_T35 l0 x9_1).f1), .slice none 0 0]) ?_ 2 _ rfl; (with_reducible repeat (first | refine blk_drewN ?_ _ | refine blk_drew ?_ | refine blk_alloc ?_ _)); refine blk_put (cs := #[.string ((rd_T35 l0 x9_1).f0), .string (⟨#[]⟩ : ByteArray), .slice none 0 0]) ?_ 1 _ rfl; (with_reducible repeat (first | refine blk_drewN ?_ _ | refine blk_drew ?_ | refine blk_alloc ?_ _)); refine blk_put (cs := #[.string (⟨#[]⟩ : ByteArray), .string (⟨#[]⟩ : ByteArray), .slice none 0 0]) ?_ 0 _ rfl; (with_reducible repeat (first | refine blk_drewN ?_ _ | refine blk_drew ?_ | refine blk_alloc ?_ _)); exact BK176.out))⟩; have n1_ : Aside0 (Below w.heap.size w w9) := ⟨(by rw [hw]; exact (by repeat (first | (with_reducible first | exact HB.out | apply below_alloc | apply pw_below_drewN | apply below_drew1 | refine below_set ?_ GE176.out) | exact HB.out)))⟩; clear hw; clear BK176; clear HB; have BK176 := n0_; have HB := n1_; clear n0_ n1_; have q10 : (x9_1 : Int) ≤ ((l0.length : Int) : Int) := of_decide_eq_true (by first | (with_reducible assumption) | assumption); obtain ⟨i010, hi010, _, hsz10, _⟩ := info_parts info35; have hroom10 : l0.length ≤ c0 := HC0.out; have hC10 : Kd.C k35 _ (some ad175) l0.length l0 := HR0.out; have hcut10 := cut_to (P := Tryz.prog) 24 35 .i64 Tryz.underlying24 hi010 (some ad175) l0.length c0 x9_1 (of_decide_eq_true (by first | (with_reducible assumption) | assumption)) q10 hroom10; have hr10 := Kd.C_take (m := (x9_1 : Int).toNat) hC10 (by omega); have hy10 : y177.length = (x9_1 : Int).toNat := (by rw [Ny177.out, List.length_take]; omega); rw [← Ny177.out] at hr10; rw [← hy10] at hcut10; have HR180 := Aside0.mk hr10; have HC180 := Aside0.mk (show y177.length ≤ c0 from by omega); clear hr10 hC10 hroom10 hi010 hsz10; have KY10 := Aside0.mk hy10; clear hy10; replace q10 := eq_true q10))
              go_loopg [18] k1 (fun kq v18 w' => ∃ (x18_2 : Int), v18 = .int .i64 x18_2 ∧ Aside0 (spec_Peace.l1 kq l0 l0 (l0.length : Int) x9_1 y177 (y177.length : Int) x18_2 ((rd_T35 l0 x9_1).f0) ((rd_T35 l0 x9_1).f1) ((rd_T35 l0 x9_1).f2) = some r) ∧ Aside0 (kq ≤ k1) ∧ Aside0 (w'.heap[gb176]? = some (.cells #[.string ((rd_T35 l0 x9_1).f0), .string ((rd_T35 l0 x9_1).f1), (.slice A175_2 ((rd_T35 l0 x9_1).f2).length c175_2)] 35 (0, 0))) ∧ Aside0 (Below w.heap.size w w'))
              case atStart => exact ⟨(0), (by first | rfl | (simp; done) | (simp [*]; done)), H', ⟨Nat.le_refl _⟩, ⟨by (with_reducible repeat (first | refine blk_drewN ?_ _ | refine blk_drew ?_ | refine blk_alloc ?_ _)); exact BK176.out⟩, ⟨by repeat (first | (with_reducible first | exact HB.out | apply below_alloc | apply pw_below_drewN | apply below_drew1 | refine below_set ?_ GE176.out) | exact HB.out)⟩⟩
              case round =>
                clear H'
                try clear c1
                try clear p1
                try clear q1
                try clear hx1
                try clear c2
                try clear c2b0
                try clear p2
                try clear c3
                try clear c3b0
                try clear c4
                try clear c4b0
                try clear c5
                try clear c5b0
                try clear c6
                try clear c6b0
                try clear c6b1
                try clear c9
                try clear q10
                try clear hcz8_0
                try clear hcz8_1
                try clear hcz8_2
                try clear hfz8_0
                try clear hfz8_1
                try clear hfz8_2
                try clear hx175_0
                try clear hx175_1
                try clear hx175_2
                try clear p175
                try clear q10
                try clear q175
                obtain ⟨x18_2, rfl, HA, HK2, BK176, HB⟩ := hrel
                cases gk with
                | zero => exact absurd HA.out (by simp [spec_Peace.l1])
                | succ k2 =>
                  have H := HA.out
                  clear HA
                  simp only [spec_Peace.l1] at H
                  by_cases c11 : x18_2 < (y177.length : Int)
                  · rw [if_pos c11] at H
                    have c11b0 : decide (x18_2 < (y177.length : Int)) = true := decide_eq_true c11
                    clear c11
                    by_cases c12 : 0 ≤ x18_2
                    · rw [if_pos c12] at H
                      have c12b0 : decide (0 ≤ x18_2) = true := decide_eq_true c12
                      clear c12
                      by_cases c13 : x18_2 < (y177.length : Int)
                      · rw [if_pos c13] at H
                        have c13b0 : decide (x18_2 < (y177.length : Int)) = true := decide_eq_true c13
                        clear c13
                        replace H := Option.bind_eq_some_iff.mp H
                        obtain ⟨t183, A140, H⟩ := H
                        replace H : (if t183 = true then (some false) else (spec_Peace.l1 k2 l0 l0 (l0.length : Int) x9_1 y177 (y177.length : Int) (wrap64 (x18_2 + 1)) ((rd_T35 l0 x9_1).f0) ((rd_T35 l0 x9_1).f1) ((rd_T35 l0 x9_1).f2))) = some r := H
                        have A14 := Aside0.mk A140
                        clear A140
                        by_cases c15 : t183 = true
                        · subst c15
                          have H1 : (some false) = some r := by rw [if_pos rfl] at H; exact H
                          clear H
                          have H := H1
                          clear H1
                          obtain rfl := Option.some.inj H
                          have p181 : 0 ≤ (x18_2 : Int) := of_decide_eq_true (by first | (with_reducible assumption) | assumption)
                          have q181 : x18_2 < (y177.length : Int) := of_decide_eq_true (by first | (with_reducible assumption) | assumption)
                          obtain ⟨ad181, A181_2, c181_2, e181, hx181_0, hx181_1, hx181_2, hl181_2, hi181_2⟩ := at_T35 HR180.out x18_2 p181 q181
                          obtain rfl : ad175 = ad181 := (by injection e181)
                          replace hx181_0 := (HB.out.cell (World.block_lt_of_cell? w _ hx181_0)).trans hx181_0
                          replace hx181_1 := (HB.out.cell (World.block_lt_of_cell? w _ hx181_1)).trans hx181_1
                          replace hx181_2 := (HB.out.cell (World.block_lt_of_cell? w _ hx181_2)).trans hx181_2
                          have HR181_2 := Aside0.mk hi181_2
                          have HC181_2 := Aside0.mk hl181_2
                          clear hi181_2 hl181_2
                          replace p181 := eq_true p181
                          replace q181 := eq_true q181
                          go_wp2_with (first | ((with_reducible refine gate_dst (N := 6) rfl ?_); refine box_event ?hg (N := 6) ?hd (cs := #[.string (⟨#[]⟩ : ByteArray), .string (⟨#[]⟩ : ByteArray), .slice none 0 0]) (t := 35) ?hr ?_; (case hd => rfl); (case hg => rfl); (case hr => first | (go_simp; done) | (go_simp; rfl)); intro gb182 hg w16 hbox hb; have n0_ := Aside0.mk (blk_below (g := gb176) (o := .cells #[.string ((rd_T35 l0 x9_1).f0), .string ((rd_T35 l0 x9_1).f1), .slice A175_2 ((rd_T35 l0 x9_1).f2).length c175_2] 35 (0, 0)) (by (with_reducible repeat (first | refine blk_drewN ?_ _ | refine blk_drew ?_ | refine blk_alloc ?_ _)); exact BK176.out) hb); have n1_ := Aside0.mk (below_step (by repeat (first | (with_reducible first | exact HB.out | apply below_alloc | apply pw_below_drewN | apply below_drew1 | refine below_set ?_ GE176.out) | exact HB.out)) hb); have n2_ := Aside0.mk (hbox); have n3_ := Aside0.mk ((by rw [hg]; exact (below_size (by repeat (first | (with_reducible first | exact HB.out | apply below_alloc | apply pw_below_drewN | apply below_drew1 | refine below_set ?_ GE176.out) | exact HB.out))) : w.heap.size ≤ gb182)); have n4_ := Aside0.mk ((by rw [hg]; exact (below_size (by repeat (first | (with_reducible first | exact HB.out | apply below_alloc | apply pw_below_drewN | apply below_drew1 | refine below_set ?_ GE176.out) | exact HB.out))) : w.heap.size ≤ gb182)); have n5_ := Aside0.mk ((by rw [hg]; exact Nat.ne_of_lt (blk_lt (g := gb176) (o := .cells #[.string ((rd_T35 l0 x9_1).f0), .string ((rd_T35 l0 x9_1).f1), .slice A175_2 ((rd_T35 l0 x9_1).f2).length c175_2] 35 (0, 0)) (by (with_reducible repeat (first | refine blk_drewN ?_ _ | refine blk_drew ?_ | refine blk_alloc ?_ _)); exact BK176.out)) : gb176 ≠ gb182)); have n6_ := Aside0.mk ((by rw [hg]; exact Nat.ne_of_gt (blk_lt (g := gb176) (o := .cells #[.string ((rd_T35 l0 x9_1).f0), .string ((rd_T35 l0 x9_1).f1), .slice A175_2 ((rd_T35 l0 x9_1).f2).length c175_2] 35 (0, 0)) (by (with_reducible repeat (first | refine blk_drewN ?_ _ | refine blk_drew ?_ | refine blk_alloc ?_ _)); exact BK176.out)) : gb182 ≠ gb176)); clear BK176; clear HB; have BK176 := n0_; have HB := n1_; have BK182 := n2_; have GW182 := n3_; have GE182 := n4_; have NB176_182 := n5_; have NB182_176 := n6_; clear n0_ n1_ n2_ n3_ n4_ n5_ n6_; clear hb hbox hg; have hnb17 := NB182_176.out; have hnc17 := NB176_182.out; have hcz18_0 : w16.cell? ⟨gb182, 0, none⟩ = some (.string (⟨#[]⟩ : ByteArray)) := (blk_cell BK182.out 0).trans rfl; have hcz18_1 : w16.cell? ⟨gb182, 1, none⟩ = some (.string (⟨#[]⟩ : ByteArray)) := (blk_cell BK182.out 1).trans rfl; have hcz18_2 : w16.cell? ⟨gb182, 2, none⟩ = some (.slice none 0 0) := (blk_cell BK182.out 2).trans rfl; have hfz18_0 := blk_frozen BK182.out 0; have hfz18_1 := blk_frozen BK182.out 1; have hfz18_2 := blk_frozen BK182.out 2; have hcz19_0 : w16.cell? ⟨gb176, 0, none⟩ = some (.string ((rd_T35 l0 x9_1).f0)) := (blk_cell BK176.out 0).trans rfl; have hcz19_1 : w16.cell? ⟨gb176, 1, none⟩ = some (.string ((rd_T35 l0 x9_1).f1)) := (blk_cell BK176.out 1).trans rfl; have hcz19_2 : w16.cell? ⟨gb176, 2, none⟩ = some (.slice A175_2 ((rd_T35 l0 x9_1).f2).length c175_2) := (blk_cell BK176.out 2).trans rfl; have hfz19_0 := blk_frozen BK176.out 0; have hfz19_1 := blk_frozen BK176.out 1; have hfz19_2 := blk_frozen BK176.out 2) | ((with_reducible refine gate_callee (f := 18) rfl ?_); refine goesL_ (some 24) rfl rfl Tryz.func18 (by kernel_rfl) rfl #[.agg #[.string ((rd_T35 l0 x9_1).f0), .string ((rd_T35 l0 x9_1).f1), .slice A175_2 ((rd_T35 l0 x9_1).f2).length c175_2], .agg #[.string ((rd_T35 y177 x18_2).f0), .string ((rd_T35 y177 x18_2).f1), .slice A181_2 ((rd_T35 y177 x18_2).f2).length c181_2]] rfl (by (try simp only [List.map_toArray, List.map_cons, List.map_nil]); first | done | rfl | (simp only [List.length_drop, List.length_take]; rfl)) ?_; (with_reducible refine (spec_Conflict.calls k2 ((rd_T35 l0 x9_1).f0) ((rd_T35 l0 x9_1).f1) _ _ ((rd_T35 l0 x9_1).f2) ((rd_T35 y177 x18_2).f0) ((rd_T35 y177 x18_2).f1) _ _ ((rd_T35 y177 x18_2).f2) true _ ?side1 ?side2 ?side3 ?side4 A14.out).mono ?_); (case side1 => exact Kd.C_below HR175_2.out (by repeat (first | (with_reducible first | exact HB.out | apply below_alloc | apply pw_below_drewN | apply below_drew1 | refine below_set ?_ GE176.out | refine below_set ?_ GE182.out) | exact HB.out))); (case side2 => exact HC175_2.out); (case side3 => exact Kd.C_below HR181_2.out (by repeat (first | (with_reducible first | exact HB.out | apply below_alloc | apply pw_below_drewN | apply below_drew1 | refine below_set ?_ GE176.out | refine below_set ?_ GE182.out) | exact HB.out))); (case side4 => exact HC181_2.out); rintro e w20 ⟨rfl, hb⟩; refine ⟨_, rfl, ?_⟩; have n0_ := Aside0.mk (blk_below (g := gb176) (o := .cells #[.string ((rd_T35 l0 x9_1).f0), .string ((rd_T35 l0 x9_1).f1), .slice A175_2 ((rd_T35 l0 x9_1).f2).length c175_2] 35 (0, 0)) (by (with_reducible repeat (first | refine blk_drewN ?_ _ | refine blk_drew ?_ | refine blk_alloc ?_ _)); refine blk_far ?_ NB176_182.out _; (with_reducible repeat (first | refine blk_drewN ?_ _ | refine blk_drew ?_ | refine blk_alloc ?_ _)); refine blk_far ?_ NB176_182.out _; (with_reducible repeat (first | refine blk_drewN ?_ _ | refine blk_drew ?_ | refine blk_alloc ?_ _)); refine blk_far ?_ NB176_182.out _; (with_reducible repeat (first | refine blk_drewN ?_ _ | refine blk_drew ?_ | refine blk_alloc ?_ _)); exact BK176.out) hb); have n1_ := Aside0.mk (blk_below (g := gb182) (o := .cells #[.string ((rd_T35 y177 x18_2).f0), .string ((rd_T35 y177 x18_2).f1), .slice A181_2 ((rd_T35 y177 x18_2).f2).length c181_2] 35 (0, 0)) (by (with_reducible repeat (first | refine blk_drewN ?_ _ | refine blk_drew ?_ | refine blk_alloc ?_ _)); refine blk_put (cs := #[.string ((rd_T35 y177 x18_2).f0), .string ((rd_T35 y177 x18_2).f1), .slice none 0 0]) ?_ 2 _ rfl; (with_reducible repeat (first | refine blk_drewN ?_ _ | refine blk_drew ?_ | refine blk_alloc ?_ _)); refine blk_put (cs := #[.string ((rd_T35 y177 x18_2).f0), .string (⟨#[]⟩ : ByteArray), .slice none 0 0]) ?_ 1 _ rfl; (with_reducible repeat (first | refine blk_drewN ?_ _ | refine blk_drew ?_ | refine blk_alloc ?_ _)); refine blk_put (cs := #[.string (⟨#[]⟩ : ByteArray), .string (⟨#[]⟩ : ByteArray), .slice none 0 0]) ?_ 0 _ rfl; (with_reducible repeat (first | refine blk_drewN ?_ _ | refine blk_drew ?_ | refine blk_alloc ?_ _)); exact BK182.out) hb); have n2_ := Aside0.mk (below_step (by repeat (first | (with_reducible first | exact HB.out | apply below_alloc | apply pw_below_drewN | apply below_drew1 | refine below_set ?_ GE176.out | refine below_set ?_ GE182.out) | exact HB.out)) hb); clear BK176; clear BK182; clear HB; have BK176 := n0_; have BK182 := n1_; have HB := n2_; clear n0_ n1_ n2_; (try clear hb); (try clear hb2); (try clear hk); (try clear hi)))
                          go_ret
                          exact ⟨by first | rfl | (simp [errW_none, errW_some] <;> rfl) | (simp [*, errW_none, errW_some] <;> rfl), by repeat (first | (with_reducible first | exact HB.out | apply below_alloc | apply pw_below_drewN | apply below_drew1 | refine below_set ?_ GE176.out | refine below_set ?_ GE182.out) | exact HB.out)⟩
                        · replace c15 := Bool.eq_false_iff.mpr c15
                          subst c15
                          have H1 : (spec_Peace.l1 k2 l0 l0 (l0.length : Int) x9_1 y177 (y177.length : Int) (wrap64 (x18_2 + 1)) ((rd_T35 l0 x9_1).f0) ((rd_T35 l0 x9_1).f1) ((rd_T35 l0 x9_1).f2)) = some r := by rw [if_neg (show ¬ (false = true) by decide)] at H; exact H
                          clear H
                          have H := H1
                          clear H1
                          have H' := Aside0.mk H
                          clear H
                          have p181 : 0 ≤ (x18_2 : Int) := of_decide_eq_true (by first | (with_reducible assumption) | assumption)
                          have q181 : x18_2 < (y177.length : Int) := of_decide_eq_true (by first | (with_reducible assumption) | assumption)
                          obtain ⟨ad181, A181_2, c181_2, e181, hx181_0, hx181_1, hx181_2, hl181_2, hi181_2⟩ := at_T35 HR180.out x18_2 p181 q181
                          obtain rfl : ad175 = ad181 := (by injection e181)
                          replace hx181_0 := (HB.out.cell (World.block_lt_of_cell? w _ hx181_0)).trans hx181_0
                          replace hx181_1 := (HB.out.cell (World.block_lt_of_cell? w _ hx181_1)).trans hx181_1
                          replace hx181_2 := (HB.out.cell (World.block_lt_of_cell? w _ hx181_2)).trans hx181_2
                          have HR181_2 := Aside0.mk hi181_2
                          have HC181_2 := Aside0.mk hl181_2
                          clear hi181_2 hl181_2
                          replace p181 := eq_true p181
                          replace q181 := eq_true q181
                          go_wp2_with (first | ((with_reducible refine gate_dst (N := 6) rfl ?_); refine box_event ?hg (N := 6) ?hd (cs := #[.string (⟨#[]⟩ : ByteArray), .string (⟨#[]⟩ : ByteArray), .slice none 0 0]) (t := 35) ?hr ?_; (case hd => rfl); (case hg => rfl); (case hr => first | (go_simp; done) | (go_simp; rfl)); intro gb182 hg w21 hbox hb; have n0_ := Aside0.mk (blk_below (g := gb176) (o := .cells #[.string ((rd_T35 l0 x9_1).f0), .string ((rd_T35 l0 x9_1).f1), .slice A175_2 ((rd_T35 l0 x9_1).f2).length c175_2] 35 (0, 0)) (by (with_reducible repeat (first | refine blk_drewN ?_ _ | refine blk_drew ?_ | refine blk_alloc ?_ _)); exact BK176.out) hb); have n1_ := Aside0.mk (below_step (by repeat (first | (with_reducible first | exact HB.out | apply below_alloc | apply pw_below_drewN | apply below_drew1 | refine below_set ?_ GE176.out) | exact HB.out)) hb); have n2_ := Aside0.mk (hbox); have n3_ := Aside0.mk ((by rw [hg]; exact (below_size (by repeat (first | (with_reducible first | exact HB.out | apply below_alloc | apply pw_below_drewN | apply below_drew1 | refine below_set ?_ GE176.out) | exact HB.out))) : w.heap.size ≤ gb182)); have n4_ := Aside0.mk ((by rw [hg]; exact (below_size (by repeat (first | (with_reducible first | exact HB.out | apply below_alloc | apply pw_below_drewN | apply below_drew1 | refine below_set ?_ GE176.out) | exact HB.out))) : w.heap.size ≤ gb182)); have n5_ := Aside0.mk ((by rw [hg]; exact Nat.ne_of_lt (blk_lt (g := gb176) (o := .cells #[.string ((rd_T35 l0 x9_1).f0), .string ((rd_T35 l0 x9_1).f1), .slice A175_2 ((rd_T35 l0 x9_1).f2).length c175_2] 35 (0, 0)) (by (with_reducible repeat (first | refine blk_drewN ?_ _ | refine blk_drew ?_ | refine blk_alloc ?_ _)); exact BK176.out)) : gb176 ≠ gb182)); have n6_ := Aside0.mk ((by rw [hg]; exact Nat.ne_of_gt (blk_lt (g := gb176) (o := .cells #[.string ((rd_T35 l0 x9_1).f0), .string ((rd_T35 l0 x9_1).f1), .slice A175_2 ((rd_T35 l0 x9_1).f2).length c175_2] 35 (0, 0)) (by (with_reducible repeat (first | refine blk_drewN ?_ _ | refine blk_drew ?_ | refine blk_alloc ?_ _)); exact BK176.out)) : gb182 ≠ gb176)); clear BK176; clear HB; have BK176 := n0_; have HB := n1_; have BK182 := n2_; have GW182 := n3_; have GE182 := n4_; have NB176_182 := n5_; have NB182_176 := n6_; clear n0_ n1_ n2_ n3_ n4_ n5_ n6_; clear hb hbox hg; have hnb22 := NB182_176.out; have hnc22 := NB176_182.out; have hcz23_0 : w21.cell? ⟨gb182, 0, none⟩ = some (.string (⟨#[]⟩ : ByteArray)) := (blk_cell BK182.out 0).trans rfl; have hcz23_1 : w21.cell? ⟨gb182, 1, none⟩ = some (.string (⟨#[]⟩ : ByteArray)) := (blk_cell BK182.out 1).trans rfl; have hcz23_2 : w21.cell? ⟨gb182, 2, none⟩ = some (.slice none 0 0) := (blk_cell BK182.out 2).trans rfl; have hfz23_0 := blk_frozen BK182.out 0; have hfz23_1 := blk_frozen BK182.out 1; have hfz23_2 := blk_frozen BK182.out 2; have hcz24_0 : w21.cell? ⟨gb176, 0, none⟩ = some (.string ((rd_T35 l0 x9_1).f0)) := (blk_cell BK176.out 0).trans rfl; have hcz24_1 : w21.cell? ⟨gb176, 1, none⟩ = some (.string ((rd_T35 l0 x9_1).f1)) := (blk_cell BK176.out 1).trans rfl; have hcz24_2 : w21.cell? ⟨gb176, 2, none⟩ = some (.slice A175_2 ((rd_T35 l0 x9_1).f2).length c175_2) := (blk_cell BK176.out 2).trans rfl; have hfz24_0 := blk_frozen BK176.out 0; have hfz24_1 := blk_frozen BK176.out 1; have hfz24_2 := blk_frozen BK176.out 2) | ((with_reducible refine gate_callee (f := 18) rfl ?_); refine goesL_ (some 24) rfl rfl Tryz.func18 (by kernel_rfl) rfl #[.agg #[.string ((rd_T35 l0 x9_1).f0), .string ((rd_T35 l0 x9_1).f1), .slice A175_2 ((rd_T35 l0 x9_1).f2).length c175_2], .agg #[.string ((rd_T35 y177 x18_2).f0), .string ((rd_T35 y177 x18_2).f1), .slice A181_2 ((rd_T35 y177 x18_2).f2).length c181_2]] rfl (by (try simp only [List.map_toArray, List.map_cons, List.map_nil]); first | done | rfl | (simp only [List.length_drop, List.length_take]; rfl)) ?_; (with_reducible refine (spec_Conflict.calls k2 ((rd_T35 l0 x9_1).f0) ((rd_T35 l0 x9_1).f1) _ _ ((rd_T35 l0 x9_1).f2) ((rd_T35 y177 x18_2).f0) ((rd_T35 y177 x18_2).f1) _ _ ((rd_T35 y177 x18_2).f2) false _ ?side1 ?side2 ?side3 ?side4 A14.out).mono ?_); (case side1 => exact Kd.C_below HR175_2.out (by repeat (first | (with_reducible first | exact HB.out | apply below_alloc | apply pw_below_drewN | apply below_drew1 | refine below_set ?_ GE176.out | refine below_set ?_ GE182.out) | exact HB.out))); (case side2 => exact HC175_2.out); (case side3 => exact Kd.C_below HR181_2.out (by repeat (first | (with_reducible first | exact HB.out | apply below_alloc | apply pw_below_drewN | apply below_drew1 | refine below_set ?_ GE176.out | refine below_set ?_ GE182.out) | exact HB.out))); (case side4 => exact HC181_2.out); rintro e w25 ⟨rfl, hb⟩; refine ⟨_, rfl, ?_⟩; have n0_ := Aside0.mk (blk_below (g := gb176) (o := .cells #[.string ((rd_T35 l0 x9_1).f0), .string ((rd_T35 l0 x9_1).f1), .slice A175_2 ((rd_T35 l0 x9_1).f2).length c175_2] 35 (0, 0)) (by (with_reducible repeat (first | refine blk_drewN ?_ _ | refine blk_drew ?_ | refine blk_alloc ?_ _)); refine blk_far ?_ NB176_182.out _; (with_reducible repeat (first | refine blk_drewN ?_ _ | refine blk_drew ?_ | refine blk_alloc ?_ _)); refine blk_far ?_ NB176_182.out _; (with_reducible repeat (first | refine blk_drewN ?_ _ | refine blk_drew ?_ | refine blk_alloc ?_ _)); refine blk_far ?_ NB176_182.out _; (with_reducible repeat (first | refine blk_drewN ?_ _ | refine blk_drew ?_ | refine blk_alloc ?_ _)); exact BK176.out) hb); have n1_ := Aside0.mk (blk_below (g := gb182) (o := .cells #[.string ((rd_T35 y177 x18_2).f0), .string ((rd_T35 y177 x18_2).f1), .slice A181_2 ((rd_T35 y177 x18_2).f2).length c181_2] 35 (0, 0)) (by (with_reducible repeat (first | refine blk_drewN ?_ _ | refine blk_drew ?_ | refine blk_alloc ?_ _)); refine blk_put (cs := #[.string ((rd_T35 y177 x18_2).f0), .string ((rd_T35 y177 x18_2).f1), .slice none 0 0]) ?_ 2 _ rfl; (with_reducible repeat (first | refine blk_drewN ?_ _ | refine blk_drew ?_ | refine blk_alloc ?_ _)); refine blk_put (cs := #[.string ((rd_T35 y177 x18_2).f0), .string (⟨#[]⟩ : ByteArray), .slice none 0 0]) ?_ 1 _ rfl; (with_reducible repeat (first | refine blk_drewN ?_ _ | refine blk_drew ?_ | refine blk_alloc ?_ _)); refine blk_put (cs := #[.string (⟨#[]⟩ : ByteArray), .string (⟨#[]⟩ : ByteArray), .slice none 0 0]) ?_ 0 _ rfl; (with_reducible repeat (first | refine blk_drewN ?_ _ | refine blk_drew ?_ | refine blk_alloc ?_ _)); exact BK182.out) hb); have n2_ := Aside0.mk (below_step (by repeat (first | (with_reducible first | exact HB.out | apply below_alloc | apply pw_below_drewN | apply below_drew1 | refine below_set ?_ GE176.out | refine below_set ?_ GE182.out) | exact HB.out)) hb); clear BK176; clear BK182; clear HB; have BK176 := n0_; have BK182 := n1_; have HB := n2_; clear n0_ n1_ n2_; (try clear hb); (try clear hb2); (try clear hk); (try clear hi)))
                          go_roundg k2
                          case measure => have := HK1.out; have := HK2.out; omega
                          case rel => exact ⟨(wrap64 (x18_2 + 1)), (by first | rfl | (simp; done) | (simp [*]; done)), H', ⟨by have := HK1.out; have := HK2.out; omega⟩, ⟨by (with_reducible repeat (first | refine blk_drewN ?_ _ | refine blk_drew ?_ | refine blk_alloc ?_ _)); exact BK176.out⟩, ⟨by repeat (first | (with_reducible first | exact HB.out | apply below_alloc | apply pw_below_drewN | apply below_drew1 | refine below_set ?_ GE176.out | refine below_set ?_ GE182.out) | exact HB.out)⟩⟩
                      · rw [if_neg c13] at H
                        exact absurd H (by simp)
                    · rw [if_neg c12] at H
                      exact absurd H (by simp)
                  · rw [if_neg c11] at H
                    have c11b0 : decide (x18_2 < (y177.length : Int)) = false := decide_eq_false c11
                    clear c11
                    have H' := Aside0.mk H
                    clear H
                    go_wp2
                    go_roundg k2
                    case measure => have := HK1.out; have := HK2.out; omega
                    case rel => exact ⟨(wrap64 (x9_1 + 1)), (by first | rfl | (simp; done) | (simp [*]; done)), H', ⟨by have := HK1.out; have := HK2.out; omega⟩, ⟨by repeat (first | (with_reducible first | exact HB.out | apply below_alloc | apply pw_below_drewN | apply below_drew1 | refine below_set ?_ GE176.out) | exact HB.out)⟩⟩
            · rw [if_neg c6] at H
              exact absurd H (by simp)
          · rw [if_neg c4] at H
            exact absurd H (by simp)
        · rw [if_neg c3] at H
          exact absurd H (by simp)
      · rw [if_neg c2] at H
        have c2b0 : decide (x9_1 < (l0.length : Int)) = false := decide_eq_false c2
        clear c2
        obtain rfl := Option.some.inj H
        go_wp2
        go_ret
        exact ⟨by first | rfl | (simp [errW_none, errW_some] <;> rfl) | (simp [*, errW_none, errW_some] <;> rfl), by repeat (first | (with_reducible first | exact HB.out | apply below_alloc | apply pw_below_drewN | apply below_drew1) | exact HB.out)⟩
end Go.Proofs.YtcedefabmelogaaGreatDoor.PFnAllowed
