/- The text of a program (the kit's print) for 'written', over an own contract of spec.Write. -/
import Derived.Test.YtcedefabmelogaaGreatDoorV02
import Derived.Test.YtcedefabmelogaaGreatDoorV28
namespace Go.Proofs.YtcedefabmelogaaGreatDoor.PFnAllowed
open Go.RowKit Go.Proofs.YtcedefabmelogaaGreatDoorW.PrintWords Go.Proofs.YtcedefabmelogaaGreatDoorW.PrintLast Go.Proofs.YtcedefabmelogaaGreatDoorW.PrintMore
attribute [local go_sem] max2_int min2_int max_two min_two max_three min_three max_four min_four   -- for this text's walks alone
set_option linter.unusedVariables false
set_option linter.unusedSimpArgs false
open Classical in
noncomputable def spec_Write.f (k : Nat) (a0_0 : ByteArray) (a0_1 : ByteArray) (l0_2 : List (S52)) : Option (ByteArray) :=
  if H.GoodP a0_0 a0_1 l0_2 then some (H.bs (H.fullT a0_0.toList a0_1.toList (l0_2.map H.sgOf))) else none
theorem spec_Write.calls (k : Nat) (a0_0 : ByteArray) (a0_1 : ByteArray) (A0_2 : Option Addr) (c0_2 : Nat) (l0_2 : List (S52)) (r : ByteArray) (w : World) (hr0_2 : Kd.C k52 w A0_2 l0_2.length l0_2) (hc0_2 : l0_2.length ≤ c0_2) (h : spec_Write.f k a0_0 a0_1 l0_2 = some r) :
    Calls Tryz.prog 21 #[.agg #[.string a0_0, .string a0_1, .slice A0_2 l0_2.length c0_2]] w fun e w' => e = .returned (.string r) ∧ Below w.heap.size w w' := by
  unfold spec_Write.f at h
  split at h
  · rename_i hg
    injection h with h
    subst h
    exact H.Write_good a0_0 a0_1 A0_2 c0_2 l0_2 w hr0_2 hc0_2 hg
  · cases h
noncomputable def laws_written.l0 : Nat → List ByteArray → List (S35) → Int → Int → Option (List ByteArray)
  | 0, _, _, _, _ => none
  | k + 1, x3, x7, x8, x9 => if x9 < x8 then (if 0 ≤ x9 then (if x9 < (x7.length : Int) then ((spec_Write.f k ((rd_T35 x7 x9).f0) ((rd_T35 x7 x9).f1) ((rd_T35 x7 x9).f2)).bind fun t324 => (if x3.length < 8796093022208 then (laws_written.l0 k (x3 ++ [t324]) x7 x8 (wrap64 (x9 + 1))) else (none))) else (none)) else (none)) else (some x3)
noncomputable def laws_written.f (k : Nat) (l0 : List (S35)) : Option (List ByteArray) := laws_written.l0 k (([] : List ByteArray)) l0 (l0.length : Int) 0
set_option maxHeartbeats 8000000 in
set_option maxRecDepth 100000 in
theorem laws_written.calls (k : Nat) (A0 : Option Addr) (c0 : Nat) (l0 : List (S35)) (r : List ByteArray) (w : World) (hr0 : Kd.C k35 w A0 l0.length l0) (hc0 : l0.length ≤ c0) (h : laws_written.f k l0 = some r) :
    Calls Tryz.prog 11 #[.slice A0 l0.length c0] w fun e w' => ∃ v0_ : Value, e = .returned (v0_) ∧ Kd.R Kd.string 9 w' w.heap.size (fun _ => True) v0_ r ∧ Below w.heap.size w w' := by
  have hu35 := Tryz.underlying35
  have HR0 := Aside0.mk hr0
  have HC0 := Aside0.mk hc0
  clear hr0 hc0
  have HB := Aside0.mk (Below.refl w.heap.size w)
  have H : (laws_written.l0 k (([] : List ByteArray)) l0 (l0.length : Int) 0) = some r := h
  clear h
  obtain ⟨y319, hy319⟩ : ∃ y_ : List ByteArray, y_ = (([] : List ByteArray)) := ⟨_, rfl⟩
  replace H : (laws_written.l0 k y319 l0 (l0.length : Int) 0) = some r := by first | (rw [hy319]; with_reducible exact H) | (have H2_ := (Option.bind_some _ _).symm.trans H; rw [hy319]; with_reducible exact H2_) | (have H2_ := (Option.bind_some _ _).symm.trans H; with_reducible exact H2_) | with_reducible exact H | (rw [hy319]; exact H) | exact H
  have Ny319 := Aside0.mk hy319
  clear hy319
  have H' := Aside0.mk H
  clear H
  go_enter Tryz.func11, Tryz.ntmps11
  go_wp2_with (first | ((with_reducible refine gate_dst (N := 6) rfl ?_); refine Kd.R_lit Kd.string _ 9 ?hg (N := 6) ?hd (xs := ([] : List ByteArray)) (inner := []) (ok := fun _ => True) (okp := fun _ => True) ?hr ?hp (fun _ hk => hk) trivial (Below.refl _ _) (Nat.le_refl _) (by simp) ?_; (case hd => rfl); (case hg => rfl); (case hr => first | (go_simp; done) | (go_simp; rfl)); (case hp => exact (Reps.none _ _)); intro v320 w2 ho3 hb hg_ hnew_; clear hg_ hnew_; (first | rw [← Ny319.out] at ho3 | (simp only [Int.reduceToNat] at ho3; rw [← Ny319.out] at ho3)); have n0_ := Aside0.mk (Kd.R_lower ho3 (below_size (by repeat (first | (with_reducible first | exact HB.out | apply below_alloc | apply pw_below_drewN | apply below_drew1) | exact HB.out)))); have n1_ := Aside0.mk (below_step (by repeat (first | (with_reducible first | exact HB.out | apply below_alloc | apply pw_below_drewN | apply below_drew1) | exact HB.out)) hb); clear HB; have HO321 := n0_; have HB := n1_; clear n0_ n1_; clear hb ho3))
  go_loopg [3, 9] k (fun kq v3 v9 w' => ∃ (x3_1 : List ByteArray) (x9_1 : Int), v9 = .int .i64 x9_1 ∧ Aside0 (laws_written.l0 kq x3_1 l0 (l0.length : Int) x9_1 = some r) ∧ Aside0 (kq ≤ k) ∧ Aside0 (Kd.R Kd.string 9 w' w.heap.size (fun _ => True) v3 x3_1) ∧ Aside0 (Below w.heap.size w w'))
  case atStart => exact ⟨(y319), (0), (by first | rfl | (simp; done) | (simp [*]; done)), H', ⟨Nat.le_refl _⟩, ⟨by (with_reducible repeat (first | apply Kd.R_alloc | apply Kd.R_drewN | apply Kd.R_drew)); exact HO321.out⟩, ⟨by repeat (first | (with_reducible first | exact HB.out | apply below_alloc | apply pw_below_drewN | apply below_drew1) | exact HB.out)⟩⟩
  case round =>
    clear H'
    try clear c1
    try clear p2
    obtain ⟨x3_1, x9_1, rfl, HA, HK1, HO_3, HB⟩ := hrel
    cases gk with
    | zero => exact absurd HA.out (by simp [laws_written.l0])
    | succ k1 =>
      have H := HA.out
      clear HA
      simp only [laws_written.l0] at H
      by_cases c4 : x9_1 < (l0.length : Int)
      · rw [if_pos c4] at H
        have c4b0 : decide (x9_1 < (l0.length : Int)) = true := decide_eq_true c4
        clear c4
        by_cases c5 : 0 ≤ x9_1
        · rw [if_pos c5] at H
          have c5b0 : decide (0 ≤ x9_1) = true := decide_eq_true c5
          clear c5
          by_cases c6 : x9_1 < (l0.length : Int)
          · rw [if_pos c6] at H
            have c6b0 : decide (x9_1 < (l0.length : Int)) = true := decide_eq_true c6
            clear c6
            replace H := Option.bind_eq_some_iff.mp H
            obtain ⟨t324, A70, H⟩ := H
            replace H : (if x3_1.length < 8796093022208 then (laws_written.l0 k1 (x3_1 ++ [t324]) l0 (l0.length : Int) (wrap64 (x9_1 + 1))) else (none)) = some r := H
            have A7 := Aside0.mk A70
            clear A70
            by_cases c8 : x3_1.length < 8796093022208
            · rw [if_pos c8] at H
              have LMc8 := Aside0.mk c8
              clear c8
              obtain ⟨y325, hy325⟩ : ∃ y_ : List ByteArray, y_ = (x3_1 ++ [t324]) := ⟨_, rfl⟩
              replace H : (laws_written.l0 k1 y325 l0 (l0.length : Int) (wrap64 (x9_1 + 1))) = some r := by first | (rw [hy325]; with_reducible exact H) | (have H2_ := (Option.bind_some _ _).symm.trans H; rw [hy325]; with_reducible exact H2_) | (have H2_ := (Option.bind_some _ _).symm.trans H; with_reducible exact H2_) | with_reducible exact H | (rw [hy325]; exact H) | exact H
              have Ny325 := Aside0.mk hy325
              clear hy325
              have H' := Aside0.mk H
              clear H
              have p322 : 0 ≤ (x9_1 : Int) := of_decide_eq_true (by first | (with_reducible assumption) | assumption)
              have q322 : x9_1 < (l0.length : Int) := of_decide_eq_true (by first | (with_reducible assumption) | assumption)
              obtain ⟨ad322, A322_2, c322_2, e322, hx322_0, hx322_1, hx322_2, hl322_2, hi322_2⟩ := at_T35 HR0.out x9_1 p322 q322
              cases e322
              replace hx322_0 := (HB.out.cell (World.block_lt_of_cell? w _ hx322_0)).trans hx322_0
              replace hx322_1 := (HB.out.cell (World.block_lt_of_cell? w _ hx322_1)).trans hx322_1
              replace hx322_2 := (HB.out.cell (World.block_lt_of_cell? w _ hx322_2)).trans hx322_2
              have HR322_2 := Aside0.mk hi322_2
              have HC322_2 := Aside0.mk hl322_2
              clear hi322_2 hl322_2
              replace p322 := eq_true p322
              replace q322 := eq_true q322
              go_wp2_with (first | ((with_reducible refine gate_dst (N := 5) rfl ?_); refine box_event ?hg (N := 5) ?hd (cs := #[.string (⟨#[]⟩ : ByteArray), .string (⟨#[]⟩ : ByteArray), .slice none 0 0]) (t := 35) ?hr ?_; (case hd => rfl); (case hg => rfl); (case hr => first | (go_simp; done) | (go_simp; rfl)); intro gb323 hg w9 hbox hb; have n0_ := Aside0.mk (Kd.R_below (by (with_reducible repeat (first | apply Kd.R_alloc | apply Kd.R_drewN | apply Kd.R_drew)); exact HO_3.out) hb); have n1_ := Aside0.mk (below_step (by repeat (first | (with_reducible first | exact HB.out | apply below_alloc | apply pw_below_drewN | apply below_drew1) | exact HB.out)) hb); have n2_ := Aside0.mk (hbox); have n3_ := Aside0.mk ((by rw [hg]; exact (below_size (by repeat (first | (with_reducible first | exact HB.out | apply below_alloc | apply pw_below_drewN | apply below_drew1) | exact HB.out))) : w.heap.size ≤ gb323)); have n4_ := Aside0.mk ((by rw [hg]; exact (below_size (by repeat (first | (with_reducible first | exact HB.out | apply below_alloc | apply pw_below_drewN | apply below_drew1) | exact HB.out))) : w.heap.size ≤ gb323)); clear HO_3; clear HB; have HO_3 := n0_; have HB := n1_; have BK323 := n2_; have GW323 := n3_; have GE323 := n4_; clear n0_ n1_ n2_ n3_ n4_; clear hb hbox hg; have hcz10_0 : w9.cell? ⟨gb323, 0, none⟩ = some (.string (⟨#[]⟩ : ByteArray)) := (blk_cell BK323.out 0).trans rfl; have hcz10_1 : w9.cell? ⟨gb323, 1, none⟩ = some (.string (⟨#[]⟩ : ByteArray)) := (blk_cell BK323.out 1).trans rfl; have hcz10_2 : w9.cell? ⟨gb323, 2, none⟩ = some (.slice none 0 0) := (blk_cell BK323.out 2).trans rfl; have hfz10_0 := blk_frozen BK323.out 0; have hfz10_1 := blk_frozen BK323.out 1; have hfz10_2 := blk_frozen BK323.out 2) | ((with_reducible refine gate_callee (f := 21) rfl ?_); refine goesL_ (some 15) rfl rfl Tryz.func21 (by kernel_rfl) rfl #[.agg #[.string ((rd_T35 l0 x9_1).f0), .string ((rd_T35 l0 x9_1).f1), .slice A322_2 ((rd_T35 l0 x9_1).f2).length c322_2]] rfl (by (try simp only [List.map_toArray, List.map_cons, List.map_nil]); first | done | rfl | (simp only [List.length_drop, List.length_take]; rfl)) ?_; (with_reducible refine (spec_Write.calls k1 ((rd_T35 l0 x9_1).f0) ((rd_T35 l0 x9_1).f1) _ _ ((rd_T35 l0 x9_1).f2) t324 _ ?side1 ?side2 A7.out).mono ?_); (case side1 => exact Kd.C_below HR322_2.out (by repeat (first | (with_reducible first | exact HB.out | apply below_alloc | apply pw_below_drewN | apply below_drew1 | refine below_set ?_ GE323.out) | exact HB.out))); (case side2 => exact HC322_2.out); rintro e w11 ⟨rfl, hb⟩; refine ⟨_, rfl, ?_⟩; have n0_ := Aside0.mk (Kd.R_below (by (with_reducible repeat (first | apply Kd.R_alloc | apply Kd.R_drewN | apply Kd.R_drew)); exact (Kd.R_mono (Kd.R_far (p := ⟨gb323, 2, none⟩) (Kd.R_far (p := ⟨gb323, 1, none⟩) (Kd.R_far (p := ⟨gb323, 0, none⟩) (Kd.R_types HO_3.out BK323.out (by decide)) (fun _ hk => hk.2) (.string ((rd_T35 l0 x9_1).f0))) (fun _ hk => hk.2) (.string ((rd_T35 l0 x9_1).f1))) (fun _ hk => hk.2) (.slice A322_2 ((rd_T35 l0 x9_1).f2).length c322_2)) (fun _ h_ => h_.1))) hb); have n1_ := Aside0.mk (blk_below (g := gb323) (o := .cells #[.string ((rd_T35 l0 x9_1).f0), .string ((rd_T35 l0 x9_1).f1), .slice A322_2 ((rd_T35 l0 x9_1).f2).length c322_2] 35 (0, 0)) (by (with_reducible repeat (first | refine blk_drewN ?_ _ | refine blk_drew ?_ | refine blk_alloc ?_ _)); refine blk_put (cs := #[.string ((rd_T35 l0 x9_1).f0), .string ((rd_T35 l0 x9_1).f1), .slice none 0 0]) ?_ 2 _ rfl; (with_reducible repeat (first | refine blk_drewN ?_ _ | refine blk_drew ?_ | refine blk_alloc ?_ _)); refine blk_put (cs := #[.string ((rd_T35 l0 x9_1).f0), .string (⟨#[]⟩ : ByteArray), .slice none 0 0]) ?_ 1 _ rfl; (with_reducible repeat (first | refine blk_drewN ?_ _ | refine blk_drew ?_ | refine blk_alloc ?_ _)); refine blk_put (cs := #[.string (⟨#[]⟩ : ByteArray), .string (⟨#[]⟩ : ByteArray), .slice none 0 0]) ?_ 0 _ rfl; (with_reducible repeat (first | refine blk_drewN ?_ _ | refine blk_drew ?_ | refine blk_alloc ?_ _)); exact BK323.out) hb); have n2_ := Aside0.mk (below_step (by repeat (first | (with_reducible first | exact HB.out | apply below_alloc | apply pw_below_drewN | apply below_drew1 | refine below_set ?_ GE323.out) | exact HB.out)) hb); clear HO_3; clear BK323; clear HB; have HO_3 := n0_; have BK323 := n1_; have HB := n2_; clear n0_ n1_ n2_; (try clear hb); (try clear hb2); (try clear hk); (try clear hi)) | ((with_reducible refine gate_builtin (b := .append) (xs := #[.tmp 13, .tmp 16]) rfl ?_); at_builtin; refine Kd.R_append Kd.string (w0 := w) w.heap.size rfl (.tmp 13) (.tmp 16) 26 9 (.string ⟨#[]⟩) 16 rfl Tryz.underlying26 info9 rfl (by decide) (by omega) u3 x3_1 t324 [.string t324] (fun _ => True) (fun _ => False) rfl rfl ?aP (fun _ hk => hk.elim) ?aF ?aO ?aB ?aS ?aL ?_; (case aP => exact rfl); (case aB => exact (by repeat (first | (with_reducible first | exact HB.out | apply below_alloc | apply pw_below_drewN | apply below_drew1 | refine below_set ?_ GE323.out) | exact HB.out))); (case aF => exact (fun _ _ => trivial)); (case aO => exact (by (with_reducible repeat (first | apply Kd.R_alloc | apply Kd.R_drewN | apply Kd.R_drew)); exact HO_3.out)); (case aS => exact (below_size (by repeat (first | (with_reducible first | exact HB.out | apply below_alloc | apply pw_below_drewN | apply below_drew1 | refine below_set ?_ GE323.out) | exact HB.out)))); (case aL => have := LMc8.out; omega); intro v326 w12 ho hb hg hat; rw [← Ny325.out] at ho; have n0_ := Aside0.mk (blk_grown (g := gb323) (o := .cells #[.string ((rd_T35 l0 x9_1).f0), .string ((rd_T35 l0 x9_1).f1), .slice A322_2 ((rd_T35 l0 x9_1).f2).length c322_2] 35 (0, 0)) (by (with_reducible repeat (first | refine blk_drewN ?_ _ | refine blk_drew ?_ | refine blk_alloc ?_ _)); exact BK323.out) hg (Kd.R_ne HO_3.out BK323.out (by decide))); have n1_ := Aside0.mk (hb); have n2_ := Aside0.mk (ho); clear BK323; clear HB; clear HO_3; have BK323 := n0_; have HB := n1_; have HO327 := n2_; clear n0_ n1_ n2_; clear ho hb hg hat))
              go_roundg k1
              case measure => have := HK1.out; omega
              case rel => exact ⟨(y325), (wrap64 (x9_1 + 1)), (by first | rfl | (simp; done) | (simp [*]; done)), H', ⟨by have := HK1.out; omega⟩, ⟨by (with_reducible repeat (first | apply Kd.R_alloc | apply Kd.R_drewN | apply Kd.R_drew)); exact HO327.out⟩, ⟨by repeat (first | (with_reducible first | exact HB.out | apply below_alloc | apply pw_below_drewN | apply below_drew1 | refine below_set ?_ GE323.out) | exact HB.out)⟩⟩
            · rw [if_neg c8] at H
              exact absurd H (by simp)
          · rw [if_neg c6] at H
            exact absurd H (by simp)
        · rw [if_neg c5] at H
          exact absurd H (by simp)
      · rw [if_neg c4] at H
        have c4b0 : decide (x9_1 < (l0.length : Int)) = false := decide_eq_false c4
        clear c4
        obtain rfl := Option.some.inj H
        go_wp2
        go_ret
        exact ⟨_, by first | rfl | (simp [errW_none, errW_some] <;> rfl) | (simp [*, errW_none, errW_some] <;> rfl), by (with_reducible repeat (first | apply Kd.R_alloc | apply Kd.R_drewN | apply Kd.R_drew)); exact HO_3.out, by repeat (first | (with_reducible first | exact HB.out | apply below_alloc | apply pw_below_drewN | apply below_drew1) | exact HB.out)⟩
end Go.Proofs.YtcedefabmelogaaGreatDoor.PFnAllowed
