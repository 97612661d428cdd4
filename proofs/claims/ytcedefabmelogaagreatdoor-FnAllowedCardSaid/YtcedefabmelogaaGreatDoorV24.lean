/- The walk of spec.Good, one way: where it says true, the pattern is in order. -/
import Derived.Test.YtcedefabmelogaaGreatDoorV23
import Derived.Deep.CutBlock
namespace Go.Proofs.YtcedefabmelogaaGreatDoor.H
open Go.RowKit Go.Proofs.YtcedefabmelogaaGreatDoorW.PrintWords Go.Proofs.YtcedefabmelogaaGreatDoorW.PrintLast Go.Proofs.YtcedefabmelogaaGreatDoorW.PrintMore
open Go.Proofs.YtcedefabmelogaaGreatDoor.PFnAllowed
set_option linter.unusedVariables false
set_option linter.unusedSimpArgs false
set_option maxRecDepth 100000
def NameP (s : ByteArray) : Prop := (∀ y : Int, 0 ≤ y → y < s.size → (65 ≤ bt s y ∧ bt s y ≤ 90) ∨ (97 ≤ bt s y ∧ bt s y ≤ 122) ∨ bt s y = 95 ∨ (y ≠ 0 ∧ 48 ≤ bt s y ∧ bt s y ≤ 57)) ∧ s.toList ≠ []
def LitP (s : ByteArray) : Prop := s.toList ≠ [] ∧ s.toList ≠ [46] ∧ s.toList ≠ [46, 46] ∧ s.size ≤ 16 ∧ ∀ y : Int, 0 ≤ y → y < s.size → 33 ≤ bt s y ∧ bt s y ≤ 126 ∧ bt s y ≠ 47 ∧ bt s y ≠ 37 ∧ bt s y ≠ 123 ∧ bt s y ≠ 125
structure SegF (l : List S52) (i : Nat) (hi : i < l.length) : Prop where
  size : (l[i]).f0.size ≤ 16
  multi : (l[i]).f2 = true → (l[i]).f1 = true ∧ i + 1 = l.length ∧ ((l[i]).f0.toList = [] ∨ NameP (l[i]).f0)
  wild : (l[i]).f1 = true → (l[i]).f2 = false → NameP (l[i]).f0
  fin : (l[i]).f1 = false → (l[i]).f0.toList = [47] → i + 1 = l.length
  lit : (l[i]).f1 = false → (l[i]).f0.toList ≠ [47] → LitP (l[i]).f0
  dist : ∀ j (hj : j < i), (l[i]).f1 = true → (l[j]).f1 = true → (l[i]).f0.toList ≠ (l[j]).f0.toList
structure GoodP (m h : ByteArray) (l : List S52) : Prop where
  meth : (∀ y : Int, 0 ≤ y → y < m.size → (65 ≤ bt m y ∧ bt m y ≤ 90) ∨ (97 ≤ bt m y ∧ bt m y ≤ 122)) ∧ m.size < 12
  host : (∀ y : Int, 0 ≤ y → y < h.size → (97 ≤ bt h y ∧ bt h y ≤ 122) ∨ bt h y = 46 ∨ bt h y = 45 ∨ (48 ≤ bt h y ∧ bt h y ≤ 57)) ∧ h.size < 20
  ne : l ≠ []
  six : l.length ≤ 6
  seg : ∀ i (hi : i < l.length), SegF l i hi
/-- A segment alone. -/
def PreF (n x : Nat) (f0 : ByteArray) (f1 f2 : Bool) : Prop :=
  f0.size ≤ 16 ∧ (f2 = true → f1 = true ∧ x + 1 = n ∧ (f0.toList = [] ∨ NameP f0)) ∧ (f1 = true → f2 = false → NameP f0) ∧ (f1 = false → f0.toList = [47] → x + 1 = n) ∧ (f1 = false → f0.toList ≠ [47] → LitP f0)
theorem last_eq (x n : Nat) (h : x < n) (hn : n ≤ 2147483647) : ((x : Int) == wrap64 ((n : Int) - 1)) = decide (x + 1 = n) := by
  rw [wrap_in _ (by omega) (by omega)]
  by_cases e : x + 1 = n
  · rw [decide_eq_true e, beq_iff_eq]; omega
  · rw [decide_eq_false e, beq_eq_false_iff_ne]; omega
def DistTo (l : List S52) (y : Nat) (f0 : ByteArray) (f1 : Bool) : Prop := ∀ j (hj : j < l.length), j < y → f1 = true → (l[j]).f1 = true → f0.toList ≠ (l[j]).f0.toList
/-- What a call tells: a Bool, and what follows where it is true. -/
structure Tells (G : Prop) (w : World) (e : Ending) (w' : World) : Prop where
  ex : ∃ b, e = .returned (.bool b) ∧ (b = true → G) ∧ Below w.heap.size w w'
set_option maxHeartbeats 2000000 in
theorem Good_weak (m h : ByteArray) (A : Option Addr) (c : Nat) (l : List S52) (w : World) (hr : Kd.C k52 w A l.length l) (hc : l.length ≤ c) (hms : m.size ≤ 2147483647) (hhs : h.size ≤ 2147483647) (hss : ∀ s ∈ l, s.f0.size ≤ 2147483647) (hll : l.length ≤ 2147483647) :
    Calls Tryz.prog 17 #[.agg #[.string m, .string h, .slice A l.length c]] w (Tells (GoodP m h l) w) := by
  obtain ⟨k1, rm, hk1, hrm⟩ := Method_pure m hms
  obtain ⟨k2, rh, hk2, hrh⟩ := Host_pure h hhs
  have HM := Aside0.mk (fun w => spec_Method.calls k1 m rm w hk1)
  have HH := Aside0.mk (fun w => spec_Host.calls k2 h rh w hk2)
  have HRM := Aside0.mk hrm
  have HRH := Aside0.mk hrh
  have HR := Aside0.mk hr
  have HS := Aside0.mk hss
  have hu35 := Tryz.underlying35
  have hu52 := Tryz.underlying52
  have HB := Aside0.mk (below_alloc (Below.refl w.heap.size w) (.cells #[.string m, .string h, .slice A l.length c] 35))
  clear hk1 hrm hk2 hrh hr hss hms hhs
  cases rm with
  | false =>
    go_enter Tryz.func17, Tryz.ntmps17
    go_wp2_with (go_at_call 23; refine (HM.out _).mono ?_; rintro e w1 ⟨rfl, n1, rfl⟩)
    go_ret
    exact ⟨false, rfl, nofun, pw_below_drewN (below_alloc (Below.refl w.heap.size w) _) _⟩
  | true =>
    cases rh with
    | false =>
      go_enter Tryz.func17, Tryz.ntmps17
      go_wp2_with (first | (go_at_call 23; refine (HM.out _).mono ?_; rintro e w1 ⟨rfl, n1, rfl⟩) | (go_at_call 7; refine (HH.out _).mono ?_; rintro e w1 ⟨rfl, n2, rfl⟩))
      go_ret
      exact ⟨false, rfl, nofun, pw_below_drewN (below_alloc (Below.refl w.heap.size w) _) _⟩
    | true =>
      have hbx := heap_alloc_new w (.cells #[.string m, .string h, .slice A l.length c] 35)
      have HBX := Aside0.mk hbx
      clear hbx
      have HLL := Aside0.mk hll
      have HCC := Aside0.mk hc
      clear hll hc
      by_cases h0 : l.length = 0
      · have hz : ((l.length : Int) == 0) = true := by rw [h0]; rfl
        clear h0
        go_enter Tryz.func17, Tryz.ntmps17
        go_wp2_with (first | (go_at_call 23; refine (HM.out _).mono ?_; rintro e w1 ⟨rfl, n1, rfl⟩) | (go_at_call 7; refine (HH.out _).mono ?_; rintro e w1 ⟨rfl, n2, rfl⟩))
        all_goals go_ret
        all_goals exact ⟨false, rfl, nofun, pw_below_drewN (below_alloc (Below.refl w.heap.size w) _) _⟩
      have HNE := Aside0.mk h0
      have hz : ((l.length : Int) == 0) = false := by rw [beq_eq_false_iff_ne]; omega
      clear h0
      by_cases h6 : 6 < l.length
      · have hs6 : decide ((6 : Int) < (l.length : Int)) = true := decide_eq_true (by omega)
        clear h6
        go_enter Tryz.func17, Tryz.ntmps17
        go_wp2_with (first | (go_at_call 23; refine (HM.out _).mono ?_; rintro e w1 ⟨rfl, n1, rfl⟩) | (go_at_call 7; refine (HH.out _).mono ?_; rintro e w1 ⟨rfl, n2, rfl⟩))
        all_goals go_ret
        all_goals exact ⟨false, rfl, nofun, pw_below_drewN (below_alloc (Below.refl w.heap.size w) _) _⟩
      · have hs6 : decide ((6 : Int) < (l.length : Int)) = false := decide_eq_false (by omega)
        have HSIX := Aside0.mk h6
        clear h6
        go_enter Tryz.func17, Tryz.ntmps17
        go_wp2_with (first | (go_at_call 23; refine (HM.out _).mono ?_; rintro e w1 ⟨rfl, n1, rfl⟩) | (go_at_call 7; refine (HH.out _).mono ?_; rintro e w1 ⟨rfl, n2, rfl⟩))
        clear hz hs6
        go_loopw [33] (fun v wr => ∃ x : Nat, v = .int .i64 x ∧ x ≤ l.length ∧ Aside0 (∀ i (hi : i < l.length), i < x → SegF l i hi) ∧ Aside0 (Below w.heap.size w wr) ∧ Aside0 (wr.heap[w.heap.size]? = some (.cells #[.string m, .string h, .slice A l.length c] 35 (0, 0)))) (fun v _ => l.length - (intOf v).toNat)
        case atStart => exact ⟨0, rfl, Nat.zero_le _, ⟨fun i hi h => by omega⟩, ⟨pw_below_drewN (below_alloc (Below.refl w.heap.size w) _) _⟩, ⟨HBX.out⟩⟩
        case round =>
          obtain ⟨x, rfl, hxl, HSG, HBR, HXR⟩ := hrel
          obtain ⟨wo, rfl⟩ : ∃ wo : World, wo = wr := ⟨_, rfl⟩
          have hc0 : wo.cell? ⟨w.heap.size, 0, none⟩ = some (.string m) := (blk_cell HXR.out 0).trans rfl
          have hc2 : wo.cell? ⟨w.heap.size, 2, none⟩ = some (.slice A l.length c) := (blk_cell HXR.out 2).trans rfl
          have hbb := blk_lt HXR.out
          by_cases hlt : x < l.length
          · obtain ⟨ad, eA, k0, k1, k2⟩ := at_T52 (Kd.C_below HR.out HBR.out) (x : Int) (by omega) (by omega)
            subst eA
            have hsg : rd_T52 l (x : Int) = l[x] := by simp [rd_T52, hlt]
            rw [hsg] at k0 k1 k2
            simp only [Int.toNat_natCast] at k0 k1 k2
            have hb0 := World.block_lt_of_cell? wo _ k0
            have hb1 : (ad.add (x * 3)).block < wo.heap.size := hb0
            have HSX := Aside0.mk (HS.out l[x] (List.getElem_mem hlt))
            obtain ⟨f0, f1, f2, hseg⟩ : ∃ f0 f1 f2, l[x] = (⟨f0, f1, f2⟩ : S52) := ⟨_, _, _, rfl⟩
            have HSEG := Aside0.mk hseg
            rw [hseg] at k0 k1 k2 HSX
            clear hseg hsg
            simp only at k0 k1 k2 HSX
            have hle := last_eq x l.length hlt HLL.out
            obtain ⟨la, hla⟩ : ∃ la, la = decide (x + 1 = l.length) := ⟨_, rfl⟩
            rw [← hla] at hle
            have HLB := Aside0.mk hla
            clear hla
            have HB2 := Aside0.mk (HBR.out.alloc HBR.out.size (.cells #[.string f0, .bool f1, .bool f2] 52))
            obtain ⟨kn, rn, hkn, hrn⟩ := Name_pure f0 HSX.out
            obtain ⟨kl, rl, hkl, hrl⟩ := Literal_pure f0 HSX.out
            have HN := Aside0.mk (fun w => spec_Name.calls kn f0 rn w hkn)
            have HLi := Aside0.mk (fun w => spec_Literal.calls kl f0 rl w hkl)
            have HRN := Aside0.mk hrn
            have HRL := Aside0.mk hrl
            clear hkn hrn hkl hrl
            go_upto_block 2 with fail
            go_cut [44] from 45 to 113 (fun v44 wx => Aside0 (PreF l.length x f0 f1 f2) ∧ ∃ n, wx = (wo.alloc (.cells #[.string f0, .bool f1, .bool f2] 52)).drewN n)
            case first =>
              by_cases h16 : 16 < f0.size
              · have h16b : decide ((16 : Int) < (f0.size : Int)) = true := decide_eq_true (by omega)
                clear h16
                go_wp2_with (first | (go_at_call 24; refine (HN.out _).mono ?_; rintro e w1 ⟨rfl, n3, rfl⟩) | (go_at_call 25; refine (HLi.out _).mono ?_; rintro e w1 ⟨rfl, n4, rfl⟩))
                go_ret
                exact ⟨false, rfl, nofun, by first | exact HB2.out | exact pw_below_drewN HB2.out _⟩
              · have h16b : decide ((16 : Int) < (f0.size : Int)) = false := decide_eq_false (by omega)
                have H16 := Aside0.mk (show f0.size ≤ 16 by omega)
                clear h16
                cases f2 with
                | true =>
                  cases f1 with
                  | true =>
                    cases la with
                    | true =>
                      have HLA := Aside0.mk (of_decide_eq_true HLB.out.symm)
                      by_cases hem : f0.toList = []
                      · have hpe : f0.toList.isEmpty = true := by rw [hem]; rfl
                        have HEM := Aside0.mk hem
                        clear hem
                        go_wp2_with (first | (go_at_call 24; refine (HN.out _).mono ?_; rintro e w1 ⟨rfl, n3, rfl⟩) | (go_at_call 25; refine (HLi.out _).mono ?_; rintro e w1 ⟨rfl, n4, rfl⟩))
                        go_meet
                        case rel => exact ⟨⟨H16.out, fun _ => ⟨rfl, HLA.out, .inl HEM.out⟩, fun _ h => Bool.noConfusion h, fun h => Bool.noConfusion h, fun h => Bool.noConfusion h⟩, by first | exact ⟨_, rfl⟩ | exact ⟨0, rfl⟩⟩
                      · have hpe : f0.toList.isEmpty = false := by rw [List.isEmpty_eq_false_iff]; exact hem
                        clear hem
                        cases rn with
                        | true =>
                          go_wp2_with (first | (go_at_call 24; refine (HN.out _).mono ?_; rintro e w1 ⟨rfl, n3, rfl⟩) | (go_at_call 25; refine (HLi.out _).mono ?_; rintro e w1 ⟨rfl, n4, rfl⟩))
                          go_meet
                          case rel => exact ⟨⟨H16.out, fun _ => ⟨rfl, HLA.out, .inr (HRN.out (by simp))⟩, fun _ h => Bool.noConfusion h, fun h => Bool.noConfusion h, fun h => Bool.noConfusion h⟩, by first | exact ⟨_, rfl⟩ | exact ⟨0, rfl⟩⟩
                        | false =>
                          go_wp2_with (first | (go_at_call 24; refine (HN.out _).mono ?_; rintro e w1 ⟨rfl, n3, rfl⟩) | (go_at_call 25; refine (HLi.out _).mono ?_; rintro e w1 ⟨rfl, n4, rfl⟩))
                          go_ret
                          exact ⟨false, rfl, nofun, by first | exact HB2.out | exact pw_below_drewN HB2.out _⟩
                    | false =>
                      go_wp2_with (first | (go_at_call 24; refine (HN.out _).mono ?_; rintro e w1 ⟨rfl, n3, rfl⟩) | (go_at_call 25; refine (HLi.out _).mono ?_; rintro e w1 ⟨rfl, n4, rfl⟩))
                      go_ret
                      exact ⟨false, rfl, nofun, by first | exact HB2.out | exact pw_below_drewN HB2.out _⟩
                  | false =>
                    go_wp2_with (first | (go_at_call 24; refine (HN.out _).mono ?_; rintro e w1 ⟨rfl, n3, rfl⟩) | (go_at_call 25; refine (HLi.out _).mono ?_; rintro e w1 ⟨rfl, n4, rfl⟩))
                    go_ret
                    exact ⟨false, rfl, nofun, by first | exact HB2.out | exact pw_below_drewN HB2.out _⟩
                | false =>
                  cases f1 with
                  | true =>
                    cases rn with
                    | true =>
                      go_wp2_with (first | (go_at_call 24; refine (HN.out _).mono ?_; rintro e w1 ⟨rfl, n3, rfl⟩) | (go_at_call 25; refine (HLi.out _).mono ?_; rintro e w1 ⟨rfl, n4, rfl⟩))
                      go_meet
                      case rel => exact ⟨⟨H16.out, fun h => Bool.noConfusion h, fun _ _ => HRN.out (by simp), fun h => Bool.noConfusion h, fun h => Bool.noConfusion h⟩, by first | exact ⟨_, rfl⟩ | exact ⟨0, rfl⟩⟩
                    | false =>
                      go_wp2_with (first | (go_at_call 24; refine (HN.out _).mono ?_; rintro e w1 ⟨rfl, n3, rfl⟩) | (go_at_call 25; refine (HLi.out _).mono ?_; rintro e w1 ⟨rfl, n4, rfl⟩))
                      go_ret
                      exact ⟨false, rfl, nofun, by first | exact HB2.out | exact pw_below_drewN HB2.out _⟩
                  | false =>
                    by_cases h47 : f0.toList = [47]
                    · have h47b : (f0.toList == [47]) = true := beq_iff_eq.2 h47
                      have h47n : (f0.toList != [47]) = false := by rw [bne, h47b]; rfl
                      have H47 := Aside0.mk h47
                      clear h47
                      cases la with
                      | true =>
                        have HLA := Aside0.mk (of_decide_eq_true HLB.out.symm)
                        go_wp2_with (first | (go_at_call 24; refine (HN.out _).mono ?_; rintro e w1 ⟨rfl, n3, rfl⟩) | (go_at_call 25; refine (HLi.out _).mono ?_; rintro e w1 ⟨rfl, n4, rfl⟩))
                        go_meet
                        case rel => exact ⟨⟨H16.out, fun h => Bool.noConfusion h, fun h => Bool.noConfusion h, fun _ _ => HLA.out, fun _ h => absurd H47.out h⟩, by first | exact ⟨_, rfl⟩ | exact ⟨0, rfl⟩⟩
                      | false =>
                        go_wp2_with (first | (go_at_call 24; refine (HN.out _).mono ?_; rintro e w1 ⟨rfl, n3, rfl⟩) | (go_at_call 25; refine (HLi.out _).mono ?_; rintro e w1 ⟨rfl, n4, rfl⟩))
                        go_ret
                        exact ⟨false, rfl, nofun, by first | exact HB2.out | exact pw_below_drewN HB2.out _⟩
                    · have h47b : (f0.toList == [47]) = false := beq_eq_false_iff_ne.2 h47
                      have h47n : (f0.toList != [47]) = true := by rw [bne, h47b]; rfl
                      have H47 := Aside0.mk h47
                      clear h47
                      cases rl with
                      | true =>
                        go_wp2_with (first | (go_at_call 24; refine (HN.out _).mono ?_; rintro e w1 ⟨rfl, n3, rfl⟩) | (go_at_call 25; refine (HLi.out _).mono ?_; rintro e w1 ⟨rfl, n4, rfl⟩))
                        go_meet
                        case rel => exact ⟨⟨H16.out, fun h => Bool.noConfusion h, fun h => Bool.noConfusion h, fun _ h => absurd h H47.out, fun _ _ => HRL.out (by simp)⟩, by first | exact ⟨_, rfl⟩ | exact ⟨0, rfl⟩⟩
                      | false =>
                        go_wp2_with (first | (go_at_call 24; refine (HN.out _).mono ?_; rintro e w1 ⟨rfl, n3, rfl⟩) | (go_at_call 25; refine (HLi.out _).mono ?_; rintro e w1 ⟨rfl, n4, rfl⟩))
                        go_ret
                        exact ⟨false, rfl, nofun, by first | exact HB2.out | exact pw_below_drewN HB2.out _⟩
            case rest =>
              obtain ⟨HPF, nd, rfl⟩ := hcut
              have HB3 := Aside0.mk (pw_below_drewN HB2.out nd)
              have HXB := Aside0.mk (blk_alloc HXR.out (.cells #[.string f0, .bool f1, .bool f2] 52))
              have HXS := Aside0.mk (heap_alloc_new wo (.cells #[.string f0, .bool f1, .bool f2] 52))
              clear hle
              have hxc : x ≤ c := by have := HCC.out; omega
              have hll := HLL.out
              go_wp2_with fail
              have hwos := Aside0.mk HBR.out.size
              generalize hwn : wo.heap.size = sb at *
              clear hwn
              go_loopw [119] (fun v wq => ∃ y : Nat, v = .int .i64 y ∧ y ≤ x ∧ Aside0 (DistTo l y f0 f1) ∧ Aside0 (Below w.heap.size w wq) ∧ Aside0 (wq.heap[w.heap.size]? = some (.cells #[.string m, .string h, .slice (some ad) l.length c] 35 (0, 0))) ∧ Aside0 (wq.heap[sb]? = some (.cells #[.string f0, .bool f1, .bool f2] 52 (0, 0)))) (fun v _ => x - (intOf v).toNat)
              case atStart => exact ⟨0, rfl, Nat.zero_le _, ⟨fun j hj h => by omega⟩, ⟨HB3.out⟩, ⟨HXB.out⟩, ⟨HXS.out⟩⟩
              case round =>
                obtain ⟨y, rfl, hyx, HDS, HBQ, HXQ, HSQ⟩ := hrel
                obtain ⟨wi, rfl⟩ : ∃ wi : World, wi = wr := ⟨_, rfl⟩
                clear hc0 hc2 hbb k0 k1 k2 hb0 hb1
                have hs0 : wi.cell? ⟨sb, 0, none⟩ = some (.string f0) := (blk_cell HSQ.out 0).trans rfl
                have hs1 : wi.cell? ⟨sb, 1, none⟩ = some (.bool f1) := (blk_cell HSQ.out 1).trans rfl
                have hsb := blk_lt HSQ.out
                by_cases hyt : y < x
                · have hyl : y < l.length := by omega
                  have HYT := Aside0.mk hyt
                  obtain ⟨ad', eA, k0, k1, k2⟩ := at_T52 (Kd.C_below HR.out HBQ.out) (y : Int) (by omega) (by omega)
                  obtain rfl : ad = ad' := by injection eA
                  have hsg : rd_T52 l (y : Int) = l[y] := by simp [rd_T52, hyl]
                  rw [hsg] at k0 k1 k2
                  simp only [Int.toNat_natCast] at k0 k1 k2
                  have hb0 := World.block_lt_of_cell? wi _ k0
                  have hb1 : (ad.add (y * 3)).block < wi.heap.size := hb0
                  obtain ⟨g0, g1, g2, hseg⟩ : ∃ g0 g1 g2, l[y] = (⟨g0, g1, g2⟩ : S52) := ⟨_, _, _, rfl⟩
                  have HSEY := Aside0.mk hseg
                  rw [hseg] at k0 k1 k2
                  clear hseg hsg eA
                  simp only at k0 k1 k2
                  have HB4 := Aside0.mk (HBQ.out.alloc HBQ.out.size (.cells #[.string g0, .bool g1, .bool g2] 52))
                  have HX4 := Aside0.mk (blk_alloc HXQ.out (.cells #[.string g0, .bool g1, .bool g2] 52))
                  have HS4 := Aside0.mk (blk_alloc HSQ.out (.cells #[.string g0, .bool g1, .bool g2] 52))
                  have hse := str_eq f0 g0
                  by_cases hbad : f1 = true ∧ g1 = true ∧ f0 = g0
                  · obtain ⟨rfl, rfl, hf⟩ := hbad
                    rw [decide_eq_true hf] at hse
                    clear hf
                    go_wp2_with fail
                    go_ret
                    exact ⟨false, rfl, nofun, HB4.out⟩
                  · have hgo : Aside0 (f1 = true → g1 = true → f0.toList ≠ g0.toList) := ⟨fun h1 h2 h3 => hbad ⟨h1, h2, by
                      have := WideShapes.bytes_inj (a := f0) (b := g0) (by rw [← ByteArray.toList_eq, ← ByteArray.toList_eq]; exact h3)
                      exact this⟩⟩
                    have hdn : Aside0 (DistTo l (y + 1) f0 f1) := ⟨fun j hj hjy h1 h2 => by
                      by_cases e : j = y
                      · subst e; rw [HSEY.out] at h2 ⊢; exact hgo.out h1 h2
                      · exact HDS.out j hj (by omega) h1 h2⟩
                    cases f1 with
                    | false =>
                      clear hbad hse
                      go_wp2_with fail
                      go_roundw
                      case rel => exact ⟨y + 1, by go_num, by have := HYT.out; omega, ⟨hdn.out⟩, ⟨HB4.out⟩, ⟨HX4.out⟩, ⟨HS4.out⟩⟩
                      case measure => have := HYT.out; simp [intOf]; omega
                    | true =>
                      cases g1 with
                      | false =>
                        clear hbad hse
                        go_wp2_with fail
                        go_roundw
                        case rel => exact ⟨y + 1, by go_num, by have := HYT.out; omega, ⟨hdn.out⟩, ⟨HB4.out⟩, ⟨HX4.out⟩, ⟨HS4.out⟩⟩
                        case measure => have := HYT.out; simp [intOf]; omega
                      | true =>
                        rw [decide_eq_false (fun e => hbad ⟨rfl, rfl, e⟩)] at hse
                        clear hbad
                        go_wp2_with fail
                        go_roundw
                        case rel => exact ⟨y + 1, by go_num, by have := HYT.out; omega, ⟨hdn.out⟩, ⟨HB4.out⟩, ⟨HX4.out⟩, ⟨HS4.out⟩⟩
                        case measure => have := HYT.out; simp [intOf]; omega
                · obtain rfl : y = x := by omega
                  have hlt' := Aside0.mk hlt
                  go_wp2_with fail
                  go_roundw
                  case rel =>
                    refine ⟨y + 1, by go_num, by have := hlt'.out; omega, ⟨fun i hi hix => ?_⟩, ⟨HBQ.out⟩, ⟨HXQ.out⟩⟩
                    by_cases e : i = y
                    · subst e
                      obtain ⟨p1, p2, p3, p4, p5⟩ := HPF.out
                      refine ⟨by rw [HSEG.out]; exact p1, by rw [HSEG.out]; exact p2, by rw [HSEG.out]; exact p3, by rw [HSEG.out]; exact p4, by rw [HSEG.out]; exact p5, fun j hj => ?_⟩
                      rw [HSEG.out]
                      exact fun h1 h2 => HDS.out j (by omega) hj h1 h2
                    · exact HSG.out i hi (by omega)
                  case measure => have := hlt'.out; simp [intOf]; omega
          · obtain rfl : x = l.length := by omega
            clear hlt hxl
            go_wp2
            go_ret
            exact ⟨true, rfl, fun _ => ⟨HRM.out (by simp), HRH.out (by simp), fun e => HNE.out (by rw [e]; rfl), by have := HSIX.out; omega, fun i hi => HSG.out i hi hi⟩, HBR.out⟩
          end Go.Proofs.YtcedefabmelogaaGreatDoor.H
