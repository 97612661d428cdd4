/- The walk of the law: it returns true. -/
import Derived.Test.YtcedefabmelogaaGreatDoorV27
import Derived.Test.YtcedefabmelogaaGreatDoorV31
namespace Go.Proofs.YtcedefabmelogaaGreatDoor.H
open Go.RowKit Go.WideMaps Go.WideElems Go.Proofs.YtcedefabmelogaaGreatDoorW.PrintWords Go.Proofs.YtcedefabmelogaaGreatDoorW.PrintLast Go.Proofs.YtcedefabmelogaaGreatDoorW.PrintMore
open Go.Proofs.YtcedefabmelogaaGreatDoor.PFnAllowed
set_option linter.unusedVariables false
set_option linter.unusedSimpArgs false
set_option maxRecDepth 100000
theorem told1_iff {its : List ByteArray} {host f0 f1 : ByteArray} {f2 : List S52} (hm : matchB f2 its = true) (h0 : f0 ≠ ⟨#[]⟩) (h1 : f1 = ⟨#[]⟩ ∨ f1 = host) (j : ByteArray) : Told1 its host ⟨f0, f1, f2⟩ j ↔ j = f0 ∨ (f0 = GETb ∧ j = HEADb) :=
  ⟨fun h => h.2.2.2, fun h => ⟨hm, h0, h1, h⟩⟩
theorem toList_inj {a b : ByteArray} (h : a.toList = b.toList) : a = b := by rw [← bs_self a, h, bs_self]
theorem toList_beq (a b : ByteArray) : (a.toList == b.toList) = decide (a = b) := by
  by_cases e : a = b
  · rw [e, decide_eq_true rfl]; simp
  · rw [decide_eq_false e, beq_eq_false_iff_ne]
    exact fun h => e (toList_inj h)
set_option maxHeartbeats 4000000 in
theorem FnAllowed_walk (A0 : Option Addr) (c0 : Nat) (L : List S41) (host path : ByteArray) (w : World) (hr0 : Kd.C k41 w A0 L.length L) (hc0 : L.length ≤ c0) (ht : Tab w) :
    Calls Tryz.prog 3 #[.slice A0 L.length c0, .string host, .string path] w fun e w' => e = .returned (.bool true) ∧ Below w.heap.size w w' := by
  obtain ⟨k1, b1, hf1, hb1⟩ := zzFits5_pure L
  have HZ := Aside0.mk (laws_zzFits5.calls k1 A0 c0 L b1 w hr0 hc0 hf1)
  have HR := Aside0.mk hr0
  have HC := Aside0.mk hc0
  have HT := Aside0.mk ht
  have HL := Aside0.mk hb1
  have hu35 := Tryz.underlying35
  have hu52 := Tryz.underlying52
  clear hr0 hc0 ht hf1 hb1
  cases b1 with
  | false =>
    go_enter Tryz.func3, Tryz.ntmps3
    go_wp2_with (go_at_call 4; refine HZ.out.mono ?_; rintro e w1 ⟨rfl, hb⟩; have HB1 := Aside0.mk hb; clear hb)
    go_ret
    exact ⟨rfl, HB1.out⟩
  | true =>
    by_cases hhs : host.size ≤ 2147483647
    case neg =>
      go_enter Tryz.func3, Tryz.ntmps3
      go_wp2_with (go_at_call 4; refine HZ.out.mono ?_; rintro e w1 ⟨rfl, hb⟩; have HB1 := Aside0.mk hb; clear hb)
      all_goals go_ret
      all_goals exact ⟨rfl, HB1.out⟩
    by_cases hps : path.size ≤ 2147483647
    case neg =>
      go_enter Tryz.func3, Tryz.ntmps3
      go_wp2_with (go_at_call 4; refine HZ.out.mono ?_; rintro e w1 ⟨rfl, hb⟩; have HB1 := Aside0.mk hb; clear hb)
      all_goals go_ret
      all_goals exact ⟨rfl, HB1.out⟩
    obtain ⟨hll, hfit⟩ := HL.out rfl
    obtain ⟨k2, hf2⟩ := all_pure L hll hfit
    obtain ⟨P, hP⟩ : ∃ P, P = L.map c35 := ⟨_, rfl⟩
    have HPF := Aside0.mk (show ∀ p ∈ P, Fits p by rw [hP]; exact fits_c35 hfit)
    have HPL := Aside0.mk (show P.length ≤ 2147483647 by rw [hP, List.length_map]; exact hll)
    rw [← hP] at hf2
    have HF2 := Aside0.mk hf2
    obtain ⟨k3, r1, r2, hf3, hit⟩ := Items_pure path hps
    have HF3 := Aside0.mk hf3
    have HIT := Aside0.mk hit
    have HTS : ∃ ts, ts = P.map textOf := ⟨_, rfl⟩
    obtain ⟨ts, hts⟩ := HTS
    have HTS := Aside0.mk hts
    clear hts
    obtain ⟨k4, r4, hf4, hho⟩ := Host_pure host hhs
    have HF4 := Aside0.mk hf4
    have HHS := Aside0.mk hhs
    clear hll hfit hf2 hf3 hit hf4 hho hP HL
    go_enter Tryz.func3, Tryz.ntmps3
    go_upto_region 7 with (first
      | (go_at_call 4; refine HZ.out.mono ?_; rintro e w1 ⟨rfl, hb⟩; have HB1 := Aside0.mk hb; clear hb)
      | (go_at_call 5; refine (laws_all.calls k2 A0 c0 L P w1 (Kd.C_below HR.out HB1.out) HC.out HF2.out).mono ?_; rintro e w2 ⟨v7, rfl, hS, hb⟩; obtain ⟨A7, c7, rfl, hc7, hC7⟩ := Kd.S_reads hS; have HC7 := Aside0.mk hC7; have HL7 := Aside0.mk hc7; have HB2 := Aside0.mk (below_then HB1.out HB1.out.size hb); clear hS hb hc7 hC7)
      | (go_at_call 6; refine (spec_Items.calls k3 path r1 r2 w2 HF3.out).mono ?_; rintro e w3 ⟨v8, rfl, hR, hb⟩; obtain ⟨A8, c8, rfl, hc8, hC8⟩ := Kd.R_reads hR; have HC8 := Aside0.mk hC8; have HL8 := Aside0.mk hc8; have HB3 := Aside0.mk (below_then HB2.out HB2.out.size hb); have HB23 := Aside0.mk hb; clear hR hb hc8 hC8; cases r2)
      | (go_at_call 7; refine (spec_Host.calls k4 host r4 w3 HF4.out).mono ?_; rintro e w4 ⟨rfl, hd⟩; have HB34 := Aside0.mk hd.below; have HB4 := Aside0.mk (below_then HB3.out HB3.out.size hd.below); have HB24 := Aside0.mk (below_then HB23.out HB23.out.size hd.below); clear hd; cases r4)
      | (go_at_call 8; refine (AllGood_weak A7 c7 P w4 (Kd.C_below HC7.out HB24.out) HPL.out HPF.out).mono ?_; rintro e w5 ⟨b, rfl, hg, hb⟩; have HG := Aside0.mk hg; have HB35 := Aside0.mk (below_then HB34.out HB34.out.size hb); have HB5 := Aside0.mk (below_then HB4.out HB4.out.size hb); have HB25 := Aside0.mk (below_then HB24.out HB24.out.size hb); clear hg hb; cases b)
      | (go_at_call 9; obtain ⟨k5, r5, hf5, hd5⟩ := Peace_pure P (fun p hp => plainS (good_mem (HG.out (by simp)) p hp)) (by have := (HG.out (by simp)).ten; omega); refine (spec_Peace.calls k5 A7 c7 P r5 w5 (Kd.C_below HC7.out HB25.out) HL7.out hf5).mono ?_; rintro e w6 ⟨rfl, hb⟩; have HD5 := Aside0.mk hd5; have HB36 := Aside0.mk (below_then HB35.out HB35.out.size hb); have HB6 := Aside0.mk (below_then HB5.out HB5.out.size hb); have HB26 := Aside0.mk (below_then HB25.out HB25.out.size hb); clear hf5 hd5 hb; cases r5))
    all_goals try (go_ret; first | exact ⟨rfl, HB6.out⟩ | exact ⟨rfl, HB5.out⟩ | exact ⟨rfl, HB4.out⟩ | exact ⟨rfl, HB3.out⟩)
    have HAG := Aside0.mk (HG.out (by simp))
    have HDI := Aside0.mk (HD5.out (by simp))
    have hten := HAG.out.ten
    obtain ⟨its, hr1, hio, hpa, hp120⟩ := HIT.out (by simp)
    obtain ⟨hb1, hb2, hb3⟩ := items_bd (its := its) (by rw [← hpa]; exact hp120)
    obtain ⟨k6, hf6⟩ := written_pure P (good_mem HAG.out) (by have := HAG.out.ten; omega)
    rw [← HTS.out] at hf6
    have HF6 := Aside0.mk hf6
    have HIO := Aside0.mk hio
    have HR1 := Aside0.mk hr1
    have HPA := Aside0.mk hpa
    have HBD := Aside0.mk (And.intro hb1 (And.intro hb2 hb3))
    clear hr1 hio hpa hp120 hb1 hb2 hb3 hf6 HG HD5 HIT
    go_upto_region 8 with (first
      | (go_at_call 11; refine (laws_written.calls k6 A7 c7 P ts w6 (Kd.C_below HC7.out HB26.out) HL7.out HF6.out).mono ?_; rintro e w7 ⟨v58, rfl, hR, hb⟩; obtain ⟨A58, c58, rfl, hc58, hC58⟩ := Kd.R_reads hR; have HC58 := Aside0.mk hC58; have HB37 := Aside0.mk (below_then HB36.out HB36.out.size hb); have HB7 := Aside0.mk (below_then HB6.out HB6.out.size hb); have HB27 := Aside0.mk (below_then HB26.out HB26.out.size hb); clear hR hb hc58 hC58)
      | (go_at_call 10; have HM := methods_any (w00 := w7) (w := w7) (Below.refl _ _) ts P (by rw [HTS.out]; exact given_of HAG.out HDI.out (HT.out.below HB7.out)) A58 c58 HC58.out host (by have := HHS.out; simp only [maxLen]; omega) its HIO.out (by have := HBD.out.2.1; omega) (by have := HBD.out.1; omega); rw [← HPA.out] at HM; refine HM.mono ?_; rintro e w8 ⟨S, v10, got, rfl, hS, hO, hN, hM, hb⟩; obtain ⟨A10, c10, rfl, hc10, hC10⟩ := own_strings hO rfl; have HGOT := Aside0.mk (And.intro hS (And.intro hN hM)); have HC10 := Aside0.mk hC10; have HL10 := Aside0.mk hc10; have HB38 := Aside0.mk (below_then HB37.out HB37.out.size hb); have HB8 := Aside0.mk (below_then HB7.out HB7.out.size hb); have HB28 := Aside0.mk (below_then HB27.out HB27.out.size hb); clear HM hS hO hN hM hb hc10 hC10))
    have HC7' := Aside0.mk (Kd.C_below HC7.out HB28.out)
    have HC8' := Aside0.mk (Kd.C_below HC8.out HB38.out)
    have hO : (w8.alloc (.cells #[] 9)).ownsRow w8.heap.size 9 1 (.slice (some ⟨w8.heap.size, 0, none⟩) 0 0) 0 [] := World.ownsRow_made w8 #[] 0 (Nat.le_refl _) (Nat.zero_le _) rfl
    have HO0 := Aside0.mk hO
    have HBA := Aside0.mk (below_alloc (Below.refl w8.heap.size w8) (.cells #[] 9))
    clear hO HC7 HC8 HB1 HB2 HB3 HB4 HB5 HB6 HB7 HB23 HB24 HB25 HB26 HB27 HB28 HB34 HB35 HB36 HB37 HB38 HF2 HF3 HF4 HF6 HC58 HZ HR HC
    go_wp2
    go_loopw [11, 65] (fun v11 v65 wr => ∃ (x : Nat) (ws : List ByteArray), v65 = .int .i64 x ∧ x ≤ P.length ∧ ws.length ≤ 2 * x ∧ Aside0 (wr.ownsRow w8.heap.size 9 1 v11 ws.length (ws.map Value.string)) ∧ Aside0 (ToldUpto r1 host P x ws) ∧ Aside0 (Below w8.heap.size w8 wr)) (fun _ v65 _ => P.length - (intOf v65).toNat)
    case atStart => exact ⟨0, [], rfl, Nat.zero_le _, Nat.zero_le _, HO0, ⟨toldUpto_zero _ _ _⟩, HBA⟩
    case round =>
      obtain ⟨x, ws, rfl, hxl, hwl, HO, HTU, HB⟩ := hrel
      obtain ⟨wo, rfl⟩ : ∃ wo : World, wo = wr := ⟨_, rfl⟩
      by_cases hlt : x < P.length
      · obtain ⟨ad, A2, c2, eA, k0, k1, k2, hc2, hC2⟩ := at_T35 (Kd.C_below HC7'.out HB.out) (x : Int) (by omega) (by omega)
        subst eA
        have hsg : rd_T35 P (x : Int) = P[x] := by simp [rd_T35, hlt]
        rw [hsg] at k0 k1 k2 hc2 hC2
        simp only [Int.toNat_natCast] at k0 k1 k2
        have hb0 := World.block_lt_of_cell? wo _ k0
        have hb1 : (ad.add (x * 3)).block < wo.heap.size := hb0
        have HGX := Aside0.mk (HAG.out.good x hlt)
        obtain ⟨f0, f1, f2, hseg⟩ : ∃ f0 f1 f2, P[x] = (⟨f0, f1, f2⟩ : S35) := ⟨_, _, _, rfl⟩
        have HSEG := Aside0.mk hseg
        rw [hseg] at k0 k1 k2 HGX hc2 hC2
        clear hseg hsg
        simp only at k0 k1 k2 hc2 hC2
        have HLT := Aside0.mk hlt
        have hbw := below_alloc (Below.refl wo.heap.size wo) (.cells #[.string f0, .string f1, .slice A2 f2.length c2] 35)
        have HM := Matches_walk f0 f1 A2 c2 f2 A8 c8 r1 _ (Kd.C_below hC2 hbw) hc2 (Kd.C_below (Kd.C_below HC8'.out HB.out) hbw) HL8.out HGX.out.six (by rw [HR1.out, List.length_map]; have := HBD.out.1; omega) (by rw [HR1.out]; intro y hy; have := HBD.out.2.2 y hy; omega)
        obtain ⟨bm, hbm⟩ : ∃ b, b = matchB f2 r1 := ⟨_, rfl⟩
        rw [← hbm] at HM
        have HMW := Aside0.mk HM
        have HBM := Aside0.mk hbm
        have HN1 := Aside0.mk (heap_alloc_new wo (.cells #[.string f0, .string f1, .slice A2 f2.length c2] 35))
        have HBW := Aside0.mk hbw
        clear HM hbm hC2 hc2 hbw
        have HWL := Aside0.mk (show ws.length ≤ 20 by omega)
        have HWL2 := Aside0.mk hwl
        have HS9 := Aside0.mk HB.out.size
        clear hwl
        cases bm with
        | false =>
          go_wp2_with (go_at_call 12; refine HMW.out.mono ?_; rintro e w9 ⟨⟨v, rfl, hb⟩⟩; have HB9 := Aside0.mk (below_then HBW.out HBW.out.size hb); have hblk := (hb.block wo.heap.size (by simp)).trans HN1.out; have hq0 := (blk_cell hblk 0).trans rfl; have hq1 := (blk_cell hblk 1).trans rfl; have HBLK := Aside0.mk hblk; have HO9 := Aside0.mk (own_move HO.out (fun k hk => HB9.out.block k (own_lt HO.out k hk))); clear hb hblk)
          refine ⟨⟨x + 1, ws, by simp, by have := HLT.out; omega, by have := HWL2.out; omega, HO9, ⟨toldUpto_skip HTU.out HLT.out (fun j h => ?_)⟩, ⟨below_then HB.out HB.out.size HB9.out⟩⟩, by have := HLT.out; simp [intOf]; omega⟩
          rw [HSEG.out] at h
          exact absurd (HBM.out.trans h.1) (by simp)
        | true =>
          by_cases e0 : f0 = ⟨#[]⟩
          · have hi0 : f0.toList.isEmpty = true := by rw [str_empty]; simp [e0]
            have HE0 := Aside0.mk e0
            clear e0
            go_wp2_with (go_at_call 12; refine HMW.out.mono ?_; rintro e w9 ⟨⟨v, rfl, hb⟩⟩; have HB9 := Aside0.mk (below_then HBW.out HBW.out.size hb); have hblk := (hb.block wo.heap.size (by simp)).trans HN1.out; have hq0 := (blk_cell hblk 0).trans rfl; have hq1 := (blk_cell hblk 1).trans rfl; have HBLK := Aside0.mk hblk; have HO9 := Aside0.mk (own_move HO.out (fun k hk => HB9.out.block k (own_lt HO.out k hk))); clear hb hblk)
            all_goals refine ⟨⟨x + 1, ws, by simp, by have := HLT.out; omega, by have := HWL2.out; omega, HO9, ⟨toldUpto_skip HTU.out HLT.out (fun j h => ?_)⟩, ⟨below_then HB.out HB.out.size HB9.out⟩⟩, by have := HLT.out; simp [intOf]; omega⟩
            all_goals rw [HSEG.out] at h
            all_goals exact absurd HE0.out h.2.1
          have hi0 : f0.toList.isEmpty = false := by rw [str_empty]; simp [e0]
          have HE0 := Aside0.mk e0
          clear e0
          by_cases hcs : f1 = ⟨#[]⟩ ∨ f1 = host
          · have hbb : f1.toList.isEmpty = true ∨ (f1.toList.isEmpty = false ∧ (f1.toList == host.toList) = true ∧ (f1.toList != host.toList) = false) := by
              rw [str_empty, bne, toList_beq]
              by_cases e1 : f1 = ⟨#[]⟩
              · exact .inl (decide_eq_true e1)
              · exact .inr ⟨decide_eq_false e1, by rw [decide_eq_true (hcs.resolve_left e1)], by rw [decide_eq_true (hcs.resolve_left e1)]; rfl⟩
            have HCS := Aside0.mk hcs
            clear hcs
            have hgb : (f0.toList == [71, 69, 84]) = decide (f0 = GETb) := by
              have := toList_beq f0 GETb
              rwa [show GETb.toList = [71, 69, 84] by rw [ByteArray.toList_eq]] at this
            by_cases e3 : f0 = GETb
            · rw [decide_eq_true e3] at hgb
              have HE3 := Aside0.mk e3
              clear e3
              rcases hbb with hi1 | ⟨hi1, hi2, hi3⟩
              all_goals go_wp2_with (first | (go_at_call 12; refine HMW.out.mono ?_; rintro e w9 ⟨⟨v, rfl, hb⟩⟩; have HB9 := Aside0.mk (below_then HBW.out HBW.out.size hb); have hblk := (hb.block wo.heap.size (by simp)).trans HN1.out; have hq0 := (blk_cell hblk 0).trans rfl; have hq1 := (blk_cell hblk 1).trans rfl; have HBLK := Aside0.mk hblk; have HO9 := Aside0.mk (own_move HO.out (fun k hk => HB9.out.block k (own_lt HO.out k hk))); clear hb hblk) | (at_builtin; refine wpList_append_keep _ rfl _ _ 26 rfl w8.heap.size 9 (.string ⟨#[]⟩) 16 Tryz.underlying26 info9 rfl u11 ws.length (ws.map Value.string) rfl (HO9.out.alloc _) ⟨w9.heap.size, 0, none⟩ 1 (.string f0) rfl ?c1 rfl ?c2 ?c3 ?c4 ?_; (case c1 => simp); (case c2 => have := HWL.out; simp only [maxLen]; omega); (case c3 => have := HWL.out; omega); (case c4 => have h4 := HS9.out; have h5 := HB9.out.size; simp; omega); intro v10 w10 hown10 hkeep10 hg10 hat10; have HO10 := Aside0.mk hown10; have HB10 := Aside0.mk ((below_alloc (below_then HB.out HB.out.size HB9.out) (.cells #[.string f0] 9)).grown hg10 (by have h4 := HS9.out; have h5 := HB9.out.size; simp; omega) (fun k hk => own_base HO.out k hk)); have hblk := (hg10.block wo.heap.size (by have h5 := HB9.out.size; simp; omega) (fun e => by have := own_lt HO.out _ e.symm; omega)).trans (blk_alloc HBLK.out _); have hq10 := (blk_cell hblk 0).trans rfl; clear hown10 hkeep10 hg10 hat10 hblk) | (at_builtin; refine wpList_append_keep _ rfl _ _ 26 rfl w8.heap.size 9 (.string ⟨#[]⟩) 16 Tryz.underlying26 info9 rfl v10 (ws.length + 1) (ws.map Value.string ++ [.string f0]) rfl (HO10.out.alloc _) ⟨w10.heap.size, 0, none⟩ 1 (.string HEADb) rfl ?c1 rfl ?c2 ?c3 ?c4 ?_; (case c1 => simp); (case c2 => have := HWL.out; simp only [maxLen]; omega); (case c3 => have := HWL.out; omega); (case c4 => have h4 := HB10.out.size; simp; omega); intro v11 w11 hown11 hkeep11 hg11 hat11; have HO11 := Aside0.mk hown11; have HB11 := Aside0.mk ((below_alloc HB10.out (.cells #[.string HEADb] 9)).grown hg11 (by have h4 := HB10.out.size; simp; omega) (fun k hk => own_base HO10.out k hk)); clear hown11 hkeep11 hg11 hat11))
              all_goals
                refine ⟨⟨x + 1, ws ++ [f0, HEADb], by simp, by have := HLT.out; omega, by have := HWL2.out; simp; omega, ⟨by simpa using HO11.out⟩, ⟨toldUpto_succ HTU.out HLT.out [f0, HEADb] (fun j => ?_)⟩, HB11⟩, by have := HLT.out; simp [intOf]; omega⟩
                rw [HSEG.out, told1_iff HBM.out.symm HE0.out HCS.out]
                simp [HE3.out]
            · rw [decide_eq_false e3] at hgb
              have HE3 := Aside0.mk e3
              clear e3
              rcases hbb with hi1 | ⟨hi1, hi2, hi3⟩
              all_goals go_wp2_with (first | (go_at_call 12; refine HMW.out.mono ?_; rintro e w9 ⟨⟨v, rfl, hb⟩⟩; have HB9 := Aside0.mk (below_then HBW.out HBW.out.size hb); have hblk := (hb.block wo.heap.size (by simp)).trans HN1.out; have hq0 := (blk_cell hblk 0).trans rfl; have hq1 := (blk_cell hblk 1).trans rfl; have HBLK := Aside0.mk hblk; have HO9 := Aside0.mk (own_move HO.out (fun k hk => HB9.out.block k (own_lt HO.out k hk))); clear hb hblk) | (at_builtin; refine wpList_append_keep _ rfl _ _ 26 rfl w8.heap.size 9 (.string ⟨#[]⟩) 16 Tryz.underlying26 info9 rfl u11 ws.length (ws.map Value.string) rfl (HO9.out.alloc _) ⟨w9.heap.size, 0, none⟩ 1 (.string f0) rfl ?c1 rfl ?c2 ?c3 ?c4 ?_; (case c1 => simp); (case c2 => have := HWL.out; simp only [maxLen]; omega); (case c3 => have := HWL.out; omega); (case c4 => have h4 := HS9.out; have h5 := HB9.out.size; simp; omega); intro v10 w10 hown10 hkeep10 hg10 hat10; have HO10 := Aside0.mk hown10; have HB10 := Aside0.mk ((below_alloc (below_then HB.out HB.out.size HB9.out) (.cells #[.string f0] 9)).grown hg10 (by have h4 := HS9.out; have h5 := HB9.out.size; simp; omega) (fun k hk => own_base HO.out k hk)); have hblk := (hg10.block wo.heap.size (by have h5 := HB9.out.size; simp; omega) (fun e => by have := own_lt HO.out _ e.symm; omega)).trans (blk_alloc HBLK.out _); have hq10 := (blk_cell hblk 0).trans rfl; clear hown10 hkeep10 hg10 hat10 hblk))
              all_goals
                refine ⟨⟨x + 1, ws ++ [f0], by simp, by have := HLT.out; omega, by have := HWL2.out; simp; omega, ⟨by simpa using HO10.out⟩, ⟨toldUpto_succ HTU.out HLT.out [f0] (fun j => ?_)⟩, HB10⟩, by have := HLT.out; simp [intOf]; omega⟩
                rw [HSEG.out, told1_iff HBM.out.symm HE0.out HCS.out]
                simp [HE3.out]
          · have hi1 : f1.toList.isEmpty = false := by rw [str_empty]; exact decide_eq_false (fun e => hcs (.inl e))
            have hi2 : (f1.toList == host.toList) = false := by rw [toList_beq]; exact decide_eq_false (fun e => hcs (.inr e))
            have hi3 : (f1.toList != host.toList) = true := by rw [bne, hi2]; rfl
            have HCS := Aside0.mk hcs
            clear hcs
            go_wp2_with (go_at_call 12; refine HMW.out.mono ?_; rintro e w9 ⟨⟨v, rfl, hb⟩⟩; have HB9 := Aside0.mk (below_then HBW.out HBW.out.size hb); have hblk := (hb.block wo.heap.size (by simp)).trans HN1.out; have hq0 := (blk_cell hblk 0).trans rfl; have hq1 := (blk_cell hblk 1).trans rfl; have HBLK := Aside0.mk hblk; have HO9 := Aside0.mk (own_move HO.out (fun k hk => HB9.out.block k (own_lt HO.out k hk))); clear hb hblk)
            all_goals refine ⟨⟨x + 1, ws, by simp, by have := HLT.out; omega, by have := HWL2.out; omega, HO9, ⟨toldUpto_skip HTU.out HLT.out (fun j h => ?_)⟩, ⟨below_then HB.out HB.out.size HB9.out⟩⟩, by have := HLT.out; simp [intOf]; omega⟩
            all_goals rw [HSEG.out] at h
            all_goals exact absurd h.2.2.1 HCS.out
      · obtain rfl : x = P.length := by omega
        obtain ⟨A11, c11, hv11, hc11, hC11⟩ := own_strings HO.out rfl
        subst hv11
        have HWG := Aside0.mk (show ∀ j, j ∈ got ↔ j ∈ ws from fun j => (HGOT.out.2.2 j).trans (allowed_iff HGOT.out.1 HAG.out its HIO.out host (by rw [← HR1.out]; exact HTU.out) j))
        have hgl : got.length ≤ 20 := Nat.le_trans (nodup_le got ws HGOT.out.2.1 (fun j hj => (HWG.out j).1 hj)) (by omega)
        have hwl2 : ws.length ≤ 20 := by omega
        have HC11 := Aside0.mk hC11
        have HL11 := Aside0.mk hc11
        have HC10' := Aside0.mk (Kd.C_below HC10.out HB.out)
        clear hlt hxl hwl hc11 hC11
        go_wp2
        go_loopw [107] (fun v107 wr => ∃ y : Nat, v107 = .int .i64 y ∧ y ≤ got.length ∧ Aside0 (Below wo.heap.size wo wr)) (fun v107 _ => got.length - (intOf v107).toNat)
        case atStart => exact ⟨0, rfl, Nat.zero_le _, ⟨Below.refl _ _⟩⟩
        case round =>
          obtain ⟨y, rfl, hyl, HB2⟩ := hrel
          obtain ⟨w2, rfl⟩ : ∃ x : World, x = wr := ⟨_, rfl⟩
          by_cases hy : y < got.length
          · obtain ⟨g, eg, hg⟩ := its_at (Kd.C_below HC10'.out HB2.out) y hy
            subst eg
            obtain ⟨m, hm⟩ : ∃ m, m = got[y] := ⟨_, rfl⟩
            rw [← hm] at hg
            obtain ⟨ka, ra, hfa, hra⟩ := in_pure ws m (by omega)
            obtain rfl : ra = true := hra.2 ((HWG.out m).1 (by rw [hm]; exact List.getElem_mem _))
            obtain ⟨kb, rb, hfb, hrb⟩ := in_pure (got.take y) m (by rw [List.length_take]; omega)
            obtain rfl : rb = false := by
              cases rb with
              | false => rfl
              | true =>
                have hin := hrb.1 rfl
                obtain ⟨z, hz, hzm⟩ := List.mem_iff_getElem.1 hin
                rw [List.length_take] at hz
                rw [List.getElem_take, hm] at hzm
                exact absurd hzm (List.pairwise_iff_getElem.1 HGOT.out.2.1 z y (by omega) hy (by omega))
            have hlt : (got.take y).length = y := by rw [List.length_take]; omega
            have HTL := Aside0.mk hlt
            have hyc : y ≤ c10 := by have := HL10.out; omega
            have HFB := Aside0.mk hfb
            have HIA := Aside0.mk (laws_in.calls ka A11 c11 ws m true w2 (Kd.C_below HC11.out HB2.out) HL11.out hfa)
            have HYL := Aside0.mk hy
            clear hfa hra hfb hrb hlt hm
            go_wp2_with (first
              | (go_at_call 13; with_reducible refine HIA.out.mono ?_; rintro e w3 ⟨rfl, hd⟩; have HB3 := Aside0.mk (below_then HB2.out HB2.out.size hd.below); clear hd)
              | (go_at_call 13; have HIB := laws_in.calls kb (some g) c10 (got.take y) m false w3 (Kd.C_take (Kd.C_below HC10'.out HB3.out) (Nat.le_of_lt HYL.out)) (by rw [HTL.out]; have := HL10.out; have := HYL.out; omega) HFB.out; rw [HTL.out] at HIB; with_reducible refine HIB.mono ?_; rintro e w4 ⟨rfl, hd⟩; have HB4 := Aside0.mk (below_then HB3.out HB3.out.size hd.below); clear HIB hd))
            exact ⟨⟨y + 1, by simp, by have := HYL.out; omega, HB4⟩, by have := HYL.out; simp [intOf]; omega⟩
          · obtain rfl : y = got.length := by omega
            have HB2w := Aside0.mk (below_then HB.out HB.out.size HB2.out)
            clear hy hyl
            go_wp2
            go_loopw [126] (fun v126 wr => ∃ z : Nat, v126 = .int .i64 z ∧ z ≤ ws.length ∧ Aside0 (Below w2.heap.size w2 wr)) (fun v126 _ => ws.length - (intOf v126).toNat)
            case atStart => exact ⟨0, rfl, Nat.zero_le _, ⟨Below.refl _ _⟩⟩
            case round =>
              obtain ⟨z, rfl, hzl, HB3⟩ := hrel
              obtain ⟨w3, rfl⟩ : ∃ x : World, x = wr := ⟨_, rfl⟩
              by_cases hz : z < ws.length
              · obtain ⟨g, eg, hg⟩ := its_at (Kd.C_below (Kd.C_below HC11.out HB2.out) HB3.out) z hz
                subst eg
                obtain ⟨m, hm⟩ : ∃ m, m = ws[z] := ⟨_, rfl⟩
                rw [← hm] at hg
                obtain ⟨ka, ra, hfa, hra⟩ := in_pure got m (by omega)
                obtain rfl : ra = true := hra.2 ((HWG.out m).2 (by rw [hm]; exact List.getElem_mem _))
                have HIA := Aside0.mk (laws_in.calls ka A10 c10 got m true w3 (Kd.C_below (Kd.C_below HC10'.out HB2.out) HB3.out) HL10.out hfa)
                have HZL := Aside0.mk hz
                clear hfa hra hm
                go_wp2_with (go_at_call 13; with_reducible refine HIA.out.mono ?_; rintro e w4 ⟨rfl, hd⟩; have HB4 := Aside0.mk (below_then HB3.out HB3.out.size hd.below); clear hd)
                exact ⟨⟨z + 1, by simp, by have := HZL.out; omega, HB4⟩, by have := HZL.out; simp [intOf]; omega⟩
              · obtain rfl : z = ws.length := by omega
                clear hz hzl
                go_wp2
                go_ret
                exact ⟨rfl, below_then HB8.out HB8.out.size (below_then HB2w.out HB2w.out.size HB3.out)⟩
end Go.Proofs.YtcedefabmelogaaGreatDoor.H
