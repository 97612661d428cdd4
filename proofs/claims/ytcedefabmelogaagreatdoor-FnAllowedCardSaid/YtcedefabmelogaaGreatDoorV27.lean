/- The walk of spec.Matches: its second result. -/
import Derived.Test.YtcedefabmelogaaGreatDoorV09
import Derived.Test.YtcedefabmelogaaGreatDoorV26
import Derived.BigQuiet
import Derived.Maps.AppendAt
namespace Go.Proofs.YtcedefabmelogaaGreatDoor.H
open Go.RowKit Go.WideMaps Go.WideElems Go.Proofs.YtcedefabmelogaaGreatDoorW.PrintWords Go.Proofs.YtcedefabmelogaaGreatDoorW.PrintLast Go.Proofs.YtcedefabmelogaaGreatDoorW.PrintMore
open Go.Proofs.YtcedefabmelogaaGreatDoor.PFnAllowed
set_option linter.unusedVariables false
set_option linter.unusedSimpArgs false
set_option maxRecDepth 100000
/-- What Matches returns. -/
structure MatchPost (b : Bool) (w : World) (e : Ending) (w' : World) : Prop where
  ex : ∃ v, e = .returned (.tuple #[v, .bool b]) ∧ Below w.heap.size w w'
theorem matchB_both (l : List S52) (its : List ByteArray) (x : Nat) (h1 : x < l.length) (h2 : x < its.length) : matchB (l.drop x) (its.drop x) =
    if (l[x]).f2 = true then true else if (l[x]).f1 = true then !decide (its[x] = bs [47]) && matchB (l.drop (x + 1)) (its.drop (x + 1)) else decide ((l[x]).f0 = its[x]) && matchB (l.drop (x + 1)) (its.drop (x + 1)) := by
  rw [List.drop_eq_getElem_cons h1, List.drop_eq_getElem_cons h2]
  rfl
theorem matchB_short (l : List S52) (its : List ByteArray) (x : Nat) (h1 : x < l.length) (h2 : its.length ≤ x) : matchB (l.drop x) (its.drop x) = false := by
  rw [List.drop_eq_getElem_cons h1, List.drop_eq_nil_of_le h2]
  rfl
theorem matchB_end (l : List S52) (its : List ByteArray) (h : l.length ≤ its.length) : matchB (l.drop l.length) (its.drop l.length) = decide (its.length = l.length) := by
  rw [List.drop_length]
  show (its.drop l.length).isEmpty = _
  by_cases e : its.length = l.length
  · rw [decide_eq_true e, ← e, List.drop_length]; rfl
  · rw [decide_eq_false e]
    cases hd : its.drop l.length with
    | nil =>
      have := congrArg List.length hd
      simp at this
      omega
    | cons a b => rfl
theorem below_grown {w a b : World} {row : Option Nat} (h : Below w.heap.size w a) (g : a.grownBy b row) (hr : ∀ k, row = some k → w.heap.size ≤ k) : Below w.heap.size w b := h.grown g h.size hr
theorem own_drewN {w : World} {base n : Nat} {e : TypeId} {v : Value} {xs : List Value} (h : w.ownsRow base e 1 v n xs) (m : Nat) : (w.drewN m).ownsRow base e 1 v n xs :=
  own_move h (fun k hk => (pw_below_drewN (Below.refl w.heap.size w) m).block k (own_lt h k hk))
theorem its_at {w : World} {B : Option Addr} {its : List ByteArray} (h : Kd.C Kd.string w B its.length its) (j : Nat) (hj : j < its.length) : ∃ ad, B = some ad ∧ w.cell? (ad.add j) = some (.string its[j]) := by
  obtain ⟨ad, e, hc⟩ := Kd.at_string h (j : Int) (by omega) (by omega)
  refine ⟨ad, e, ?_⟩
  rw [show rdOf ByteArray.empty its (j : Int) = its[j] by simp [rdOf, hj], Int.toNat_natCast] at hc
  exact hc
set_option maxHeartbeats 2000000 in
theorem Matches_walk (m h : ByteArray) (A : Option Addr) (c : Nat) (l : List S52) (B : Option Addr) (d : Nat) (its : List ByteArray) (w : World) (hr : Kd.C k52 w A l.length l) (hc : l.length ≤ c) (hi : Kd.C Kd.string w B its.length its) (hd : its.length ≤ d)
    (hl6 : l.length ≤ 6) (hil : its.length ≤ 1000) (his : ∀ x ∈ its, x.size ≤ 1000) :
    Calls Tryz.prog 12 #[.agg #[.string m, .string h, .slice A l.length c], .slice B its.length d] w (MatchPost (matchB l its) w) := by
  have HR := Aside0.mk hr
  have HI := Aside0.mk hi
  have HS := Aside0.mk his
  have hu35 := Tryz.underlying35
  have hu52 := Tryz.underlying52
  have hB2 := below_alloc (below_alloc (Below.refl w.heap.size w) (.cells #[.string m, .string h, .slice A l.length c] 35)) (.cells #[] 9)
  have hO : ((w.alloc (.cells #[.string m, .string h, .slice A l.length c] 35)).alloc (.cells #[] 9)).ownsRow (w.heap.size + 1) 9 1 (.slice (some ⟨w.heap.size + 1, 0, none⟩) 0 0) 0 [] := by
    have := World.ownsRow_made (base := w.heap.size + 1) (size := 1) (e := 9) (w.alloc (.cells #[.string m, .string h, .slice A l.length c] 35)) #[] 0 (by simp) (Nat.zero_le _) rfl
    simpa using this
  have hP : ((w.alloc (.cells #[.string m, .string h, .slice A l.length c] 35)).alloc (.cells #[] 9)).heap[w.heap.size]? = some (.cells #[.string m, .string h, .slice A l.length c] 35 (0, 0)) := blk_alloc (heap_alloc_new w _) _
  have HB0 := Aside0.mk hB2
  have HO0 := Aside0.mk hO
  have HP0 := Aside0.mk hP
  clear hr hi his hB2 hO hP
  go_enter Tryz.func12, Tryz.ntmps12
  go_wp2_with fail
  go_loopw [6, 16] (fun v6 v16 wr => ∃ (x : Nat) (n : Nat) (xs : List Value), v16 = .int .i64 x ∧ x ≤ l.length ∧ x ≤ its.length ∧ n ≤ x ∧ Aside0 (matchB l its = matchB (l.drop x) (its.drop x)) ∧ Aside0 (wr.ownsRow (w.heap.size + 1) 9 1 v6 n xs) ∧ Aside0 (Below (w.heap.size + 1) ((w.alloc (.cells #[.string m, .string h, .slice A l.length c] 35)).alloc (.cells #[] 9)) wr)) (fun _ v16 _ => l.length - (intOf v16).toNat)
  case atStart => exact ⟨0, 0, [], rfl, Nat.zero_le _, Nat.zero_le _, Nat.le_refl _, ⟨rfl⟩, HO0, ⟨Below.refl _ _⟩⟩
  case round =>
    obtain ⟨x, n, xs, rfl, hxl, hxi, hnx, HM, HO, HB⟩ := hrel
    obtain ⟨wo, rfl⟩ : ∃ wo : World, wo = wr := ⟨_, rfl⟩
    have hPo : wo.heap[w.heap.size]? = some (.cells #[.string m, .string h, .slice A l.length c] 35 (0, 0)) := (HB.out.block _ (by simp)).trans HP0.out
    have hBo : Below w.heap.size w wo := ⟨HB.out.os.trans HB0.out.os, HB.out.tape.trans HB0.out.tape, HB.out.output.trans HB0.out.output, Nat.le_trans HB0.out.size HB.out.size, fun i hi => (HB.out.block i (by omega)).trans (HB0.out.block i hi)⟩
    have hc2 : wo.cell? ⟨w.heap.size, 2, none⟩ = some (.slice A l.length c) := (blk_cell hPo 2).trans rfl
    have HPo := Aside0.mk hPo
    have HBo := Aside0.mk hBo
    clear hPo hBo
    by_cases hlt : x < l.length
    · obtain ⟨ad, eA, k0, k1, k2⟩ := at_T52 (Kd.C_below HR.out HBo.out) (x : Int) (by omega) (by omega)
      subst eA
      have hsg : rd_T52 l (x : Int) = l[x] := by simp [rd_T52, hlt]
      rw [hsg] at k0 k1 k2
      simp only [Int.toNat_natCast] at k0 k1 k2
      have hb0 := World.block_lt_of_cell? wo _ k0
      have hb1 : (ad.add (x * 3)).block < wo.heap.size := hb0
      obtain ⟨f0, f1, f2, hseg⟩ : ∃ f0 f1 f2, l[x] = (⟨f0, f1, f2⟩ : S52) := ⟨_, _, _, rfl⟩
      have HSEG := Aside0.mk hseg
      rw [hseg] at k0 k1 k2
      clear hseg hsg
      simp only at k0 k1 k2
      have HLT := Aside0.mk hlt
      have HB1 := Aside0.mk (HB.out.alloc (by have := HB.out.size; simp at this; omega) (.cells #[.string f0, .bool f1, .bool f2] 52))
      have HO1 := Aside0.mk (HO.out.alloc (.cells #[.string f0, .bool f1, .bool f2] 52))
      have HN1 := Aside0.mk (heap_alloc_new wo (.cells #[.string f0, .bool f1, .bool f2] 52))
      by_cases hit : x < its.length
      · obtain ⟨bd, eB, hcx⟩ := its_at (Kd.C_below HI.out HBo.out) x hit
        subst eB
        have HIT := Aside0.mk hit
        have hit2 : ¬ its.length ≤ x := by omega
        cases f2 with
        | true =>
          have hcx1 := Aside0.mk hcx
          clear hcx
          go_wp2_with fail
          go_loopw [9, 32] (fun v9 v32 wr => ∃ (k : Nat) (s : ByteArray), v9 = .string s ∧ v32 = .int .i64 k ∧ k ≤ its.length - x ∧ s.size ≤ k * 1001 ∧ Aside0 (wr = wo.alloc (.cells #[.string f0, .bool f1, .bool true] 52))) (fun _ v32 _ => (its.length - x) - (intOf v32).toNat)
          case atStart => exact ⟨0, _, rfl, rfl, Nat.zero_le _, by decide, ⟨rfl⟩⟩
          case round =>
            obtain ⟨k, s, rfl, rfl, hk, hs, HW⟩ := hrel
            obtain rfl := HW.out
            by_cases hkl : k < its.length - x
            · obtain ⟨bd', eB, hck⟩ := its_at (Kd.C_below (Kd.C_below HI.out HBo.out) (below_alloc (Below.refl _ _) (.cells #[.string f0, .bool f1, .bool true] 52))) (x + k) (by omega)
              injection eB with eB
              subst eB
              rw [show bd.add (x + k) = (bd.add x).add k from (Addr.add_add _ _ _).symm] at hck
              have hsz := HS.out its[x + k] (List.getElem_mem _)
              obtain ⟨it, hit3⟩ : ∃ it, it = its[x + k]'(by omega) := ⟨_, rfl⟩
              rw [← hit3] at hck hsz
              clear hit3
              go_wp2_with fail
              all_goals
                refine ⟨⟨k + 1, _, rfl, by simp, by omega, ?_, ⟨trivial⟩⟩, by simp [intOf]; omega⟩
                have e47 : (⟨#[47]⟩ : ByteArray).size = 1 := rfl
                first | omega | (simp only [ByteArray.size_append]; omega)
            · have HO2 := Aside0.mk (HO1.out.alloc (.cells #[.string s] 9))
              have HBL := Aside0.mk (below_alloc (below_alloc HBo.out (.cells #[.string f0, .bool f1, .bool true] 52)) (.cells #[.string s] 9))
              have HBL0 := Aside0.mk (below_alloc HBo.out (.cells #[.string f0, .bool f1, .bool true] 52))
              have HNX := Aside0.mk (show n ≤ 6 by omega)
              have HSZ := Aside0.mk HB.out.size
              have HMT := Aside0.mk (HM.out.trans ((matchB_both l its x hlt hit).trans (by rw [HSEG.out]; try rfl)))
              go_wp2_with (at_builtin; refine wpList_append_keep _ rfl _ _ 26 rfl (w.heap.size + 1) 9 (.string ⟨#[]⟩) 16 Tryz.underlying26 info9 rfl u6 n xs rfl HO2.out ⟨wo.heap.size + 1, 0, none⟩ 1 (.string s) rfl ?c1 rfl ?c2 ?c3 ?c4 ?_; (case c1 => simp); (case c2 => have := HNX.out; simp only [maxLen]; omega); (case c3 => have := HNX.out; omega); (case c4 => have h4 := HSZ.out; simp at h4; first | (simp; omega) | simp | omega); intro v8 w8 hown8 hkeep8 hg8 hblk8; have HO8 := Aside0.mk hown8; have HG8 := Aside0.mk hg8; have HK8 := Aside0.mk hblk8; clear hown8 hkeep8 hg8 hblk8)
              all_goals go_ret2
              all_goals refine ⟨⟨_, by rw [HMT.out]; rfl, ?_⟩⟩
              · exact below_grown HBL.out HG8.out (fun k hk => by have := own_base HO.out k hk; omega)
              · exact HBL0.out
        | false =>
          obtain ⟨it, hite⟩ : ∃ it, it = its[x] := ⟨_, rfl⟩
          have HITE := Aside0.mk hite
          rw [← hite] at hcx
          clear hite
          have hcx2 : (wo.alloc (.cells #[.string f0, .bool f1, .bool false] 52)).cell? (bd.add x) = some (.string it) := by
            first | exact (cell_alloc_of hcx) | (obtain ⟨ad', eB, hck⟩ := its_at (Kd.C_below (Kd.C_below HI.out HBo.out) (below_alloc (Below.refl _ _) (.cells #[.string f0, .bool f1, .bool false] 52))) x hit; injection eB with eB; subst eB; rw [HITE.out]; exact hck)
          have HBL := Aside0.mk (below_alloc (below_alloc HBo.out (.cells #[.string f0, .bool f1, .bool false] 52)) (.cells #[.string it] 9))
          have HBL0 := Aside0.mk (below_alloc HBo.out (.cells #[.string f0, .bool f1, .bool false] 52))
          have HNX := Aside0.mk (show n ≤ 6 by omega)
          have HSZ := Aside0.mk HB.out.size
          cases f1 with
          | true =>
            have HMT := Aside0.mk (show matchB l its = (!decide (it = bs [47]) && matchB (l.drop (x + 1)) (its.drop (x + 1))) from HM.out.trans ((matchB_both l its x hlt hit).trans (by rw [HSEG.out, ← HITE.out]; try rfl)))
            by_cases hsl : it = bs [47]
            · have h1 : (it.toList == [47]) = true := by rw [hsl, ByteArray.toList_eq]; rfl
              have HSL := Aside0.mk hsl
              clear hcx hsl
              go_wp2_with fail
              go_ret2
              refine ⟨⟨.slice none 0 0, ?_, HBL0.out⟩⟩
              rw [HMT.out, decide_eq_true HSL.out]
              rfl
            · have h1 : (it.toList == [47]) = false := by
                rw [beq_eq_false_iff_ne]
                intro e
                exact hsl (by rw [← bs_self it, e])
              have HO2 := Aside0.mk (HO1.out.alloc (.cells #[.string it] 9))
              have HSL := Aside0.mk hsl
              clear hcx hsl
              go_wp2_with (at_builtin; go_must (refine wpList_append_keep _ rfl _ _ 26 rfl (w.heap.size + 1) 9 (.string ⟨#[]⟩) 16 Tryz.underlying26 info9 rfl u6 n xs rfl HO2.out ⟨wo.heap.size + 1, 0, none⟩ 1 (.string it) rfl ?c1 rfl ?c2 ?c3 ?c4 ?_; (case c1 => simp); (case c2 => have := HNX.out; simp only [maxLen]; omega); (case c3 => have := HNX.out; omega); (case c4 => have h4 := HSZ.out; simp at h4; first | (simp; omega) | simp | omega); intro v8 w8 hown8 hkeep8 hg8 hblk8; have HO8 := Aside0.mk hown8; have HG8 := Aside0.mk hg8; have HK8 := Aside0.mk hblk8; clear hown8 hkeep8 hg8 hblk8))
              refine ⟨⟨x + 1, n + 1, _, by simp, by have := HLT.out; omega, by have := HIT.out; omega, by omega, ⟨?_⟩, HO8, ⟨?_⟩⟩, by have := HLT.out; simp [intOf]; omega⟩
              · rw [HMT.out, decide_eq_false HSL.out]
                rfl
              · exact (HB1.out.alloc (by have := HSZ.out; simp at this; simp; omega) _).grown HG8.out (by have := HSZ.out; simp at this; simp; omega) (fun k hk => own_base HO.out k hk)
          | false =>
            have HMT := Aside0.mk (show matchB l its = (decide (f0 = it) && matchB (l.drop (x + 1)) (its.drop (x + 1))) from HM.out.trans ((matchB_both l its x hlt hit).trans (by rw [HSEG.out, ← HITE.out]; try rfl)))
            by_cases hsl : f0 = it
            · have h1 : (f0.toList == it.toList) = true := by rw [hsl]; simp
              have h2 : (f0.toList != it.toList) = false := by rw [hsl]; simp
              have HSL := Aside0.mk hsl
              clear hcx hsl
              go_wp2_with (go_quiet (fail))
              refine ⟨⟨x + 1, n, xs, by simp, by have := HLT.out; omega, by have := HIT.out; omega, by omega, ⟨?_⟩, ⟨own_drewN HO1.out _⟩, ⟨pw_below_drewN HB1.out _⟩⟩, by have := HLT.out; simp [intOf]; omega⟩
              rw [HMT.out, decide_eq_true HSL.out]
              rfl
            · have h1 : (f0.toList == it.toList) = false := by
                rw [beq_eq_false_iff_ne]
                intro e
                exact hsl (by rw [← bs_self f0, e, bs_self])
              have h2 : (f0.toList != it.toList) = true := by rw [bne, h1]; rfl
              have HSL := Aside0.mk hsl
              clear hcx hsl
              go_wp2_with (go_quiet (fail))
              go_ret2
              refine ⟨⟨.slice none 0 0, ?_, pw_below_drewN HBL0.out _⟩⟩
              rw [HMT.out, decide_eq_false HSL.out]
              rfl
      · have HMT := Aside0.mk (HM.out.trans (matchB_short l its x hlt (by omega)))
        go_wp2_with fail
        go_ret2
        exact ⟨⟨_, by rw [HMT.out]; rfl, (below_alloc HBo.out (.cells #[.string f0, .bool f1, .bool f2] 52))⟩⟩
    · obtain rfl : x = l.length := by omega
      clear hlt hxl
      have HMT := Aside0.mk (HM.out.trans (matchB_end l its (by omega)))
      go_wp2_with (go_quiet (fail))
      go_ret2
      refine ⟨⟨u6, ?_, ?_⟩⟩
      · rw [HMT.out]
        show Ending.returned (Value.tuple #[u6, .bool ((its.length : Int) == (l.length : Int))]) = _
        rw [show ((its.length : Int) == (l.length : Int)) = decide (its.length = l.length) from by rw [Bool.eq_iff_iff]; simp; omega]
      · exact pw_below_drewN HBo.out _
end Go.Proofs.YtcedefabmelogaaGreatDoor.H
