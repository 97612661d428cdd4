/- The walk of spec.AllGood, one way. -/
import Derived.Test.YtcedefabmelogaaGreatDoorV24
namespace Go.Proofs.YtcedefabmelogaaGreatDoor.H
open Go.RowKit Go.Proofs.YtcedefabmelogaaGreatDoorW.PrintWords Go.Proofs.YtcedefabmelogaaGreatDoorW.PrintLast Go.Proofs.YtcedefabmelogaaGreatDoorW.PrintMore
open Go.Proofs.YtcedefabmelogaaGreatDoor.PFnAllowed
set_option linter.unusedVariables false
set_option linter.unusedSimpArgs false
set_option maxRecDepth 100000
/-- How long a pattern's parts are. -/
structure Fits (p : S35) : Prop where
  m : p.f0.size ≤ 2147483647
  h : p.f1.size ≤ 2147483647
  n : p.f2.length ≤ 2147483647
  s : ∀ s ∈ p.f2, s.f0.size ≤ 2147483647
def GoodS (p : S35) : Prop := GoodP p.f0 p.f1 p.f2
structure AllG (l : List S35) : Prop where
  good : ∀ i (hi : i < l.length), GoodS l[i]
  ten : l.length ≤ 10
set_option maxHeartbeats 1000000 in
theorem AllGood_weak (A : Option Addr) (c : Nat) (l : List S35) (w : World) (hr : Kd.C k35 w A l.length l) (hll : l.length ≤ 2147483647) (hf : ∀ p ∈ l, Fits p) :
    Calls Tryz.prog 8 #[.slice A l.length c] w (Tells (AllG l) w) := by
  have HR := Aside0.mk hr
  have HF := Aside0.mk hf
  have hu35 := Tryz.underlying35
  have hu52 := Tryz.underlying52
  clear hr hf
  go_enter Tryz.func8, Tryz.ntmps8
  go_wp2
  go_loopw [7] (fun v wr => ∃ x : Nat, v = .int .i64 x ∧ x ≤ l.length ∧ Aside0 (∀ i (hi : i < l.length), i < x → GoodS l[i]) ∧ Aside0 (Below w.heap.size w wr)) (fun v _ => l.length - (intOf v).toNat)
  case atStart => exact ⟨0, rfl, Nat.zero_le _, ⟨fun i hi h => by omega⟩, ⟨Below.refl _ _⟩⟩
  case round =>
    obtain ⟨x, rfl, hxl, HG, HB⟩ := hrel
    obtain ⟨wo, rfl⟩ : ∃ wo : World, wo = wr := ⟨_, rfl⟩
    by_cases hlt : x < l.length
    · obtain ⟨ad, A2, c2, eA, k0, k1, k2, hc2, hC2⟩ := at_T35 (Kd.C_below HR.out HB.out) (x : Int) (by omega) (by omega)
      subst eA
      have hsg : rd_T35 l (x : Int) = l[x] := by simp [rd_T35, hlt]
      rw [hsg] at k0 k1 k2 hc2 hC2
      simp only [Int.toNat_natCast] at k0 k1 k2
      have hb0 := World.block_lt_of_cell? wo _ k0
      have hb1 : (ad.add (x * 3)).block < wo.heap.size := hb0
      have HFX := Aside0.mk (HF.out l[x] (List.getElem_mem hlt))
      obtain ⟨f0, f1, f2, hseg⟩ : ∃ f0 f1 f2, l[x] = (⟨f0, f1, f2⟩ : S35) := ⟨_, _, _, rfl⟩
      have HSEG := Aside0.mk hseg
      rw [hseg] at k0 k1 k2 HFX hc2 hC2
      clear hseg hsg
      simp only at k0 k1 k2 hc2 hC2
      have HB2 := Aside0.mk (HB.out.alloc HB.out.size (.cells #[.string f0, .string f1, .slice A2 f2.length c2] 35))
      have HC2 := Aside0.mk (Kd.C_below hC2 (below_alloc (Below.refl _ _) (.cells #[.string f0, .string f1, .slice A2 f2.length c2] 35)))
      have HCC := Aside0.mk hc2
      clear hC2 hc2
      have HW := Aside0.mk (Good_weak f0 f1 A2 c2 f2 _ HC2.out HCC.out HFX.out.m HFX.out.h HFX.out.s HFX.out.n)
      have HLT := Aside0.mk hlt
      go_wp2_with (go_at_call 17; refine HW.out.mono ?_; rintro e w2 ⟨b, rfl, hb, hbl⟩; have HBT := Aside0.mk hb; have HB3 := Aside0.mk (below_then HB2.out HB2.out.size hbl); clear hb hbl; cases b)
      · go_ret
        exact ⟨⟨false, rfl, nofun, HB3.out⟩⟩
      · go_roundw
        case rel =>
          refine ⟨x + 1, by go_num, by have := HLT.out; omega, ⟨fun i hi hix => ?_⟩, ⟨HB3.out⟩⟩
          by_cases e : i = x
          · subst e
            unfold GoodS
            rw [HSEG.out]
            exact HBT.out (by simp)
          · exact HG.out i hi (by omega)
        case measure => have := HLT.out; simp [intOf]; omega
    · obtain rfl : x = l.length := by omega
      clear hlt hxl
      go_wp2
      go_ret
      refine ⟨⟨_, rfl, fun h => ⟨fun i hi => HG.out i hi hi, ?_⟩, HB.out⟩⟩
      have := of_decide_eq_true h
      omega
end Go.Proofs.YtcedefabmelogaaGreatDoor.H
