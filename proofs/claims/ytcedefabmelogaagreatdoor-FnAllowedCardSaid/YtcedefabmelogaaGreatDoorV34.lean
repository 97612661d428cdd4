/- The row of the law and its tied card: for every list of patterns, host and path the law FnAllowed returns true and what was handed in reads as it did; the listed tables hold what the program text lays. -/
import Derived.Test.YtcedefabmelogaaGreatDoorV32
import Derived.Test.YtcedefabmelogaaGreatDoorV33
import Derived.Test.YtcedefabmelogaaGreatDoorRows
import Derived.WalkKit
import Derived.ProofKit
import Derived.OpenShut
import Derived.ShutString
import Derived.ChangeOld
import Derived.Below
import Derived.SizedLaws
import Derived.OpenVars
import Derived.LaidMore
import Derived.Lay
import Derived.LaidOnce
import Derived.Lib.LaidTab
import Derived.Test.YtcedefabmelogaaGreatDoorTie
import Derived.Test.YtcedefabmelogaaGreatDoorCards
import Derived.SevenTiedAt
/- The row of the law: for every list of patterns, host and path it returns true, and what was handed in reads as it did. -/
namespace Go.Proofs.YtcedefabmelogaaGreatDoor.R
open Go.ChangeShapes Go.WideShapes Go.ChangeAt Go.RowKit
open Go.ChangeMaps (open_string shut_string)
set_option linter.unusedVariables false
theorem own : ownKnob Tryz.prog.godebug = none := by kernel_rfl
theorem laidOut : laidOutB Tryz.prog = true := by kernel_rfl
theorem props_eq : (Rows.laid_unicode_properties : DataW Unit) = Lib.tabData .u8 Lib.propertiesTab := by kernel_rfl
/-- What the row lists. -/
abbrev laid : List (String × DataW Unit) := Rows.fnAllowedRow.laid
theorem tab_of {W : World} (h : laidMet Tryz.prog laid W) : H.Tab W := by
  have h' : laidMet Tryz.prog (("unicode.properties", Lib.tabData .u8 Lib.propertiesTab) :: laid.tail) W := by
    rw [← props_eq]
    exact h
  exact Lib.tabIs_of_head (g := 0) (t := 146) (e := 5) (n := 256) (by kernel_rfl) (by kernel_rfl) Tryz.underlying146 Tryz.underlying5 (by kernel_rfl) (by kernel_rfl) h'
set_option maxRecDepth 100000 in
theorem lifted (os : Os) (started : os.Started) (H : Type) (enc : TypeId × Value → H) :
    ReturnsInHanded {} Tryz.checked os 3 .any (fun w args => (Rows.fnAllowedSpec.pre enc Tryz.prog Tryz.f3 [] false w args ∧ laidMetH Tryz.prog laid w) ∧ sizedMet enc Tryz.prog Tryz.f3 (OpenSpec.ofChange Rows.fnAllowedSpec) false w args)
      (Rows.fnAllowedSpec.post enc Tryz.prog Tryz.f3 false true false false) := by
  refine returnsInHanded_of_change_and (C := Tryz.checked) (X := fun w _ => laidMetH Tryz.prog laid w) (fun _ _ _ hh h => h.of_heap hh) own started (by kernel_rfl) Tryz.func3
    (ChangeSpec.witness_shaped (enc := enc) (C := Tryz.checked) (os := os) (X := fun w _ => laidMetH Tryz.prog laid w) false (World.laidAll Tryz.prog os laid) #[.slice none 0 0, .string ByteArray.empty, .string ByteArray.empty] 8 (World.laidAll_os _ _ _)
      (World.shaped_of_ZipB (by kernel_rfl) (by kernel_rfl)) (by kernel_rfl) (by kernel_rfl) (by kernel_rfl)
      (by rw [MakeChecks.laidMetH_plain _ _ _ (by kernel_rfl)]; exact laidMet_laidAll _ (by kernel_rfl) (by kernel_rfl))) ?_
  intro W base args ds gs before hval0 hW _ _ hL _
  have hval : ∀ (j : Nat) t v, Tryz.f3.params[j]? = some t → args[j]? = some v → Value.okWide Tryz.prog W .any base t v := hval0
  have hW' := hW
  obtain ⟨p, q, hA0, hV, rfl, _, _⟩ := hW
  have hA : DataW.TrodAll enc Tryz.prog W 0 (fun _ => true) true Tryz.f3.params.toList args.toList ds p := hA0
  rw [Tryz.params3] at hA hval
  obtain ⟨v0, vs0, d0, ds0, p0, q0, hargs, rfl, rfl, h0, r0⟩ := trodAll_cons hA
  obtain ⟨v1, vs1, d1, ds1, p1, q1, rfl, rfl, rfl, h1, r1⟩ := trodAll_cons r0
  obtain ⟨v2, vs2, d2, ds2, p2, q2, rfl, rfl, rfl, h2, r2⟩ := trodAll_cons r1
  obtain ⟨rfl, rfl, rfl⟩ := trodAll_nil r2
  obtain rfl : args = #[v0, v1, v2] := by cases args; simp_all
  have hV' := hV
  obtain ⟨_, _, _, _, g1, _, rfl, _, _, _, _, _⟩ := trodVars_one hV'
  obtain ⟨a0, len0, cap0, rfl⟩ := okWide_slice Tryz.underlying22 (hval 0 22 v0 rfl rfl)
  have lt0 : ∀ x ∈ p0, x.block < W.heap.size := by obtain ⟨m, hm⟩ := h0; exact DataW.trod_lt m _ _ _ hm
  obtain ⟨A, c, L, hv, hc, hC⟩ := Go.Proofs.YtcedefabmelogaaGreatDoor.H.open22 h0 ⟨_, _, _, rfl⟩
  obtain ⟨a1, rfl, rfl, rfl, y1⟩ := open_string Tryz.underlying9 (hval 1 9 v1 rfl rfl) h1
  obtain ⟨a2, rfl, rfl, rfl, y2⟩ := open_string Tryz.underlying9 (hval 2 9 v2 rfl rfl) h2
  rw [MakeChecks.laidMetH_plain _ _ _ (by kernel_rfl)] at hL
  have hT := tab_of hL
  rw [hv] at h0 hW' ⊢
  clear hA0 hval0
  refine (Go.Proofs.YtcedefabmelogaaGreatDoor.H.FnAllowed_walk A c L a1 a2 W hC hc hT).mono fun e W' ⟨he, bel⟩ => ?_
  subst he
  exact ⟨_, rfl, _, _, _, [], _, q, hW', trodAll_mk1 (shut_bool Tryz.underlying4 _), trodAll_cons_mk (Below.trod laidOut (by kernel_rfl) (of_decide_eq_true (by kernel_rfl)) h0 bel lt0) (trodAll_cons_mk (shut_string Tryz.underlying9 y1) (trodAll_cons_mk (shut_string Tryz.underlying9 y2) trodAll_mk0)), bel.trodVars laidOut (by kernel_rfl) hV, bel.frame _, fun h => by cases h⟩
theorem over : Rows.fnAllowedRow.holds Tryz.pinned (OpenSpec.ofChange Rows.fnAllowedSpec) :=
  OpenClaim.holds_of_wide 3 Tryz.f3 rfl rfl rfl rfl rfl rfl rfl ⟨rfl, rfl, rfl, rfl, rfl⟩ rfl rfl rfl rfl rfl (by kernel_rfl) Tryz.func3 (by kernel_rfl)
    (of_decide_eq_true (by kernel_rfl)) (by unfold Func.isWrapper; first | (rw [if_pos (by decide +kernel)]; kernel_rfl) | (rw [if_neg (by decide +kernel)]; exact ⟨rfl, rfl⟩))
    (fun os started H enc _ => lifted os started H enc)
end Go.Proofs.YtcedefabmelogaaGreatDoor.R
/- The tied card of the law FnAllowed: for every list of patterns, host and path the law returns true and what was handed in reads as it did, where unicode's and neturl's listed tables hold what the program's text lays. -/
namespace Go.Proofs.YtcedefabmelogaaGreatDoor
open Go
theorem fnAllowed_card_holds : Rows.FnAllowedCardSaid :=
  Claim7.holds_tied_plain_at .later [] [.data, .data, .pinned, .pinned] true (true, "a47b4828965c9724ee2b7c130caa3a1949b137a6293a9b0d0f5c041cc4fb326b") false R.over (fun _ h => by cases h) (by kernel_rfl) (fun _ h => by cases h) fnAllowed_row_tie rfl ⟨rfl, rfl⟩ (by kernel_rfl) rfl
    (fun f fn hf hfn => by
      obtain rfl : f = 3 := Option.some.inj ((show Tryz.prog.funcNamed "loop.example/pub-routepatterns/laws.FnAllowed" = some 3 by kernel_rfl).symm.trans hf) |>.symm
      obtain rfl : fn = Tryz.f3 := (Option.some.inj (Tryz.func3.symm.trans hfn)).symm
      exact ⟨by kernel_rfl, fun j t ht => by
        rw [Tryz.params3] at ht
        have hm : t ∈ [22, 9, 9] := by simpa using Array.mem_of_getElem? ht
        have hall : ([22, 9, 9].all fun u => !Tryz.prog.wantsStandIn u) = true := by kernel_rfl
        exact (show Tryz.prog.wantsStandIn t = false by simpa using List.all_eq_true.1 hall t hm)⟩)
    (by kernel_rfl)
#print axioms fnAllowed_card_holds
end Go.Proofs.YtcedefabmelogaaGreatDoor
