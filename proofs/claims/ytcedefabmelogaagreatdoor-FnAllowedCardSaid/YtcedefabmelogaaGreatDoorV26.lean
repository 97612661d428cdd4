/- spec.Peace, plainly: patterns in peace have ways of their own. -/
import Derived.Test.YtcedefabmelogaaGreatDoorV13
import Derived.Test.YtcedefabmelogaaGreatDoorV25
/- Plain laws: what the printed functions of the reference come to: Combine, ByMethods, BySegments, ByPaths, Conflict, Peace. -/
namespace Go.Proofs.YtcedefabmelogaaGreatDoor.H
open Go.RowKit Go.Proofs.YtcedefabmelogaaGreatDoorW.PrintWords
open Go.Proofs.YtcedefabmelogaaGreatDoor.PFnAllowed
set_option linter.unusedVariables false
set_option linter.unusedSimpArgs false
set_option maxRecDepth 100000
abbrev EQb : ByteArray := ⟨#[101, 113, 117, 105, 118, 97, 108, 101, 110, 116]⟩
theorem EQl : EQb.toList = [101, 113, 117, 105, 118, 97, 108, 101, 110, 116] := by rw [ByteArray.toList_eq]
theorem Combine_pure (a b : ByteArray) : ∃ r, (∀ k, spec_Combine.f (k + 1) a b = some r) ∧ (a = EQb → b = EQb → r = EQb) := by
  by_cases h1 : a.toList = [100, 105, 115, 106, 111, 105, 110, 116]
  · refine ⟨_, fun k => by unfold spec_Combine.f; rw [if_pos h1]; simp only [spec_Combine.j0, if_true]; rfl, fun ha _ => ?_⟩
    rw [ha, EQl] at h1
    exact absurd h1 (by decide)
  · by_cases h2 : b.toList = [100, 105, 115, 106, 111, 105, 110, 116]
    · refine ⟨_, fun k => by unfold spec_Combine.f; rw [if_neg h1, beq_iff_eq.2 h2]; simp only [spec_Combine.j0, if_true]; rfl, fun _ hb => ?_⟩
      rw [hb, EQl] at h2
      exact absurd h2 (by decide)
    · have hb2 := beq_eq_false_iff_ne.2 h2
      by_cases h3 : a.toList = [101, 113, 117, 105, 118, 97, 108, 101, 110, 116]
      · exact ⟨b, fun k => by unfold spec_Combine.f; rw [if_neg h1, hb2]; simp only [spec_Combine.j0]; rw [if_neg (by simp), if_pos h3], fun _ hb => hb⟩
      · refine ⟨(if b.toList = [101, 113, 117, 105, 118, 97, 108, 101, 110, 116] then a else if a.toList = b.toList then a else ⟨#[111, 118, 101, 114, 108, 97, 112, 115]⟩), fun k => ?_, fun ha _ => ?_⟩
        · unfold spec_Combine.f
          rw [if_neg h1, hb2]
          simp only [spec_Combine.j0]
          rw [if_neg (by simp), if_neg h3]
          repeat' split
          all_goals rfl
        · exact absurd (by rw [ha, EQl]) h3
theorem ByMethods_pure (a b : ByteArray) : ∃ r, (∀ k, spec_ByMethods.f (k + 1) a b = some r) ∧ (a = b → r = EQb) := by
  by_cases h1 : a.toList = b.toList
  · exact ⟨EQb, fun k => by unfold spec_ByMethods.f; rw [if_pos h1], fun _ => rfl⟩
  · have hr : ∃ r, ∀ k, spec_ByMethods.f (k + 1) a b = some r := by
      have hj : ∀ x : Bool, ∃ r, ∀ k, spec_ByMethods.j0 (k + 1) a b x = some r := by
        intro x
        cases x with
        | true => exact ⟨_, fun k => by simp only [spec_ByMethods.j0, if_true]; rfl⟩
        | false =>
          by_cases h2 : b.toList = []
          · exact ⟨_, fun k => by simp only [spec_ByMethods.j0]; rw [if_neg (by simp), if_pos h2]⟩
          · by_cases h3 : b.toList = [71, 69, 84]
            · by_cases h4 : a.toList = [72, 69, 65, 68]
              · exact ⟨_, fun k => by simp only [spec_ByMethods.j0]; rw [if_neg (by simp), if_neg h2, if_pos h3, if_pos h4]⟩
              · exact ⟨_, fun k => by simp only [spec_ByMethods.j0]; rw [if_neg (by simp), if_neg h2, if_pos h3, if_neg h4]⟩
            · exact ⟨_, fun k => by simp only [spec_ByMethods.j0]; rw [if_neg (by simp), if_neg h2, if_neg h3]⟩
      simp only [spec_ByMethods.f, if_neg h1]
      by_cases h5 : a.toList = []
      · obtain ⟨r, hr⟩ := hj true
        exact ⟨r, fun k => by rw [if_pos h5]; exact hr k⟩
      · by_cases h6 : a.toList = [71, 69, 84]
        · obtain ⟨r, hr⟩ := hj (b.toList == [72, 69, 65, 68])
          exact ⟨r, fun k => by rw [if_neg h5, if_pos h6]; exact hr k⟩
        · obtain ⟨r, hr⟩ := hj false
          exact ⟨r, fun k => by rw [if_neg h5, if_neg h6]; exact hr k⟩
    obtain ⟨r, hr⟩ := hr
    exact ⟨r, hr, fun e => absurd (by rw [e]) h1⟩
def LitNe (s : S52) : Prop := s.f1 = false → s.f0 ≠ ⟨#[]⟩
def bySeg (s t : S52) : ByteArray :=
  if s.f2 = true then (if t.f2 = true then EQb else ⟨#[109, 111, 114, 101, 71, 101, 110, 101, 114, 97, 108]⟩)
  else if t.f2 = true then ⟨#[109, 111, 114, 101, 83, 112, 101, 99, 105, 102, 105, 99]⟩
  else if s.f1 = true then (if t.f1 = true then EQb else if t.f0.toList = [47] then ⟨#[100, 105, 115, 106, 111, 105, 110, 116]⟩ else ⟨#[109, 111, 114, 101, 71, 101, 110, 101, 114, 97, 108]⟩)
  else if t.f1 = true then (if s.f0.toList = [47] then ⟨#[100, 105, 115, 106, 111, 105, 110, 116]⟩ else ⟨#[109, 111, 114, 101, 83, 112, 101, 99, 105, 102, 105, 99]⟩)
  else if s.f0.toList = t.f0.toList then EQb else ⟨#[100, 105, 115, 106, 111, 105, 110, 116]⟩
theorem BySegments_pure (s t : S52) (k : Nat) : spec_BySegments.f (k + 2) s.f0 s.f1 s.f2 t.f0 t.f1 t.f2 = some (bySeg s t) := by
  obtain ⟨s0, s1, s2⟩ := s
  obtain ⟨t0, t1, t2⟩ := t
  unfold spec_BySegments.f bySeg
  cases s2 <;> cases t2 <;> cases s1 <;> cases t1 <;> simp [spec_BySegments.j0, spec_BySegments.j1] <;> (repeat' split) <;> rfl
theorem bySeg_eq {s t : S52} (h1 : LitNe s) (h2 : LitNe t) (h : segKey s = segKey t) : bySeg s t = EQb := by
  obtain ⟨s0, s1, s2⟩ := s
  obtain ⟨t0, t1, t2⟩ := t
  unfold LitNe at h1 h2
  unfold segKey eK at h
  unfold bySeg
  cases s2 <;> cases t2 <;> cases s1 <;> cases t1 <;> simp_all
theorem lift {β : Type} {F : Nat → Option β} (hm : ∀ k, LeO (F k) (F (k + 1))) {k : Nat} {r : β} (h : F k = some r) : ∀ n, F (k + n) = some r
  | 0 => h
  | n + 1 => hm _ _ (lift hm h n)
end Go.Proofs.YtcedefabmelogaaGreatDoor.H
/- Plain laws: ByPaths, Conflict, Peace: patterns in peace lie at different ways of the tree. -/
namespace Go.Proofs.YtcedefabmelogaaGreatDoor.H
open Go.RowKit Go.Proofs.YtcedefabmelogaaGreatDoorW.PrintWords Go.Proofs.YtcedefabmelogaaGreatDoorW.PrintMore
open Go.Proofs.YtcedefabmelogaaGreatDoor.PFnAllowed
set_option linter.unusedVariables false
set_option linter.unusedSimpArgs false
set_option maxRecDepth 100000
theorem ByPaths_j1 (x5 : ByteArray) (m : Nat) (b : Bool) (b0 b1 : ByteArray) (l2 : List S52) (h1 : 1 ≤ m) (h6 : m ≤ 1000000) (hm : m ≤ l2.length) :
    ∃ r, ∀ k, spec_ByPaths.j1 (k + 2) x5 (m : Int) b b0 b1 l2 = some r := by
  obtain ⟨r1, hr1, _⟩ := Combine_pure x5 ⟨#[109, 111, 114, 101, 71, 101, 110, 101, 114, 97, 108]⟩
  obtain ⟨r2, hr2, _⟩ := Combine_pure x5 ⟨#[109, 111, 114, 101, 83, 112, 101, 99, 105, 102, 105, 99]⟩
  have hw : wrap64 ((m : Int) - 1) = (m : Int) - 1 := wrap_in _ (by omega) (by omega)
  cases b with
  | true => exact ⟨r1, fun k => by simp [spec_ByPaths.j1, hr1]⟩
  | false =>
    by_cases he : (l2.length : Int) = m
    · by_cases hf : (rd_T52 l2 ((m : Int) - 1)).f2 = true
      · exact ⟨r2, fun k => by simp only [spec_ByPaths.j1]; rw [if_neg (by simp), if_pos he, hw, if_pos (by omega), if_pos (by omega), if_pos hf, hr2]; rfl⟩
      · exact ⟨_, fun k => by simp only [spec_ByPaths.j1]; rw [if_neg (by simp), if_pos he, hw, if_pos (by omega), if_pos (by omega), if_neg hf]⟩
    · exact ⟨_, fun k => by simp only [spec_ByPaths.j1]; rw [if_neg (by simp), if_neg he]⟩
theorem ByPaths_l0 (a0 a1 b0 b1 : ByteArray) (l1 l2 : List S52) (m : Nat) (h1 : 1 ≤ m) (h6 : m ≤ 1000000) (hm1 : m ≤ l1.length) (hm2 : m ≤ l2.length) :
    ∀ (n x : Nat) (r0 : ByteArray), x + n = m → ∃ k r, spec_ByPaths.l0 k r0 (m : Int) (m : Int) (x : Int) a0 a1 l1 b0 b1 l2 = some r ∧
      (l1.length = l2.length → (∀ i (g1 : i < l1.length) (g2 : i < l2.length), x ≤ i → bySeg l1[i] l2[i] = EQb) → r0 = EQb → r = EQb)
  | 0, x, r0, hx => by
    have hnl : ¬ ((x : Int) < (m : Int)) := by omega
    have hw : wrap64 ((m : Int) - 1) = (m : Int) - 1 := wrap_in _ (by omega) (by omega)
    by_cases he : (l1.length : Int) = (l2.length : Int)
    · exact ⟨1, r0, by simp only [spec_ByPaths.l0]; rw [if_neg hnl, if_pos he], fun _ _ h => h⟩
    · by_cases hq : (l1.length : Int) = m
      · obtain ⟨r, hr⟩ := ByPaths_j1 r0 m (rd_T52 l1 ((m : Int) - 1)).f2 b0 b1 l2 h1 h6 hm2
        exact ⟨3, r, by simp only [spec_ByPaths.l0]; rw [if_neg hnl, if_neg he, if_pos hq, hw, if_pos (by omega), if_pos (by omega)]; exact hr 0, fun h => absurd (by omega) he⟩
      · obtain ⟨r, hr⟩ := ByPaths_j1 r0 m false b0 b1 l2 h1 h6 hm2
        exact ⟨3, r, by simp only [spec_ByPaths.l0]; rw [if_neg hnl, if_neg he, if_neg hq]; exact hr 0, fun h => absurd (by omega) he⟩
  | n + 1, x, r0, hx => by
    obtain ⟨rc, hrc, hce⟩ := Combine_pure r0 (bySeg (rd_T52 l1 (x : Int)) (rd_T52 l2 (x : Int)))
    obtain ⟨k, r, hk, hr⟩ := ByPaths_l0 a0 a1 b0 b1 l1 l2 m h1 h6 hm1 hm2 n (x + 1) rc (by omega)
    have hlt : (x : Int) < (m : Int) := by omega
    have hw : wrap64 ((x : Int) + 1) = ((x + 1 : Nat) : Int) := by rw [wrap_in _ (by omega) (by omega)]; rfl
    refine ⟨k + 2 + 1, r, ?_, fun hle hsg h0 => hr hle (fun i g1 g2 hi => hsg i g1 g2 (by omega)) (hce h0 ?_)⟩
    · have hl := lift (F := fun k => spec_ByPaths.l0 k rc (m : Int) (m : Int) ((x + 1 : Nat) : Int) a0 a1 l1 b0 b1 l2) (fun k => (spec_ByPaths.mono_l k).1 _ _ _ _ _ _ _ _ _ _) hk 2
      simp only [spec_ByPaths.l0]
      rw [if_pos hlt, if_pos (by omega), if_pos (by omega), if_pos (by omega), BySegments_pure, Option.bind_some, hrc (k + 1), Option.bind_some, hw]
      exact hl
    · have g1 : x < l1.length := by omega
      have g2 : x < l2.length := by omega
      have e1 : rd_T52 l1 (x : Int) = l1[x] := by simp [rd_T52, g1]
      have e2 : rd_T52 l2 (x : Int) = l2[x] := by simp [rd_T52, g2]
      rw [e1, e2]
      exact hsg x g1 g2 (Nat.le_refl _)
end Go.Proofs.YtcedefabmelogaaGreatDoor.H
/- Plain laws: Conflict, Peace: patterns in peace lie at different ways of the tree. -/
namespace Go.Proofs.YtcedefabmelogaaGreatDoor.H
open Go.RowKit Go.Proofs.YtcedefabmelogaaGreatDoorW.PrintWords Go.Proofs.YtcedefabmelogaaGreatDoorW.PrintMore
open Go.Proofs.YtcedefabmelogaaGreatDoor.PFnAllowed
set_option linter.unusedVariables false
set_option linter.unusedSimpArgs false
set_option maxRecDepth 100000
/-- What the comparison of two patterns asks of each. -/
structure PlainS (p : S35) : Prop where
  ne : p.f2 ≠ []
  len : p.f2.length ≤ 1000000
  lit : ∀ s ∈ p.f2, LitNe s
theorem ByPaths_pure (p q : S35) (hp : PlainS p) (hq : PlainS q) : ∃ k r, spec_ByPaths.f k p.f0 p.f1 p.f2 q.f0 q.f1 q.f2 = some r ∧ (keysOf p.f2 = keysOf q.f2 → r = EQb) := by
  have h1 := List.length_pos_iff.2 hp.ne
  have h2 := List.length_pos_iff.2 hq.ne
  obtain ⟨m, hm⟩ : ∃ m : Nat, m = min p.f2.length q.f2.length := ⟨_, rfl⟩
  have hmn : mn (p.f2.length : Int) (q.f2.length : Int) = (m : Int) := by
    unfold mn
    split <;> omega
  have hl := hp.len
  obtain ⟨k, r, hk, hr⟩ := ByPaths_l0 p.f0 p.f1 q.f0 q.f1 p.f2 q.f2 m (by omega) (by omega) (by omega) (by omega) m 0 EQb (by omega)
  refine ⟨k, r, by unfold spec_ByPaths.f; rw [hmn]; exact hk, fun he => hr ?_ (fun i g1 g2 _ => ?_) rfl⟩
  · have := congrArg List.length he
    simpa [keysOf] using this
  · have hi : (keysOf p.f2)[i]? = (keysOf q.f2)[i]? := by rw [he]
    unfold keysOf at hi
    rw [List.getElem?_map, List.getElem?_map, List.getElem?_eq_getElem g1, List.getElem?_eq_getElem g2] at hi
    simp only [Option.map_some, Option.some.injEq] at hi
    exact bySeg_eq (hp.lit _ (List.getElem_mem g1)) (hq.lit _ (List.getElem_mem g2)) hi
theorem Conflict_pure (p q : S35) (hp : PlainS p) (hq : PlainS q) : ∃ k r, spec_Conflict.f k p.f0 p.f1 p.f2 q.f0 q.f1 q.f2 = some r ∧ (pth p = pth q → r = true) := by
  obtain ⟨rm, hrm, hme⟩ := ByMethods_pure p.f0 q.f0
  obtain ⟨k, rp, hrp, hpe⟩ := ByPaths_pure p q hp hq
  obtain ⟨rc, hrc, hce⟩ := Combine_pure rm rp
  have hrp' := lift (F := fun k => spec_ByPaths.f k p.f0 p.f1 p.f2 q.f0 q.f1 q.f2) (fun k => spec_ByPaths.mono _ _ _ _ _ _ k) hrp 1
  by_cases hh : p.f1.toList = q.f1.toList
  · by_cases he : rc.toList = [101, 113, 117, 105, 118, 97, 108, 101, 110, 116]
    · exact ⟨k + 1, true, by unfold spec_Conflict.f; rw [hrm, Option.bind_some, hrp', Option.bind_some, hrc, Option.bind_some, if_pos hh, if_pos he], fun _ => rfl⟩
    · refine ⟨k + 1, _, by unfold spec_Conflict.f; rw [hrm, Option.bind_some, hrp', Option.bind_some, hrc, Option.bind_some, if_pos hh, if_neg he], fun e => ?_⟩
      exfalso
      unfold pth pathOf at e
      simp only [List.cons.injEq, Option.some.injEq] at e
      exact he (by rw [hce (hme e.2.1) (hpe e.2.2), EQl])
  · refine ⟨k + 1, false, by unfold spec_Conflict.f; rw [hrm, Option.bind_some, hrp', Option.bind_some, hrc, Option.bind_some, if_neg hh], fun e => ?_⟩
    unfold pth pathOf at e
    simp only [List.cons.injEq, Option.some.injEq] at e
    exact absurd (by rw [e.1]) hh
theorem rd35 {l : List S35} {i : Nat} (h : i < l.length) : rd_T35 l (i : Int) = l[i] := by simp [rd_T35, h]
theorem Peace_l1 (L : List S35) (hL : ∀ p ∈ L, PlainS p) (hlen : L.length ≤ 1000000) (x : Nat) (hx : x < L.length)
    (Q : Prop) (hQ : ∃ k r, spec_Peace.l0 k L L (L.length : Int) ((x + 1 : Nat) : Int) = some r ∧ (r = true → Q)) :
    ∀ (n y : Nat), y + n = x → ∃ k r, spec_Peace.l1 k L L (L.length : Int) (x : Int) (L.take x) (x : Int) (y : Int) L[x].f0 L[x].f1 L[x].f2 = some r ∧ (r = true → Q ∧ ∀ j (hj : j < L.length), y ≤ j → j < x → pth L[j] ≠ pth L[x])
  | 0, y, hy => by
    obtain ⟨k, r, hk, hr⟩ := hQ
    refine ⟨k + 1, r, ?_, fun e => ⟨hr e, fun j hj h1 h2 => by omega⟩⟩
    simp only [spec_Peace.l1]
    rw [if_neg (by omega), wrap_in _ (by omega) (by omega)]
    exact hk
  | n + 1, y, hy => by
    have hyl : y < L.length := by omega
    have htl : (L.take x).length = x := by rw [List.length_take]; omega
    have hyt : y < (L.take x).length := by omega
    have e1 : rd_T35 (L.take x) (y : Int) = L[y] := by rw [rd35 hyt, List.getElem_take]
    obtain ⟨kc, rc, hkc, hrc⟩ := Conflict_pure L[x] L[y] (hL _ (List.getElem_mem hx)) (hL _ (List.getElem_mem hyl))
    obtain ⟨k, r, hk, hr⟩ := Peace_l1 L hL hlen x hx Q hQ n (y + 1) (by omega)
    have hw : wrap64 ((y : Int) + 1) = ((y + 1 : Nat) : Int) := by rw [wrap_in _ (by omega) (by omega)]; rfl
    have hkc' := lift (F := fun k => spec_Conflict.f k L[x].f0 L[x].f1 L[x].f2 L[y].f0 L[y].f1 L[y].f2) (fun k => spec_Conflict.mono _ _ _ _ _ _ k) hkc k
    have hk' := lift (F := fun k => spec_Peace.l1 k L L (L.length : Int) (x : Int) (L.take x) (x : Int) ((y + 1 : Nat) : Int) L[x].f0 L[x].f1 L[x].f2) (fun k => (spec_Peace.mono_l k).2 _ _ _ _ _ _ _ _ _ _) hk kc
    rw [Nat.add_comm k kc] at hk'
    cases rc with
    | true =>
      refine ⟨kc + k + 1, false, ?_, nofun⟩
      simp only [spec_Peace.l1]
      rw [if_pos (by omega), if_pos (by omega), if_pos (by omega), e1, hkc', Option.bind_some, if_pos rfl]
    | false =>
      refine ⟨kc + k + 1, r, ?_, fun e => ⟨(hr e).1, fun j hj h1 h2 => ?_⟩⟩
      · simp only [spec_Peace.l1]
        rw [if_pos (by omega), if_pos (by omega), if_pos (by omega), e1, hkc', Option.bind_some, if_neg (by simp), hw]
        exact hk'
      · by_cases ej : j = y
        · subst ej
          intro h
          exact absurd (hrc h.symm) (by simp)
        · exact (hr e).2 j hj (by omega) h2
theorem Peace_l0 (L : List S35) (hL : ∀ p ∈ L, PlainS p) (hlen : L.length ≤ 1000000) :
    ∀ (n x : Nat), x + n = L.length → ∃ k r, spec_Peace.l0 k L L (L.length : Int) (x : Int) = some r ∧ (r = true → ∀ i (hi : i < L.length), x ≤ i → ∀ j (hj : j < L.length), j < i → pth L[j] ≠ pth L[i])
  | 0, x, hx => by
    refine ⟨1, true, ?_, fun _ i hi h => by omega⟩
    simp only [spec_Peace.l0]
    rw [if_neg (by omega)]
  | n + 1, x, hx => by
    have hxl : x < L.length := by omega
    obtain ⟨k, r, hk, hr⟩ := Peace_l1 L hL hlen x hxl _ (Peace_l0 L hL hlen n (x + 1) (by omega)) x 0 (by omega)
    have htl : (L.take x).length = x := by rw [List.length_take]; omega
    refine ⟨k + 1, r, ?_, fun e i hi h j hj hji => ?_⟩
    · simp only [spec_Peace.l0]
      rw [if_pos (by omega), if_pos (by omega), if_pos (by omega), if_pos (by omega), Option.bind_some, rd35 hxl, Int.toNat_natCast, htl]
      exact hk
    · by_cases ei : i = x
      · subst ei
        exact (hr e).2 j hj (by omega) hji
      · exact (hr e).1 i hi (by omega) j hj hji
theorem Peace_pure (L : List S35) (hL : ∀ p ∈ L, PlainS p) (hlen : L.length ≤ 1000000) : ∃ k r, spec_Peace.f k L = some r ∧ (r = true → ∀ i (hi : i < L.length) j (hj : j < L.length), j < i → pth L[j] ≠ pth L[i]) := by
  obtain ⟨k, r, hk, hr⟩ := Peace_l0 L hL hlen L.length 0 (by omega)
  exact ⟨k, r, hk, fun e i hi j hj hji => hr e i hi (Nat.zero_le _) j hj hji⟩
end Go.Proofs.YtcedefabmelogaaGreatDoor.H
/- Plain laws: a pattern that is in order (GoodP) is a text in order (TextOk). -/
namespace Go.Proofs.YtcedefabmelogaaGreatDoor.H
open Go.RowKit Go.Proofs.YtcedefabmelogaaGreatDoorW.PrintWords Go.Proofs.YtcedefabmelogaaGreatDoorW.PrintMore
open Go.Proofs.YtcedefabmelogaaGreatDoor.PFnAllowed
set_option linter.unusedVariables false
set_option linter.unusedSimpArgs false
set_option maxRecDepth 100000
def sgOf (s : S52) : Sg :=
  if s.f2 = true then (if s.f0.toList = [] then .any else .rest s.f0.toList)
  else if s.f1 = true then .wild s.f0.toList
  else if s.f0.toList = [47] then .fin else .lit s.f0.toList
theorem bs_self (s : ByteArray) : bs s.toList = s := by rw [ByteArray.toList_eq]; exact bs_of s
theorem bs_eq {s : ByteArray} {l : List UInt8} (h : s.toList = l) : s = bs l := by rw [← h, bs_self]
theorem seg_sgOf (s : S52) (h : s.f2 = true → s.f1 = true) : (sgOf s).seg = s := by
  obtain ⟨f0, f1, f2⟩ := s
  unfold sgOf
  simp only at h ⊢
  cases f2 with
  | true =>
    have := h rfl
    subst this
    rw [if_pos rfl]
    by_cases e : f0.toList = []
    · rw [if_pos e, bs_eq e]; rfl
    · rw [if_neg e]; simp only [Sg.seg, bs_self]
  | false =>
    rw [if_neg (by simp)]
    cases f1 with
    | true => rw [if_pos rfl]; simp only [Sg.seg, bs_self]
    | false =>
      rw [if_neg (by simp)]
      by_cases e : f0.toList = [47]
      · rw [if_pos e, bs_eq e]; rfl
      · rw [if_neg e]; simp only [Sg.seg, bs_self]
theorem byte_of {s : ByteArray} {P : Int → Prop} (h : ∀ y : Int, 0 ≤ y → y < s.size → P (bt s y)) : ∀ b ∈ s.toList, P (b.toNat : Int) := by
  intro b hb
  obtain ⟨i, hi, rfl⟩ := List.getElem_of_mem hb
  have hsz : s.size = s.toList.length := by rw [← bs_size, bs_self]
  have h1 := h i (by omega) (by omega)
  have h2 := bs_bt s.toList i hi
  rw [bs_self] at h2
  rw [h2] at h1
  exact h1
theorem size_toList (s : ByteArray) : s.toList.length = s.size := by rw [← bs_size, bs_self]
theorem nameOk {s : ByteArray} (h : NameP s) (hs : s.size ≤ 16) : NameOk s.toList := by
  obtain ⟨h1, h2⟩ := h
  have hall := byte_of (s := s) (P := fun z => (65 ≤ z ∧ z ≤ 90) ∨ (97 ≤ z ∧ z ≤ 122) ∨ z = 95 ∨ (48 ≤ z ∧ z ≤ 57)) (fun y h0 hy => by
    rcases h1 y h0 hy with h | h | h | h
    · exact .inl h
    · exact .inr (.inl h)
    · exact .inr (.inr (.inl h))
    · exact .inr (.inr (.inr h.2)))
  refine ⟨?_, fun b hb => ?_, by rw [size_toList]; exact hs⟩
  · cases hl : s.toList with
    | nil => exact absurd hl h2
    | cons b t =>
      refine ⟨b, t, rfl, ?_⟩
      have hsz : s.size = t.length + 1 := by rw [← size_toList, hl]; rfl
      have h0 := h1 0 (by omega) (by omega)
      have hb : bt s 0 = (b.toNat : Int) := by
        have := bt_getElem s.toList 0 b (by rw [hl]; rfl)
        rw [bs_self] at this
        exact this
      rw [hb] at h0
      unfold NameHead
      omega
  · have := hall b hb
    unfold NameTail NameHead
    omega
theorem litOk {s : ByteArray} (h : LitP s) : LitOk s.toList := by
  obtain ⟨h1, h2, h3, h4, h5⟩ := h
  have hall := byte_of (s := s) (P := fun z => 33 ≤ z ∧ z ≤ 126 ∧ z ≠ 47 ∧ z ≠ 37 ∧ z ≠ 123 ∧ z ≠ 125) h5
  refine ⟨h1, h2, h3, by rw [size_toList]; exact h4, fun b hb => ?_⟩
  have := hall b hb
  refine ⟨by omega, by omega, ?_, ?_, ?_, ?_⟩ <;> (rintro rfl; revert this; decide)
theorem sgOf_ok {l : List S52} {i : Nat} {hi : i < l.length} (h : SegF l i hi) : (sgOf l[i]).ok := by
  unfold sgOf
  by_cases h2 : (l[i]).f2 = true
  · rw [if_pos h2]
    by_cases e : (l[i]).f0.toList = []
    · rw [if_pos e]; trivial
    · rw [if_neg e]
      exact nameOk ((h.multi h2).2.2.resolve_left e) h.size
  · rw [if_neg h2]
    by_cases h1 : (l[i]).f1 = true
    · rw [if_pos h1]
      exact nameOk (h.wild h1 (by simpa using h2)) h.size
    · rw [if_neg h1]
      by_cases e : (l[i]).f0.toList = [47]
      · rw [if_pos e]; trivial
      · rw [if_neg e]
        exact litOk (h.lit (by simpa using h1) e)
theorem sgOf_last {l : List S52} {i : Nat} {hi : i < l.length} (h : SegF l i hi) (hl : (sgOf l[i]).last = true) : i + 1 = l.length := by
  unfold sgOf at hl
  by_cases h2 : (l[i]).f2 = true
  · exact (h.multi h2).2.1
  · rw [if_neg h2] at hl
    by_cases h1 : (l[i]).f1 = true
    · rw [if_pos h1] at hl; cases hl
    · rw [if_neg h1] at hl
      by_cases e : (l[i]).f0.toList = [47]
      · exact h.fin (by simpa using h1) e
      · rw [if_neg e] at hl; cases hl
theorem sgOf_name {s : S52} {n : List UInt8} (h : (sgOf s).name = some n) (h2 : s.f2 = true → s.f1 = true) : s.f1 = true ∧ s.f0.toList = n := by
  unfold sgOf at h
  split at h
  · rename_i hf
    split at h
    · cases h
    · exact ⟨h2 hf, by injection h⟩
  · split at h
    · rename_i hf
      exact ⟨hf, by injection h⟩
    · split at h <;> cases h
theorem names_nodup : ∀ (l : List S52), (∀ i (hi : i < l.length), ((l[i]).f2 = true → (l[i]).f1 = true) ∧ ∀ j (hj : j < i), (l[i]).f1 = true → (l[j]).f1 = true → (l[i]).f0.toList ≠ (l[j]).f0.toList) → ((l.map sgOf).filterMap Sg.name).Nodup
  | [], _ => by simp
  | s :: l, h => by
    have ih := names_nodup l (fun i hi => by
      have h1 := h (i + 1) (by simpa using hi)
      refine ⟨by simpa using h1.1, fun j hj a b => ?_⟩
      have := h1.2 (j + 1) (by omega)
      simp only [List.getElem_cons_succ] at this
      exact this a b)
    rw [List.map_cons, List.filterMap_cons]
    cases hn : (sgOf s).name with
    | none => exact ih
    | some n =>
      simp only [List.nodup_cons]
      refine ⟨fun hm => ?_, ih⟩
      obtain ⟨g, hg, hgn⟩ := List.mem_filterMap.1 hm
      obtain ⟨t, ht, rfl⟩ := List.mem_map.1 hg
      obtain ⟨i, hi, rfl⟩ := List.getElem_of_mem ht
      have h0 := h 0 (by simp)
      have h1 := h (i + 1) (by simpa using hi)
      have e1 := sgOf_name hn (by simpa using h0.1)
      have e2 := sgOf_name hgn (by simpa using h1.1)
      have := h1.2 0 (by omega)
      simp only [List.getElem_cons_succ, List.getElem_cons_zero] at this
      exact this e2.1 e1.1 (e2.2.trans e1.2.symm)
theorem textOk {m h : ByteArray} {l : List S52} (G : GoodP m h l) : TextOk m.toList h.toList (l.map sgOf) ∧ (l.map sgOf).map Sg.seg = l := by
  have hm := byte_of (s := m) (P := fun z => (65 ≤ z ∧ z ≤ 90) ∨ (97 ≤ z ∧ z ≤ 122)) G.meth.1
  have hh := byte_of (s := h) (P := fun z => (97 ≤ z ∧ z ≤ 122) ∨ z = 46 ∨ z = 45 ∨ (48 ≤ z ∧ z ≤ 57)) G.host.1
  refine ⟨⟨fun b hb => ?_, by rw [size_toList]; exact G.meth.2, fun b hb => ?_, by rw [size_toList]; exact G.host.2, ⟨?_, ?_, ?_, ?_, ?_⟩⟩, ?_⟩
  · have := hm b hb
    unfold Letter
    omega
  · have := hh b hb
    unfold HostB
    omega
  · simpa using G.ne
  · intro g hg
    obtain ⟨s, hs, rfl⟩ := List.mem_map.1 hg
    obtain ⟨i, hi, rfl⟩ := List.getElem_of_mem hs
    exact sgOf_ok (G.seg i hi)
  · intro i hi hl
    have hi' : i < l.length := by simpa using hi
    rw [List.getElem_map] at hl
    have := sgOf_last (G.seg i hi') hl
    simpa using this
  · exact names_nodup l (fun i hi => ⟨fun h => ((G.seg i hi).multi h).1, fun j hj => (G.seg i hi).dist j hj⟩)
  · simpa using G.six
  · rw [List.map_map]
    refine (List.map_congr_left (fun s hs => ?_)).trans (List.map_id l)
    obtain ⟨i, hi, rfl⟩ := List.getElem_of_mem hs
    exact seg_sgOf _ (fun h => ((G.seg i hi).multi h).1)
end Go.Proofs.YtcedefabmelogaaGreatDoor.H
