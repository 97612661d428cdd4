/- written, in, zzFits5, all, has, Items, plainly. -/
import Derived.Test.YtcedefabmelogaaGreatDoorV29
import Derived.Test.YtcedefabmelogaaGreatDoorV15
/- Plain laws: written, in. -/
namespace Go.Proofs.YtcedefabmelogaaGreatDoor.H
open Go.RowKit Go.Proofs.YtcedefabmelogaaGreatDoorW.PrintWords Go.Proofs.YtcedefabmelogaaGreatDoorW.PrintMore
open Go.Proofs.YtcedefabmelogaaGreatDoor.PFnAllowed
set_option linter.unusedVariables false
set_option linter.unusedSimpArgs false
set_option maxRecDepth 100000
def textOf (p : S35) : ByteArray := bs (fullT p.f0.toList p.f1.toList (p.f2.map sgOf))
theorem written_l0 (L : List S35) (hL : ∀ p ∈ L, GoodS p) (hlen : L.length ≤ 1000000) : ∀ (n x : Nat), x + n = L.length → ∃ k, laws_written.l0 k ((L.take x).map textOf) L (L.length : Int) (x : Int) = some (L.map textOf)
  | 0, x, hx => by
    refine ⟨1, ?_⟩
    simp only [laws_written.l0]
    rw [if_neg (by omega), List.take_of_length_le (by omega)]
  | n + 1, x, hx => by
    have hxl : x < L.length := by omega
    obtain ⟨k, hk⟩ := written_l0 L hL hlen n (x + 1) (by omega)
    have hw : wrap64 ((x : Int) + 1) = ((x + 1 : Nat) : Int) := by rw [wrap_in _ (by omega) (by omega)]; rfl
    have hg : GoodP L[x].f0 L[x].f1 L[x].f2 := hL _ (List.getElem_mem hxl)
    have hf : spec_Write.f k L[x].f0 L[x].f1 L[x].f2 = some (textOf L[x]) := by unfold spec_Write.f; rw [if_pos hg]; rfl
    refine ⟨k + 1, ?_⟩
    simp only [laws_written.l0]
    rw [if_pos (by omega), if_pos (by omega), if_pos (by omega), rd35 hxl, hf, Option.bind_some, if_pos (by simp; omega), hw]
    rw [List.take_succ_eq_append_getElem hxl, List.map_append] at hk
    exact hk
theorem written_pure (L : List S35) (hL : ∀ p ∈ L, GoodS p) (hlen : L.length ≤ 1000000) : ∃ k, laws_written.f k L = some (L.map textOf) := by
  obtain ⟨k, hk⟩ := written_l0 L hL hlen L.length 0 (by omega)
  exact ⟨k, hk⟩
end Go.Proofs.YtcedefabmelogaaGreatDoor.H
/- Plain laws: in, zzFits, conv, all. -/
namespace Go.Proofs.YtcedefabmelogaaGreatDoor.H
open Go.RowKit Go.Proofs.YtcedefabmelogaaGreatDoorW.PrintWords Go.Proofs.YtcedefabmelogaaGreatDoorW.PrintMore
open Go.Proofs.YtcedefabmelogaaGreatDoor.PFnAllowed
set_option linter.unusedVariables false
set_option linter.unusedSimpArgs false
set_option maxRecDepth 100000
theorem in_l0 (L : List ByteArray) (a : ByteArray) (hlen : L.length ≤ 1000000) : ∀ (n x : Nat), x + n = L.length → ∃ k r, laws_in.l0 k a L (L.length : Int) (x : Int) = some r ∧ (r = true ↔ a ∈ L.drop x)
  | 0, x, hx => by
    refine ⟨1, false, ?_, ?_⟩
    · simp only [laws_in.l0]; rw [if_neg (by omega)]
    · rw [List.drop_of_length_le (by omega)]; simp
  | n + 1, x, hx => by
    have hxl : x < L.length := by omega
    obtain ⟨k, r, hk, hr⟩ := in_l0 L a hlen n (x + 1) (by omega)
    have hw : wrap64 ((x : Int) + 1) = ((x + 1 : Nat) : Int) := by rw [wrap_in _ (by omega) (by omega)]; rfl
    have hrd : rdOf ByteArray.empty L (x : Int) = L[x] := by simp [rdOf, hxl]
    rw [List.drop_eq_getElem_cons hxl]
    by_cases e : (L[x]).toList = a.toList
    · refine ⟨k + 1, true, ?_, ?_⟩
      · simp only [laws_in.l0]
        rw [if_pos (by omega), if_pos (by omega), if_pos (by omega), hrd, if_pos e]
      · have : a = L[x] := by rw [← bs_self a, ← bs_self L[x], e]
        simp [← this]
    · refine ⟨k + 1, r, ?_, ?_⟩
      · simp only [laws_in.l0]
        rw [if_pos (by omega), if_pos (by omega), if_pos (by omega), hrd, if_neg e, hw]
        exact hk
      · rw [hr, List.mem_cons]
        constructor
        · exact fun h => .inr h
        · rintro (h | h)
          · exact absurd (by rw [h]) e
          · exact h
theorem in_pure (L : List ByteArray) (a : ByteArray) (hlen : L.length ≤ 1000000) : ∃ k r, laws_in.f k L a = some r ∧ (r = true ↔ a ∈ L) := by
  obtain ⟨k, r, hk, hr⟩ := in_l0 L a hlen L.length 0 (by omega)
  exact ⟨k, r, hk, by simpa using hr⟩
end Go.Proofs.YtcedefabmelogaaGreatDoor.H
/- Plain laws: zzFits, conv, all. -/
namespace Go.Proofs.YtcedefabmelogaaGreatDoor.H
open Go.RowKit Go.Proofs.YtcedefabmelogaaGreatDoorW.PrintWords Go.Proofs.YtcedefabmelogaaGreatDoorW.PrintMore
open Go.Proofs.YtcedefabmelogaaGreatDoor.PFnAllowed
set_option linter.unusedVariables false
set_option linter.unusedSimpArgs false
set_option maxRecDepth 100000
theorem rd54 {l : List S54} {i : Nat} (h : i < l.length) : rd_T54 l (i : Int) = l[i] := by simp [rd_T54, h]
theorem rd41 {l : List S41} {i : Nat} (h : i < l.length) : rd_T41 l (i : Int) = l[i] := by simp [rd_T41, h]
theorem zzFits3_pure (s : S54) : ∃ r, laws_zzFits3.f s.f0 s.f1 s.f2 = some r ∧ (r = true → s.f0.size ≤ 2147483647) := by
  unfold laws_zzFits3.f
  by_cases h : (s.f0.size : Int) > 2147483647
  · exact ⟨false, by rw [if_pos h], nofun⟩
  · exact ⟨true, by rw [if_neg h], fun _ => by omega⟩
theorem zzFits2_l0 (L : List S54) (hlen : L.length ≤ 2147483647) : ∀ (n x : Nat), x + n = L.length → ∃ k r, laws_zzFits2.l0 k L (L.length : Int) (x : Int) = some r ∧ (r = true → ∀ s ∈ L.drop x, s.f0.size ≤ 2147483647)
  | 0, x, hx => by
    refine ⟨1, true, ?_, fun _ s hs => ?_⟩
    · simp only [laws_zzFits2.l0]; rw [if_neg (by omega)]
    · rw [List.drop_of_length_le (by omega)] at hs; cases hs
  | n + 1, x, hx => by
    have hxl : x < L.length := by omega
    obtain ⟨k, r, hk, hr⟩ := zzFits2_l0 L hlen n (x + 1) (by omega)
    have hw : wrap64 ((x : Int) + 1) = ((x + 1 : Nat) : Int) := by rw [wrap_in _ (by omega) (by omega)]; rfl
    obtain ⟨r3, h3, h3r⟩ := zzFits3_pure L[x]
    cases r3 with
    | false =>
      refine ⟨k + 1, false, ?_, nofun⟩
      simp only [laws_zzFits2.l0]
      rw [if_pos (by omega), if_pos (by omega), if_pos (by omega), rd54 hxl, h3, Option.bind_some, if_neg (by simp)]
    | true =>
      refine ⟨k + 1, r, ?_, fun e s hs => ?_⟩
      · simp only [laws_zzFits2.l0]
        rw [if_pos (by omega), if_pos (by omega), if_pos (by omega), rd54 hxl, h3, Option.bind_some, if_pos rfl, hw]
        exact hk
      · rw [List.drop_eq_getElem_cons hxl, List.mem_cons] at hs
        rcases hs with rfl | hs
        · exact h3r rfl
        · exact hr e s hs
theorem zzFits2_pure (L : List S54) : ∃ k r, laws_zzFits2.f k L = some r ∧ (r = true → L.length ≤ 2147483647 ∧ ∀ s ∈ L, s.f0.size ≤ 2147483647) := by
  unfold laws_zzFits2.f
  by_cases h : (L.length : Int) > 2147483647
  · exact ⟨0, false, by rw [if_pos h], nofun⟩
  · obtain ⟨k, r, hk, hr⟩ := zzFits2_l0 L (by omega) L.length 0 (by omega)
    exact ⟨k, r, by rw [if_neg h]; exact hk, fun e => ⟨by omega, by simpa using hr e⟩⟩
end Go.Proofs.YtcedefabmelogaaGreatDoor.H
/- Plain laws: zzFits5, conv, all. -/
namespace Go.Proofs.YtcedefabmelogaaGreatDoor.H
open Go.RowKit Go.Proofs.YtcedefabmelogaaGreatDoorW.PrintWords Go.Proofs.YtcedefabmelogaaGreatDoorW.PrintMore
open Go.Proofs.YtcedefabmelogaaGreatDoor.PFnAllowed
set_option linter.unusedVariables false
set_option linter.unusedSimpArgs false
set_option maxRecDepth 100000
/-- How long a given pattern's parts are. -/
structure FitsIn (p : S41) : Prop where
  m : p.f0.size ≤ 2147483647
  h : p.f1.size ≤ 2147483647
  n : p.f2.length ≤ 2147483647
  s : ∀ s ∈ p.f2, s.f0.size ≤ 2147483647
theorem zzFits1_pure (p : S41) : ∃ k r, laws_zzFits1.f k p.f0 p.f1 p.f2 = some r ∧ (r = true → FitsIn p) := by
  unfold laws_zzFits1.f
  by_cases h0 : (p.f0.size : Int) > 2147483647
  · exact ⟨0, false, by rw [if_pos h0], nofun⟩
  · by_cases h1 : (p.f1.size : Int) > 2147483647
    · exact ⟨0, false, by rw [if_neg h0, if_pos h1], nofun⟩
    · obtain ⟨k, r, hk, hr⟩ := zzFits2_pure p.f2
      cases r with
      | false => exact ⟨k, false, by rw [if_neg h0, if_neg h1, hk, Option.bind_some, if_neg (by simp)], nofun⟩
      | true => exact ⟨k, true, by rw [if_neg h0, if_neg h1, hk, Option.bind_some, if_pos rfl], fun _ => ⟨by omega, by omega, (hr rfl).1, (hr rfl).2⟩⟩
theorem zzFits5_l0 (L : List S41) (hlen : L.length ≤ 2147483647) : ∀ (n x : Nat), x + n = L.length → ∃ k r, laws_zzFits5.l0 k L (L.length : Int) (x : Int) = some r ∧ (r = true → ∀ s ∈ L.drop x, FitsIn s)
  | 0, x, hx => by
    refine ⟨1, true, ?_, fun _ s hs => ?_⟩
    · simp only [laws_zzFits5.l0]; rw [if_neg (by omega)]
    · rw [List.drop_of_length_le (by omega)] at hs; cases hs
  | n + 1, x, hx => by
    have hxl : x < L.length := by omega
    obtain ⟨k, r, hk, hr⟩ := zzFits5_l0 L hlen n (x + 1) (by omega)
    have hw : wrap64 ((x : Int) + 1) = ((x + 1 : Nat) : Int) := by rw [wrap_in _ (by omega) (by omega)]; rfl
    obtain ⟨k3, r3, h3, h3r⟩ := zzFits1_pure L[x]
    have h3' := lift (F := fun k => laws_zzFits1.f k L[x].f0 L[x].f1 L[x].f2) (fun k => laws_zzFits1.mono _ _ _ k) h3 k
    have hk' := lift (F := fun k => laws_zzFits5.l0 k L (L.length : Int) ((x + 1 : Nat) : Int)) (fun k => laws_zzFits5.mono_l k _ _ _) hk k3
    rw [Nat.add_comm k k3] at hk'
    cases r3 with
    | false =>
      refine ⟨k3 + k + 1, false, ?_, nofun⟩
      simp only [laws_zzFits5.l0]
      rw [if_pos (by omega), if_pos (by omega), if_pos (by omega), rd41 hxl, h3', Option.bind_some, if_neg (by simp)]
    | true =>
      refine ⟨k3 + k + 1, r, ?_, fun e s hs => ?_⟩
      · simp only [laws_zzFits5.l0]
        rw [if_pos (by omega), if_pos (by omega), if_pos (by omega), rd41 hxl, h3', Option.bind_some, if_pos rfl, hw]
        exact hk'
      · rw [List.drop_eq_getElem_cons hxl, List.mem_cons] at hs
        rcases hs with rfl | hs
        · exact h3r rfl
        · exact hr e s hs
theorem zzFits5_pure (L : List S41) : ∃ k r, laws_zzFits5.f k L = some r ∧ (r = true → L.length ≤ 2147483647 ∧ ∀ s ∈ L, FitsIn s) := by
  unfold laws_zzFits5.f
  by_cases h : (L.length : Int) > 2147483647
  · exact ⟨0, false, by rw [if_pos h], nofun⟩
  · obtain ⟨k, r, hk, hr⟩ := zzFits5_l0 L (by omega) L.length 0 (by omega)
    exact ⟨k, r, by rw [if_neg h]; exact hk, fun e => ⟨by omega, by simpa using hr e⟩⟩
end Go.Proofs.YtcedefabmelogaaGreatDoor.H
/- Plain laws: conv, all. -/
namespace Go.Proofs.YtcedefabmelogaaGreatDoor.H
open Go.RowKit Go.Proofs.YtcedefabmelogaaGreatDoorW.PrintWords Go.Proofs.YtcedefabmelogaaGreatDoorW.PrintMore
open Go.Proofs.YtcedefabmelogaaGreatDoor.PFnAllowed
set_option linter.unusedVariables false
set_option linter.unusedSimpArgs false
set_option maxRecDepth 100000
def c52 (s : S54) : S52 := ⟨s.f0, s.f1, s.f2⟩
def c35 (p : S41) : S35 := ⟨p.f0, p.f1, p.f2.map c52⟩
theorem conv_l0 (m h : ByteArray) (L : List S54) (hlen : L.length ≤ 2147483647) : ∀ (n x : Nat), x + n = L.length → ∃ k, laws_conv.l0 k L (L.length : Int) (x : Int) m h ((L.take x).map c52) = some (m, h, L.map c52)
  | 0, x, hx => by
    refine ⟨1, ?_⟩
    simp only [laws_conv.l0]
    rw [if_neg (by omega), List.take_of_length_le (by omega)]
  | n + 1, x, hx => by
    have hxl : x < L.length := by omega
    obtain ⟨k, hk⟩ := conv_l0 m h L hlen n (x + 1) (by omega)
    have hw : wrap64 ((x : Int) + 1) = ((x + 1 : Nat) : Int) := by rw [wrap_in _ (by omega) (by omega)]; rfl
    refine ⟨k + 1, ?_⟩
    simp only [laws_conv.l0]
    rw [if_pos (by omega), if_pos (by omega), if_pos (by omega), if_pos (by rw [List.length_map, List.length_take]; omega), rd54 hxl, hw]
    rw [List.take_succ_eq_append_getElem hxl, List.map_append] at hk
    exact hk
theorem conv_pure (p : S41) (hlen : p.f2.length ≤ 2147483647) : ∃ k, laws_conv.f k p.f0 p.f1 p.f2 = some ((c35 p).f0, (c35 p).f1, (c35 p).f2) := by
  obtain ⟨k, hk⟩ := conv_l0 p.f0 p.f1 p.f2 hlen p.f2.length 0 (by omega)
  exact ⟨k, hk⟩
theorem all_l0 (L : List S41) (hlen : L.length ≤ 2147483647) (hL : ∀ p ∈ L, FitsIn p) : ∀ (n x : Nat), x + n = L.length → ∃ k, laws_all.l0 k ((L.take x).map c35) L (L.length : Int) (x : Int) = some (L.map c35)
  | 0, x, hx => by
    refine ⟨1, ?_⟩
    simp only [laws_all.l0]
    rw [if_neg (by omega), List.take_of_length_le (by omega)]
  | n + 1, x, hx => by
    have hxl : x < L.length := by omega
    obtain ⟨k, hk⟩ := all_l0 L hlen hL n (x + 1) (by omega)
    have hw : wrap64 ((x : Int) + 1) = ((x + 1 : Nat) : Int) := by rw [wrap_in _ (by omega) (by omega)]; rfl
    obtain ⟨k3, h3⟩ := conv_pure L[x] (hL _ (List.getElem_mem hxl)).n
    have h3' := lift (F := fun k => laws_conv.f k L[x].f0 L[x].f1 L[x].f2) (fun k => laws_conv.mono _ _ _ k) h3 k
    have hk' := lift (F := fun k => laws_all.l0 k ((L.take (x + 1)).map c35) L (L.length : Int) ((x + 1 : Nat) : Int)) (fun k => laws_all.mono_l k _ _ _ _) hk k3
    rw [Nat.add_comm k k3] at hk'
    refine ⟨k3 + k + 1, ?_⟩
    simp only [laws_all.l0]
    rw [if_pos (by omega), if_pos (by omega), if_pos (by omega), rd41 hxl, h3', Option.bind_some, if_pos (by rw [List.length_map, List.length_take]; omega), hw]
    rw [List.take_succ_eq_append_getElem hxl, List.map_append] at hk'
    exact hk'
theorem all_pure (L : List S41) (hlen : L.length ≤ 2147483647) (hL : ∀ p ∈ L, FitsIn p) : ∃ k, laws_all.f k L = some (L.map c35) := by
  obtain ⟨k, hk⟩ := all_l0 L hlen hL L.length 0 (by omega)
  exact ⟨k, hk⟩
end Go.Proofs.YtcedefabmelogaaGreatDoor.H
/- Plain laws: has, Items. -/
namespace Go.Proofs.YtcedefabmelogaaGreatDoor.H
open Go.RowKit Go.Proofs.YtcedefabmelogaaGreatDoorW.PrintWords Go.Proofs.YtcedefabmelogaaGreatDoorW.PrintMore
open Go.Proofs.YtcedefabmelogaaGreatDoor.PFnAllowed
set_option linter.unusedVariables false
set_option linter.unusedSimpArgs false
set_option maxRecDepth 100000
theorem has_l0 (s : ByteArray) (b : Int) (hs : s.size ≤ 2147483647) : ∀ (n x : Nat), x + n = s.size → ∃ k r, spec_has.l0 k s b (s.size : Int) (x : Int) = some r ∧ (r = false → ∀ y : Int, (x : Int) ≤ y → y < s.size → bt s y ≠ b)
  | 0, x, hx => by
    refine ⟨1, false, ?_, fun _ y h1 h2 => by omega⟩
    simp only [spec_has.l0]; rw [if_neg (by omega)]
  | n + 1, x, hx => by
    obtain ⟨k, r, hk, hr⟩ := has_l0 s b hs n (x + 1) (by omega)
    have hw : wrap64 ((x : Int) + 1) = ((x + 1 : Nat) : Int) := by rw [wrap_in _ (by omega) (by omega)]; rfl
    by_cases e : bt s (x : Int) = b
    · refine ⟨k + 1, true, ?_, nofun⟩
      simp only [spec_has.l0]
      rw [if_pos (by omega), if_pos (by omega), if_pos (by omega), if_pos e]
    · refine ⟨k + 1, r, ?_, fun h y h1 h2 => ?_⟩
      · simp only [spec_has.l0]
        rw [if_pos (by omega), if_pos (by omega), if_pos (by omega), if_neg e, hw]
        exact hk
      · by_cases ey : y = (x : Int)
        · subst ey; exact e
        · exact hr h y (by omega) h2
theorem has_pure (s : ByteArray) (b : Int) (hs : s.size ≤ 2147483647) : ∃ k r, spec_has.f k s b = some r ∧ (r = false → ∀ y : Int, 0 ≤ y → y < s.size → bt s y ≠ b) := by
  obtain ⟨k, r, hk, hr⟩ := has_l0 s b hs s.size 0 (by omega)
  exact ⟨k, r, hk, hr⟩
end Go.Proofs.YtcedefabmelogaaGreatDoor.H
/- Plain laws: Items. -/
namespace Go.Proofs.YtcedefabmelogaaGreatDoor.H
open Go.RowKit Go.Proofs.YtcedefabmelogaaGreatDoorW.PrintWords Go.Proofs.YtcedefabmelogaaGreatDoorW.PrintMore
open Go.Proofs.YtcedefabmelogaaGreatDoor.PFnAllowed
set_option linter.unusedVariables false
set_option linter.unusedSimpArgs false
set_option maxRecDepth 100000
/-- What Items tells from a place on: the pieces behind it. -/
def ItemsFrom (l : List UInt8) (out : List ByteArray) (fr : Nat) (r1 : List ByteArray) : Prop :=
  ∃ its, r1 = out ++ its.map bs ∧ ItemsOk its ∧ (fr ≤ l.length → l.drop (fr - 1) = pathT its) ∧ (l.length < fr → its = [])
theorem Items_l0 (l : List UInt8) (h37 : (37 : UInt8) ∉ l) (hl : l.length ≤ 1000000) : ∀ (n fr i : Nat) (out : List ByteArray), 1 ≤ fr → fr ≤ i → i + n = l.length + 1 → (n = 0 → fr = i) →
    (∀ j, fr ≤ j → j < i → l[j]? ≠ some 47) → (fr ≤ l.length → l[fr - 1]? = some 47) → out.length ≤ i →
    ∃ k r1 r2, spec_Items.l0 k (bs l) out (fr : Int) (i : Int) = some (r1, r2) ∧ (r2 = true → ItemsFrom l out fr r1)
  | 0, fr, i, out, h1, h2, hn, hz, hno, h47, ho => by
    have hsz := bs_size l
    have := hz rfl
    refine ⟨1, out, true, ?_, fun _ => ⟨[], by simp, trivial, fun h => by omega, fun _ => rfl⟩⟩
    simp only [spec_Items.l0]
    rw [if_neg (by omega)]
  | n + 1, fr, i, out, h1, h2, hn, hz, hno, h47, ho => by
    have hsz := bs_size l
    have hw : wrap64 ((i : Int) + 1) = ((i + 1 : Nat) : Int) := by rw [wrap_in _ (by omega) (by omega)]; rfl
    by_cases hgo : i < l.length ∧ l[i]? ≠ some 47
    · obtain ⟨k, r1, r2, hk, hr⟩ := Items_l0 l h37 hl n fr (i + 1) out h1 (by omega) (by omega) (by omega) (fun j hj1 hj2 => by
        by_cases e : j = i
        · subst e; exact hgo.2
        · exact hno j hj1 (by omega)) h47 (by omega)
      have hb : (bt (bs l) (i : Int) != 47) = true := by
        rw [bs_bt l i hgo.1, bne_iff_ne]
        intro e
        refine hgo.2 ?_
        rw [List.getElem?_eq_getElem hgo.1]
        congr 1
        exact UInt8.toNat_inj.1 (by simpa using (by omega : (l[i]).toNat = 47))
      refine ⟨k + 2, r1, r2, ?_, hr⟩
      simp only [spec_Items.l0, spec_Items.j2]
      rw [if_pos (by omega), if_pos (by omega), if_pos (by omega), if_pos hb, hw]
      exact hk
    · -- a piece ends here
      have hj : ∀ k, spec_Items.l0 (k + 2) (bs l) out (fr : Int) (i : Int) = spec_Items.j2 (k + 1) (bs l) out (fr : Int) (i : Int) false := by
        intro k
        simp only [spec_Items.l0]
        rw [if_pos (by omega)]
        by_cases hlt : i < l.length
        · have h47i : l[i]? = some 47 := Classical.byContradiction fun h => hgo ⟨hlt, h⟩
          have hb : (bt (bs l) (i : Int) != 47) = false := by
            rw [bt_getElem l i 47 h47i]; rfl
          rw [if_pos (by omega), if_pos (by omega), hb]
        · rw [if_neg (by omega)]
      have hend : i < l.length → l[i]? = some 47 := fun hlt => Classical.byContradiction fun h => hgo ⟨hlt, h⟩
      have htail : ∀ its, (i + 1 ≤ l.length → l.drop (i + 1 - 1) = pathT its) → (l.length < i + 1 → its = []) → l.drop i = pathT its := by
        intro its h3 h4
        by_cases hlt : i + 1 ≤ l.length
        · have := h3 hlt
          simpa using this
        · rw [h4 (by omega), List.drop_of_length_le (by omega)]; rfl
      by_cases hfi : fr < i
      · obtain ⟨k, r1, r2, hk, hr⟩ := Items_l0 l h37 hl n (i + 1) (i + 1) (out ++ [bs ((l.drop fr).take (i - fr))]) (by omega) (by omega) (by omega) (fun _ => rfl) (fun j _ _ => by omega) (fun h => by simpa using hend (by omega)) (by simp; omega)
        refine ⟨k + 2, r1, r2, ?_, fun e => ?_⟩
        · rw [hj]
          simp only [spec_Items.j2]
          rw [if_neg (by simp), if_pos (by omega), if_pos (by omega), if_pos (by omega), if_pos (by omega), if_pos (by omega), hw, Int.toNat_natCast, Int.toNat_natCast, bs_extract]
          exact hk
        · obtain ⟨its, h3, h4, h5, h6⟩ := hr e
          have hit : (l.drop fr).take (i - fr) ≠ [] ∧ (47 : UInt8) ∉ (l.drop fr).take (i - fr) ∧ (37 : UInt8) ∉ (l.drop fr).take (i - fr) := by
            refine ⟨?_, ?_, ?_⟩
            · intro h
              have := congrArg List.length h
              simp at this
              omega
            · intro h
              obtain ⟨j, hj1, hj2⟩ := List.getElem_of_mem h
              rw [List.getElem_take, List.getElem_drop] at hj2
              simp at hj1
              exact hno (fr + j) (by omega) (by omega) (by rw [← hj2]; exact List.getElem?_eq_getElem _)
            · intro h
              exact h37 (List.drop_subset _ _ (List.take_subset _ _ h))
          have hne : (l.drop fr).take (i - fr) ≠ [47] := fun h => hit.2.1 (by rw [h]; simp)
          refine ⟨(l.drop fr).take (i - fr) :: its, by rw [h3]; simp, ⟨.inr hit, h4⟩, fun _ => ?_, fun h => by omega⟩
          have hd : l.drop (fr - 1) = 47 :: l.drop fr := by
            have hf := h47 (by omega)
            obtain ⟨hlt, he⟩ := List.getElem?_eq_some_iff.1 hf
            rw [List.drop_eq_getElem_cons hlt, he, show fr - 1 + 1 = fr by omega]
          rw [hd]
          simp only [pathT, if_neg hne]
          rw [← htail its h5 h6]
          congr 1
          have := List.take_append_drop (i - fr) (l.drop fr)
          rw [List.drop_drop, show fr + (i - fr) = i by omega] at this
          exact this.symm
      · have hfe : fr = i := by omega
        by_cases hiN : i = l.length
        · obtain ⟨k, r1, r2, hk, hr⟩ := Items_l0 l h37 hl n (i + 1) (i + 1) (out ++ [bs [47]]) (by omega) (by omega) (by omega) (fun _ => rfl) (fun j _ _ => by omega) (fun h => by omega) (by simp; omega)
          refine ⟨k + 2, r1, r2, ?_, fun e => ?_⟩
          · rw [hj]
            simp only [spec_Items.j2]
            rw [if_neg (by simp), if_neg (by omega), if_pos (by omega), if_pos (by omega), hw]
            exact hk
          · obtain ⟨its, h3, h4, h5, h6⟩ := hr e
            have := h6 (by omega)
            subst this
            refine ⟨[[47]], by rw [h3]; simp, ⟨.inl ⟨rfl, rfl⟩, trivial⟩, fun _ => ?_, fun h => by omega⟩
            have hf := h47 (by omega)
            obtain ⟨hlt, he⟩ := List.getElem?_eq_some_iff.1 hf
            rw [List.drop_eq_getElem_cons hlt, he, List.drop_of_length_le (by omega)]
            rfl
        · refine ⟨2, [], false, ?_, nofun⟩
          rw [hj]
          simp only [spec_Items.j2]
          rw [if_neg (by simp), if_neg (by omega), if_neg (by omega)]
end Go.Proofs.YtcedefabmelogaaGreatDoor.H
/- Plain laws: Items, whole. -/
namespace Go.Proofs.YtcedefabmelogaaGreatDoor.H
open Go.RowKit Go.Proofs.YtcedefabmelogaaGreatDoorW.PrintWords Go.Proofs.YtcedefabmelogaaGreatDoorW.PrintMore
open Go.Proofs.YtcedefabmelogaaGreatDoor.PFnAllowed
set_option linter.unusedVariables false
set_option linter.unusedSimpArgs false
set_option maxRecDepth 100000
theorem Items_pure (s : ByteArray) (hs : s.size ≤ 2147483647) : ∃ k r1 r2, spec_Items.f k s = some (r1, r2) ∧ (r2 = true → ∃ its, r1 = its.map bs ∧ ItemsOk its ∧ s = bs (pathT its) ∧ s.size ≤ 120) := by
  have hj : ∀ k, spec_Items.j0 (k + 1) s true = some ([], false) := fun k => by simp [spec_Items.j0]
  have hsz := size_toList s
  unfold spec_Items.f
  by_cases h0 : s.toList = []
  · exact ⟨1, [], false, by rw [if_pos h0]; exact hj 0, nofun⟩
  · have hpos : 0 < s.size := by rw [← hsz]; exact List.length_pos_iff.2 h0
    by_cases h47 : bt s 0 = 47
    · by_cases h120 : (s.size : Int) > 120
      · exact ⟨1, [], false, by rw [if_neg h0, if_pos (by omega), if_pos h47, if_pos h120]; exact hj 0, nofun⟩
      · obtain ⟨k, b, hk, hb⟩ := has_pure s 37 hs
        cases b with
        | true => exact ⟨k + 1, [], false, by rw [if_neg h0, if_pos (by omega), if_pos h47, if_neg h120, (lift (F := fun k => spec_has.f k s 37) (fun k => spec_has.mono _ _ k) hk 1), Option.bind_some]; exact hj k, nofun⟩
        | false =>
          have h37 : (37 : UInt8) ∉ s.toList := by
            intro hm
            exact byte_of (s := s) (P := fun z => z ≠ 37) (hb rfl) 37 hm rfl
          obtain ⟨x, t, hxt⟩ : ∃ x t, s.toList = x :: t := by
            cases hc : s.toList with
            | nil => exact absurd hc h0
            | cons x t => exact ⟨x, t, rfl⟩
          have hx : x = 47 := by
            have := bt_getElem s.toList 0 x (by rw [hxt]; rfl)
            rw [bs_self] at this
            have h : (x.toNat : Int) = 47 := by rw [← this]; exact h47
            exact UInt8.toNat_inj.1 (by simpa using (by omega : x.toNat = 47))
          obtain ⟨k2, r1, r2, hk2, hr⟩ := Items_l0 s.toList h37 (by omega) s.size 1 1 [] (by omega) (by omega) (by omega) (fun _ => rfl) (fun j _ _ => by omega) (fun _ => by rw [hxt, hx]; rfl) (by simp)
          rw [bs_self] at hk2
          have hh := lift (F := fun k => spec_has.f k s 37) (fun k => spec_has.mono _ _ k) hk (k2 + 1)
          have hk2' := lift (F := fun k => spec_Items.l0 k s [] 1 1) (fun k => (spec_Items.mono_l k).2.1 _ _ _ _) hk2 k
          refine ⟨k + (k2 + 1), r1, r2, ?_, fun e => ?_⟩
          · rw [if_neg h0, if_pos (by omega), if_pos h47, if_neg h120, hh, Option.bind_some, show k + (k2 + 1) = (k2 + k) + 1 by omega]
            simp only [spec_Items.j0]
            rw [if_neg (by simp)]
            exact hk2'
          · obtain ⟨its, h3, h4, h5, h6⟩ := hr e
            refine ⟨its, by simpa using h3, h4, ?_, by omega⟩
            have := h5 (by omega)
            simp at this
            rw [← this, bs_self]
    · exact ⟨1, [], false, by rw [if_neg h0, if_pos (by omega), if_neg h47]; exact hj 0, nofun⟩
end Go.Proofs.YtcedefabmelogaaGreatDoor.H
