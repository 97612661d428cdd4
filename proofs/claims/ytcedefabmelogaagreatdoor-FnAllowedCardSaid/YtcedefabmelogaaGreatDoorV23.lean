/- Plain laws: what the printed functions of the reference come to: Method, Host, Name, Literal. -/
import Derived.Test.YtcedefabmelogaaGreatDoorV14
import Derived.Test.YtcedefabmelogaaGreatDoorV16
import Derived.Test.YtcedefabmelogaaGreatDoorV17
import Derived.Test.YtcedefabmelogaaGreatDoorV18
import Derived.Test.YtcedefabmelogaaGreatDoorV22
namespace Go.Proofs.YtcedefabmelogaaGreatDoor.H
open Go.RowKit Go.Proofs.YtcedefabmelogaaGreatDoorW.PrintWords
open Go.Proofs.YtcedefabmelogaaGreatDoor.PFnAllowed
set_option linter.unusedVariables false
set_option linter.unusedSimpArgs false
set_option maxRecDepth 100000
theorem wrap_in (x : Int) (h0 : 0 ≤ x) (h1 : x ≤ 2147483648) : wrap64 x = x := by
  unfold wrap64
  omega
theorem Method_l0 (s : ByteArray) (hs : s.size ≤ 2147483647) : ∀ (n : Nat) (x : Int), 0 ≤ x → x + n = s.size →
    ∃ k r, spec_Method.l0 k s (s.size : Int) x = some r ∧ (r = true → (∀ y : Int, x ≤ y → y < s.size → (65 ≤ bt s y ∧ bt s y ≤ 90) ∨ (97 ≤ bt s y ∧ bt s y ≤ 122)) ∧ s.size < 12)
  | 0, x, h0, h1 => by
    refine ⟨1, decide ((s.size : Int) < 12), ?_, fun h => ⟨fun y h2 h3 => by omega, by have := of_decide_eq_true h; omega⟩⟩
    simp only [spec_Method.l0]
    rw [if_neg (by omega)]
  | n + 1, x, h0, h1 => by
    obtain ⟨k, r, hk, hr⟩ := Method_l0 s hs n (x + 1) (by omega) (by omega)
    by_cases hl : (65 ≤ bt s x ∧ bt s x ≤ 90) ∨ (97 ≤ bt s x ∧ bt s x ≤ 122)
    · refine ⟨k + 1, r, ?_, fun h => ⟨fun y h2 h3 => ?_, (hr h).2⟩⟩
      · simp only [spec_Method.l0]
        rw [wrap_in (x + 1) (by omega) (by omega)]
        repeat' split
        all_goals first | exact hk | (exfalso; omega)
      · by_cases e : y = x
        · subst e; exact hl
        · exact (hr h).1 y (by omega) h3
    · refine ⟨k + 1, false, ?_, nofun⟩
      simp only [spec_Method.l0]
      repeat' split
      all_goals first | rfl | (exfalso; omega)
theorem Method_pure (s : ByteArray) (hs : s.size ≤ 2147483647) : ∃ k r, spec_Method.f k s = some r ∧ (r = true → (∀ y : Int, 0 ≤ y → y < s.size → (65 ≤ bt s y ∧ bt s y ≤ 90) ∨ (97 ≤ bt s y ∧ bt s y ≤ 122)) ∧ s.size < 12) :=
  Method_l0 s hs s.size 0 (by omega) (by omega)
theorem Host_l0 (s : ByteArray) (hs : s.size ≤ 2147483647) : ∀ (n : Nat) (x : Int), 0 ≤ x → x + n = s.size →
    ∃ k r, spec_Host.l0 k s (s.size : Int) x = some r ∧ (r = true → (∀ y : Int, x ≤ y → y < s.size → (97 ≤ bt s y ∧ bt s y ≤ 122) ∨ bt s y = 46 ∨ bt s y = 45 ∨ (48 ≤ bt s y ∧ bt s y ≤ 57)) ∧ s.size < 20)
  | 0, x, h0, h1 => by
    refine ⟨1, decide ((s.size : Int) < 20), ?_, fun h => ⟨fun y h2 h3 => by omega, by have := of_decide_eq_true h; omega⟩⟩
    simp only [spec_Host.l0]
    rw [if_neg (by omega)]
  | n + 1, x, h0, h1 => by
    obtain ⟨k, r, hk, hr⟩ := Host_l0 s hs n (x + 1) (by omega) (by omega)
    by_cases hl : (97 ≤ bt s x ∧ bt s x ≤ 122) ∨ bt s x = 46 ∨ bt s x = 45 ∨ (48 ≤ bt s x ∧ bt s x ≤ 57)
    · refine ⟨k + 1, r, ?_, fun h => ⟨fun y h2 h3 => ?_, (hr h).2⟩⟩
      · simp only [spec_Host.l0]
        rw [wrap_in (x + 1) (by omega) (by omega)]
        repeat' split
        all_goals first | exact hk | (exfalso; omega)
      · by_cases e : y = x
        · subst e; exact hl
        · exact (hr h).1 y (by omega) h3
    · refine ⟨k + 1, false, ?_, nofun⟩
      simp only [spec_Host.l0]
      repeat' split
      all_goals first | rfl | (exfalso; omega)
theorem Host_pure (s : ByteArray) (hs : s.size ≤ 2147483647) : ∃ k r, spec_Host.f k s = some r ∧ (r = true → (∀ y : Int, 0 ≤ y → y < s.size → (97 ≤ bt s y ∧ bt s y ≤ 122) ∨ bt s y = 46 ∨ bt s y = 45 ∨ (48 ≤ bt s y ∧ bt s y ≤ 57)) ∧ s.size < 20) :=
  Host_l0 s hs s.size 0 (by omega) (by omega)
theorem Name_l0 (s : ByteArray) (hs : s.size ≤ 2147483647) : ∀ (n : Nat) (x : Int), 0 ≤ x → x + n = s.size →
    ∃ k r, spec_Name.l0 k s (s.size : Int) x = some r ∧ (r = true → (∀ y : Int, x ≤ y → y < s.size → (65 ≤ bt s y ∧ bt s y ≤ 90) ∨ (97 ≤ bt s y ∧ bt s y ≤ 122) ∨ bt s y = 95 ∨ (y ≠ 0 ∧ 48 ≤ bt s y ∧ bt s y ≤ 57)) ∧ s.toList ≠ [])
  | 0, x, h0, h1 => by
    refine ⟨1, (s.toList != ([] : List UInt8)), ?_, fun h => ⟨fun y h2 h3 => by omega, by simpa using h⟩⟩
    simp only [spec_Name.l0]
    rw [if_neg (by omega)]
  | n + 1, x, h0, h1 => by
    obtain ⟨k, r, hk, hr⟩ := Name_l0 s hs n (x + 1) (by omega) (by omega)
    by_cases hl : (65 ≤ bt s x ∧ bt s x ≤ 90) ∨ (97 ≤ bt s x ∧ bt s x ≤ 122) ∨ bt s x = 95 ∨ (x ≠ 0 ∧ 48 ≤ bt s x ∧ bt s x ≤ 57)
    · refine ⟨k + 1, r, ?_, fun h => ⟨fun y h2 h3 => ?_, (hr h).2⟩⟩
      · simp only [spec_Name.l0]
        rw [wrap_in (x + 1) (by omega) (by omega)]
        repeat' split
        all_goals first | exact hk | (exfalso; omega)
      · by_cases e : y = x
        · subst e; exact hl
        · exact (hr h).1 y (by omega) h3
    · refine ⟨k + 1, false, ?_, nofun⟩
      simp only [spec_Name.l0]
      repeat' split
      all_goals first | rfl | (exfalso; omega)
theorem Name_pure (s : ByteArray) (hs : s.size ≤ 2147483647) : ∃ k r, spec_Name.f k s = some r ∧ (r = true → (∀ y : Int, 0 ≤ y → y < s.size → (65 ≤ bt s y ∧ bt s y ≤ 90) ∨ (97 ≤ bt s y ∧ bt s y ≤ 122) ∨ bt s y = 95 ∨ (y ≠ 0 ∧ 48 ≤ bt s y ∧ bt s y ≤ 57)) ∧ s.toList ≠ []) :=
  Name_l0 s hs s.size 0 (by omega) (by omega)
theorem Literal_l0 (s : ByteArray) (hs : s.size ≤ 2147483647) : ∀ (n : Nat) (x : Int), 0 ≤ x → x + n = s.size →
    ∃ k r, spec_Literal.l0 k s (s.size : Int) x = some r ∧ (r = true → ∀ y : Int, x ≤ y → y < s.size → 33 ≤ bt s y ∧ bt s y ≤ 126 ∧ bt s y ≠ 47 ∧ bt s y ≠ 37 ∧ bt s y ≠ 123 ∧ bt s y ≠ 125)
  | 0, x, h0, h1 => by
    refine ⟨1, true, ?_, fun _ y h2 h3 => by omega⟩
    simp only [spec_Literal.l0]
    rw [if_neg (by omega)]
  | n + 1, x, h0, h1 => by
    obtain ⟨k, r, hk, hr⟩ := Literal_l0 s hs n (x + 1) (by omega) (by omega)
    by_cases hl : 33 ≤ bt s x ∧ bt s x ≤ 126 ∧ bt s x ≠ 47 ∧ bt s x ≠ 37 ∧ bt s x ≠ 123 ∧ bt s x ≠ 125
    · refine ⟨k + 1, r, ?_, fun h y h2 h3 => ?_⟩
      · simp only [spec_Literal.l0]
        rw [wrap_in (x + 1) (by omega) (by omega)]
        repeat' split
        all_goals first | exact hk | (exfalso; omega)
      · by_cases e : y = x
        · subst e; exact hl
        · exact hr h y (by omega) h3
    · refine ⟨k + 1, false, ?_, nofun⟩
      simp only [spec_Literal.l0]
      repeat' split
      all_goals first | rfl | (exfalso; omega)
theorem Literal_pure (s : ByteArray) (hs : s.size ≤ 2147483647) : ∃ k r, spec_Literal.f k s = some r ∧ (r = true → s.toList ≠ [] ∧ s.toList ≠ [46] ∧ s.toList ≠ [46, 46] ∧ s.size ≤ 16 ∧ ∀ y : Int, 0 ≤ y → y < s.size → 33 ≤ bt s y ∧ bt s y ≤ 126 ∧ bt s y ≠ 47 ∧ bt s y ≠ 37 ∧ bt s y ≠ 123 ∧ bt s y ≠ 125) := by
  obtain ⟨k, r, hk, hr⟩ := Literal_l0 s hs s.size 0 (by omega) (by omega)
  by_cases h : s.toList ≠ [] ∧ s.toList ≠ [46] ∧ s.toList ≠ [46, 46] ∧ s.size ≤ 16
  · refine ⟨k + 1, r, ?_, fun e => ⟨h.1, h.2.1, h.2.2.1, h.2.2.2, hr e⟩⟩
    unfold spec_Literal.f
    rw [if_neg h.1, if_neg h.2.1, if_neg h.2.2.1]
    simp only [spec_Literal.j0]
    rw [if_neg (by simp; omega)]
    exact hk
  · refine ⟨1, false, ?_, nofun⟩
    unfold spec_Literal.f
    simp only [spec_Literal.j0]
    repeat' split
    all_goals first | rfl | skip
    all_goals (exfalso; first | (simp_all; done) | (simp_all; omega))
end Go.Proofs.YtcedefabmelogaaGreatDoor.H
