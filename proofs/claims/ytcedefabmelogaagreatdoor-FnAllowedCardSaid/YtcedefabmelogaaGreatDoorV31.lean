/- Plain facts for the law: good patterns that live in peace are what the program's side asks for; the methods told are the methods wanted. -/
import Derived.Test.YtcedefabmelogaaGreatDoorV09
import Derived.Test.YtcedefabmelogaaGreatDoorV30
namespace Go.Proofs.YtcedefabmelogaaGreatDoor.H
open Go.RowKit Go.WideMaps Go.WideElems Go.Proofs.YtcedefabmelogaaGreatDoorW.PrintWords Go.Proofs.YtcedefabmelogaaGreatDoorW.PrintLast Go.Proofs.YtcedefabmelogaaGreatDoorW.PrintMore
open Go.Proofs.YtcedefabmelogaaGreatDoor.PFnAllowed
set_option linter.unusedVariables false
set_option linter.unusedSimpArgs false
set_option maxRecDepth 100000
theorem lit_ne {p : S35} (G : GoodS p) (i : Nat) (hi : i < p.f2.length) (h : (p.f2[i]).f1 = false) : (p.f2[i]).f0 ≠ ⟨#[]⟩ := by
  intro e
  have F := G.seg i hi
  by_cases e47 : (p.f2[i]).f0.toList = [47]
  · rw [e, ByteArray.toList_eq] at e47
    cases e47
  · have := (F.lit h e47).1
    rw [e, ByteArray.toList_eq] at this
    exact this rfl
theorem plainS {p : S35} (G : GoodS p) : PlainS p :=
  ⟨G.ne, by have := G.six; omega, fun s hs h => by
    obtain ⟨i, hi, rfl⟩ := List.mem_iff_getElem.1 hs
    exact lit_ne G i hi h⟩
theorem patKey {p : S35} (G : GoodS p) : PatKey p := ⟨fun i hi _ h => lit_ne G i hi h⟩
theorem patOk {p : S35} (G : GoodS p) : PatOk p :=
  ⟨G.ne, G.six, by have := G.meth.2; simp only [maxLen]; omega, by have := G.host.2; simp only [maxLen]; omega, fun s hs => by
    obtain ⟨i, hi, rfl⟩ := List.mem_iff_getElem.1 hs
    have := (G.seg i hi).size
    simp only [maxLen]; omega, fun i hi h => ((G.seg i hi).multi h).2.1⟩
theorem must_good {p : S35} (G : GoodS p) {w00 : World} (ht : Tab w00) : MustOk w00 (textOf p) p := by
  obtain ⟨h1, h2⟩ := textOk G
  have := must_text h1 ht
  rw [h2, bs_self, bs_self] at this
  exact this
theorem good_mem {P : List S35} (G : AllG P) : ∀ p, p ∈ P → GoodS p := fun p hp => by
  obtain ⟨i, hi, rfl⟩ := List.mem_iff_getElem.1 hp
  exact G.good i hi
theorem given_of {P : List S35} (G : AllG P) (hd : ∀ i (hi : i < P.length) j (hj : j < P.length), j < i → pth P[j] ≠ pth P[i]) {w00 : World} (ht : Tab w00) : Given w00 (P.map textOf) P :=
  ⟨by simp, G.ten, fun i h1 h2 => by rw [List.getElem_map]; exact must_good (G.good i h2) ht, fun p hp => patOk (good_mem G p hp), fun i hi p' hp' => by
    obtain ⟨j, hj, rfl⟩ := List.mem_iff_getElem.1 hp'
    rw [List.length_take] at hj
    rw [List.getElem_take]
    exact hd i hi j (by omega) (by omega)⟩
/-- A method that a pattern tells. -/
def Told1 (its : List ByteArray) (host : ByteArray) (p : S35) (j : ByteArray) : Prop :=
  matchB p.f2 its = true ∧ p.f0 ≠ ⟨#[]⟩ ∧ (p.f1 = ⟨#[]⟩ ∨ p.f1 = host) ∧ (j = p.f0 ∨ (p.f0 = GETb ∧ j = HEADb))
/-- The methods that the first x patterns tell. -/
def ToldUpto (its : List ByteArray) (host : ByteArray) (P : List S35) (x : Nat) (ws : List ByteArray) : Prop := ∀ j, j ∈ ws ↔ ∃ i, ∃ hi : i < P.length, i < x ∧ Told1 its host P[i] j
theorem toldUpto_zero (its : List ByteArray) (host : ByteArray) (P : List S35) : ToldUpto its host P 0 [] := fun j => by
  constructor
  · intro h; cases h
  · rintro ⟨i, hi, h, _⟩; omega
theorem toldUpto_succ {its : List ByteArray} {host : ByteArray} {P : List S35} {x : Nat} {ws : List ByteArray} (h : ToldUpto its host P x ws) (hx : x < P.length) (add : List ByteArray) (ha : ∀ j, j ∈ add ↔ Told1 its host P[x] j) : ToldUpto its host P (x + 1) (ws ++ add) := fun j => by
  rw [List.mem_append, h j, ha j]
  constructor
  · rintro (⟨i, hi, h1, h2⟩ | h1)
    · exact ⟨i, hi, by omega, h2⟩
    · exact ⟨x, hx, by omega, h1⟩
  · rintro ⟨i, hi, h1, h2⟩
    by_cases e : i = x
    · subst e; exact .inr h2
    · exact .inl ⟨i, hi, by omega, h2⟩
theorem toldUpto_skip {its : List ByteArray} {host : ByteArray} {P : List S35} {x : Nat} {ws : List ByteArray} (h : ToldUpto its host P x ws) (hx : x < P.length) (ha : ∀ j, ¬ Told1 its host P[x] j) : ToldUpto its host P (x + 1) ws := by
  have := toldUpto_succ h hx [] (fun j => by simp [ha j])
  rwa [List.append_nil] at this
theorem allowed_iff {S : TS} {P : List S35} (T : TreeSays S P) (G : AllG P) (its : List (List UInt8)) (hi : ItemsOk its) (host : ByteArray) {ws : List ByteArray} (hw : ToldUpto (its.map bs) host P P.length ws) (j : ByteArray) :
    allowedM S its host j = true ↔ j ∈ ws := by
  rw [allowedM_says T (fun p hp => patKey (good_mem G p hp)) its hi, hw j]
  have hG : GETb ≠ ⟨#[]⟩ := by decide
  constructor
  · rintro (⟨p, hp, h1, h2, h3, h4⟩ | ⟨hj, p, hp, h1, h2, h3, h4⟩)
    · obtain ⟨i, hi, rfl⟩ := List.mem_iff_getElem.1 hp
      exact ⟨i, hi, hi, h4, by rw [h1]; exact h2, h3.symm, .inl h1.symm⟩
    · obtain ⟨i, hi, rfl⟩ := List.mem_iff_getElem.1 hp
      exact ⟨i, hi, hi, h4, by rw [h1]; exact h2, h3.symm, .inr ⟨h1, hj⟩⟩
  · rintro ⟨i, hi, _, h4, h2, h3, h1⟩
    rcases h1 with rfl | ⟨h1, hj⟩
    · exact .inl ⟨P[i], List.getElem_mem hi, rfl, h2, h3.symm, h4⟩
    · exact .inr ⟨hj, P[i], List.getElem_mem hi, h1, hG, h3.symm, h4⟩
theorem nodup_le {α : Type} [DecidableEq α] : ∀ (l m : List α), l.Nodup → (∀ x ∈ l, x ∈ m) → l.length ≤ m.length
  | [], m, _, _ => Nat.zero_le _
  | a :: l, m, hn, hs => by
    have ha : a ∈ m := hs a (by simp)
    have hn' := List.nodup_cons.1 hn
    have := nodup_le l (m.erase a) hn'.2 (fun x hx => by
      have hne : x ≠ a := fun e => hn'.1 (e ▸ hx)
      exact (List.mem_erase_of_ne hne).2 (hs x (by simp [hx])))
    rw [List.length_erase_of_mem ha] at this
    have h1 := List.length_pos_of_mem ha
    simp only [List.length_cons]
    omega
theorem pathT_bd : ∀ (its : List (List UInt8)), its.length ≤ (pathT its).length ∧ ∀ x ∈ its, x.length ≤ (pathT its).length
  | [] => ⟨Nat.le_refl _, fun x hx => by cases hx⟩
  | y :: r => by
    obtain ⟨h1, h2⟩ := pathT_bd r
    unfold pathT
    simp only [List.length_cons, List.length_append]
    refine ⟨by omega, fun x hx => ?_⟩
    rcases List.mem_cons.1 hx with rfl | hx
    · by_cases e : x = [47]
      · subst e; simp
      · rw [if_neg e]; omega
    · have := h2 x hx
      omega
theorem items_bd {its : List (List UInt8)} (h : (bs (pathT its)).size ≤ 120) : its.length ≤ 120 ∧ (pathT its).length ≤ 120 ∧ ∀ x ∈ its.map bs, x.size ≤ 120 := by
  rw [bs_size] at h
  obtain ⟨h1, h2⟩ := pathT_bd its
  refine ⟨by omega, h, fun x hx => ?_⟩
  obtain ⟨y, hy, rfl⟩ := List.mem_map.1 hx
  rw [bs_size]
  have := h2 y hy
  omega
/-- A row of strings that is owned reads as it does. -/
theorem own_strings {w : World} {base n : Nat} {v : Value} {l : List ByteArray} (h : w.ownsRow base 9 1 v n (l.map Value.string)) (hn : n = l.length) : ∃ A c, v = .slice A l.length c ∧ l.length ≤ c ∧ Kd.C Kd.string w A l.length l := by
  subst hn
  refine Kd.R_reads (e := 9) (base := base) (ok := fun _ => True) ⟨fun _ _ => trivial, l.map Value.string, h, by simp [Kd.string, Kd.scalar], fun j p hj => ?_⟩
  show ((l.map Value.string).drop (j * 1)).take 1 = [Value.string p]
  obtain ⟨hjl, rfl⟩ := List.getElem?_eq_some_iff.1 hj
  rw [Nat.mul_one, List.drop_eq_getElem_cons (by simpa using hjl)]
  simp
theorem fits_c35 {L : List S41} (h : ∀ p ∈ L, FitsIn p) : ∀ p ∈ L.map c35, Fits p := fun p hp => by
  obtain ⟨q, hq, rfl⟩ := List.mem_map.1 hp
  have F := h q hq
  exact ⟨F.m, F.h, by simpa [c35] using F.n, fun s hs => by
    obtain ⟨t, ht, rfl⟩ := List.mem_map.1 hs
    exact F.s t ht⟩
end Go.Proofs.YtcedefabmelogaaGreatDoor.H
