/- An argument that is a list of patterns, as the walks take it. -/
import Derived.Test.YtcedefabmelogaaGreatDoorV02
import Derived.Deep.Slices
import Derived.ChangeArms
import Derived.ChangeSame
namespace Go.Proofs.YtcedefabmelogaaGreatDoor.H
open Go.ChangeShapes Go.WideShapes Go.RowKit Go.Proofs.YtcedefabmelogaaGreatDoorW.PrintWords Go.Proofs.YtcedefabmelogaaGreatDoorW.PrintLast Go.Proofs.YtcedefabmelogaaGreatDoorW.PrintMore
open Go.Proofs.YtcedefabmelogaaGreatDoor.PFnAllowed
set_option linter.unusedVariables false
set_option linter.unusedSimpArgs false
set_option maxRecDepth 100000
section
variable {H : Type} {enc : TypeId × Value → H} {w : World} {base : Nat} {spare : Nat → Bool} {held : Bool}
open Classical in
/-- A slice whose elements read as their kind says. -/
theorem C_of_trod {α : Type} (d : Kd α) (z : α) {t e : TypeId} {fuel : Nat} {cs : List Value} {x : DataW H × List MemPlace} (ht : Tryz.prog.underlying t = some (.slice e)) (hsz : Tryz.prog.cellsOf e = d.sz)
    (elem : ∀ (cs' : List Value) (n : Nat) (y : DataW H × List MemPlace), DataW.trod enc Tryz.prog w base spare held n e cs' = some y → ∃ a : α, d.K w a cs')
    (h : DataW.trod enc Tryz.prog w base spare held fuel t cs = some x) : ∃ A c, ∃ xs : List α, cs = [.slice A xs.length c] ∧ xs.length ≤ c ∧ d.C w A xs.length xs := by
  rcases Go.Deep.open_slice ht h with ⟨rfl, _⟩ | ⟨a, len, cap, m, n, D, Pl, rfl, hb, hl, hm, hmm, hx, hi⟩
  · exact ⟨none, 0, [], rfl, Nat.le_refl _, rfl, by simp, fun h => by simp at h⟩
  · have hlm : len ≤ m := by rw [hmm]; split <;> omega
    have hE : ∀ i, i < len → ∃ (v : α) (cs' : List Value), d.K w v cs' ∧ cs'.length = d.sz ∧ ∀ j u, cs'[j]? = some u → w.cell? (a.add (i * d.sz + j)) = some u := by
      intro i hil
      obtain ⟨cs', hc, ht'⟩ := hi i (by omega)
      obtain ⟨v, hv⟩ := elem cs' n _ ht'
      obtain ⟨_, hcl, hat⟩ := World.cells?_some hc
      rw [hsz] at hat hcl
      refine ⟨v, cs', hv, hcl, fun j u hj => ?_⟩
      have hjl := (List.getElem?_eq_some_iff.1 hj).1
      have := hat j (by omega)
      rw [← Addr.add_add, this, hj]
    let V : Nat → α := fun i => if hi : i < len then Classical.choose (hE i hi) else z
    have hV : ∀ i, i < len → ∃ cs' : List Value, d.K w (V i) cs' ∧ cs'.length = d.sz ∧ ∀ j u, cs'[j]? = some u → w.cell? (a.add (i * d.sz + j)) = some u := by
      intro i hil
      have := Classical.choose_spec (hE i hil)
      simp only [V, dif_pos hil]
      exact this
    have hlen : ((List.range len).map V).length = len := by simp
    refine ⟨some a, cap, (List.range len).map V, by rw [hlen], by rw [hlen]; exact hl, ?_⟩
    rw [hlen]
    refine ⟨hlen, by simp only [maxLen] at hm; omega, fun _ => ⟨a, rfl, fun j p hj => ?_⟩⟩
    obtain ⟨hjl, rfl⟩ := List.getElem?_eq_some_iff.1 hj
    rw [hlen] at hjl
    obtain ⟨cs', h1, h2, h3⟩ := hV j hjl
    simp only [List.getElem_map, List.getElem_range]
    exact ⟨cs', h2, h1, h3⟩
theorem cells9 : Tryz.prog.cellsOf 9 = 1 := by kernel_rfl
theorem cells4 : Tryz.prog.cellsOf 4 = 1 := by kernel_rfl
theorem cells39 : Tryz.prog.cellsOf 39 = 1 := by kernel_rfl
theorem cells54 : Tryz.prog.cellsOf 54 = 3 := by kernel_rfl
theorem cells41 : Tryz.prog.cellsOf 41 = 3 := by kernel_rfl
theorem open54 {n : Nat} {cs : List Value} {y : DataW H × List MemPlace} (h : DataW.trod enc Tryz.prog w base spare held n 54 cs = some y) : ∃ a : S54, k54.K w a cs := by
  obtain ⟨ys, n', _, hy, hlen, hyl, hf⟩ := DataW.trod_struct Tryz.underlying54 h
  rw [cells54] at hlen
  match cs, hlen with
  | [c0, c1, c2], _ =>
    match ys, hyl with
    | [y0, y1, y2], _ =>
      have h0 : DataW.trod enc Tryz.prog w base spare held n' 9 (([c0, c1, c2].drop 0).take (Tryz.prog.cellsOf 9)) = some y0 := hf 0 _ rfl
      have h1 : DataW.trod enc Tryz.prog w base spare held n' 4 (([c0, c1, c2].drop 1).take (Tryz.prog.cellsOf 4)) = some y1 := hf 1 _ rfl
      have h2 : DataW.trod enc Tryz.prog w base spare held n' 4 (([c0, c1, c2].drop 2).take (Tryz.prog.cellsOf 4)) = some y2 := hf 2 _ rfl
      rw [cells9] at h0
      rw [cells4] at h1 h2
      obtain ⟨s, e0, _⟩ := DataW.trod_string Tryz.underlying9 h0
      obtain ⟨b1, e1, _⟩ := DataW.trod_bool Tryz.underlying4 h1
      obtain ⟨b2, e2, _⟩ := DataW.trod_bool Tryz.underlying4 h2
      simp at e0 e1 e2
      subst e0 e1 e2
      exact ⟨⟨s, b1, b2⟩, k54_mk w ⟨s, b1, b2⟩⟩
theorem open41 {n : Nat} {cs : List Value} {y : DataW H × List MemPlace} (h : DataW.trod enc Tryz.prog w base spare held n 41 cs = some y) : ∃ a : S41, k41.K w a cs := by
  obtain ⟨ys, n', _, hy, hlen, hyl, hf⟩ := DataW.trod_struct Tryz.underlying41 h
  rw [cells41] at hlen
  match cs, hlen with
  | [c0, c1, c2], _ =>
    match ys, hyl with
    | [y0, y1, y2], _ =>
      have h0 : DataW.trod enc Tryz.prog w base spare held n' 9 (([c0, c1, c2].drop 0).take (Tryz.prog.cellsOf 9)) = some y0 := hf 0 _ rfl
      have h1 : DataW.trod enc Tryz.prog w base spare held n' 9 (([c0, c1, c2].drop 1).take (Tryz.prog.cellsOf 9)) = some y1 := hf 1 _ rfl
      have h2 : DataW.trod enc Tryz.prog w base spare held n' 39 (([c0, c1, c2].drop 2).take (Tryz.prog.cellsOf 39)) = some y2 := hf 2 _ rfl
      rw [cells9] at h0 h1
      rw [cells39] at h2
      obtain ⟨s, e0, _⟩ := DataW.trod_string Tryz.underlying9 h0
      obtain ⟨s1, e1, _⟩ := DataW.trod_string Tryz.underlying9 h1
      obtain ⟨A, c, l, e2, hl, hC⟩ := C_of_trod k54 z54 Tryz.underlying39 cells54 (fun _ _ _ h => open54 h) h2
      simp at e0 e1 e2
      subst e0 e1 e2
      exact ⟨⟨s, s1, l⟩, k41_mk w ⟨s, s1, l⟩ hl hC⟩
/-- The argument itself. -/
theorem open22 {v : Value} {d : DataW H} {p : List MemPlace} (h : DataW.Trod enc Tryz.prog w base spare held 22 v d p) (hv : ∃ A n c, v = .slice A n c) : ∃ A c, ∃ xs : List S41, v = .slice A xs.length c ∧ xs.length ≤ c ∧ Kd.C k41 w A xs.length xs := by
  obtain ⟨fuel, hf⟩ := h
  obtain ⟨A0, n0, c0, rfl⟩ := hv
  obtain ⟨A, c, xs, e, h1, h2⟩ := C_of_trod k41 z41 Tryz.underlying22 cells41 (fun _ _ _ h => open41 h) hf
  exact ⟨A, c, xs, by simpa [Value.cells] using e, h1, h2⟩
end
end Go.Proofs.YtcedefabmelogaaGreatDoor.H
