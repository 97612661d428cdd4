/- Names of wildcards; texts of segments. -/
import Derived.Test.YtcedefabmelogaaGreatDoorV19
import Derived.Test.YtcedefabmelogaaGreatDoorV06
import Derived.Test.YtcedefabmelogaaGreatDoorV05
import Derived.Test.YtcedefabmelogaaGreatDoorV08
import Derived.Handy
import Derived.Defers
/- The walk of cleanPath at a path in order: it comes back as it is. -/
namespace Go.Proofs.YtcedefabmelogaaGreatDoor.H
open Go.RowKit Go.Lib Go.Proofs.YtcedefabmelogaaGreatDoorW.PrintWords Go.Proofs.YtcedefabmelogaaGreatDoorW.PrintLast Go.Proofs.YtcedefabmelogaaGreatDoorW.PrintMore
set_option linter.unusedVariables false
set_option linter.unusedSimpArgs false
set_option maxRecDepth 100000
set_option maxHeartbeats 600000 in
theorem cleanPath_plain (s : ByteArray) (k : Nat) (w : World) (hk : s.size = k + 1) (hs : s.size ≤ 281474976710656) (h0 : bt s 0 = 47) (hl : (bt s (k : Int) == 47) = false)
    (hC : ∀ w, Calls Tryz.prog 80 #[.string s] w fun e w' => e = .returned (.string s) ∧ Below w.heap.size w w') :
    Calls Tryz.prog 71 #[.string s] w fun e w' => e = .returned (.string s) ∧ Below w.heap.size w w' := by
  have HC := Aside0.mk (hC w)
  have hx0 : ∀ h : 0 < s.size, ((s[0]'h).toNat : Int) = 47 := fun h => (bt_at s 0 h).trans h0
  have hxk : ∀ h : k < s.size, ((s[k]'h).toNat : Int) = bt s k := fun h => bt_at s (k : Int) h
  have hse : s.toList.isEmpty = false := by
    rw [str_empty, decide_eq_false_iff_not]
    intro e
    rw [e] at hk
    exact absurd hk (by show ¬ (0 = k + 1); omega)
  have hp0 : (0:Int) < (k : Int) + 1 := by omega
  have hpk : (k : Int) < (k : Int) + 1 := by omega
  have hwr : IntKind.i64.wrap (k : Int) = k := IntWalk.i64_in _ (by constructor <;> omega)
  clear hC h0
  go_enter Tryz.func71, Tryz.ntmps71
  go_wp2_with (go_at_call 80; refine HC.out.mono ?_; rintro e w' ⟨rfl, hb⟩; have HB := Aside0.mk hb; clear hb)
  go_ret
  exact ⟨rfl, HB.out⟩
set_option maxHeartbeats 600000 in
theorem cleanPath_slash (s np : ByteArray) (k : Nat) (w : World) (hk : s.size = k + 1) (hs : s.size ≤ 281474976710656) (h0 : bt s 0 = 47) (hl : (bt s (k : Int) == 47) = true) (hn : np.size = k) (hnp : np ≠ bs [47])
    (hC : ∀ w, Calls Tryz.prog 80 #[.string s] w fun e w' => e = .returned (.string np) ∧ Below w.heap.size w w')
    (hP : ∀ w, Calls Tryz.prog 81 #[.string s, .string np] w fun e w' => e = .returned (.bool true) ∧ w' = w) :
    Calls Tryz.prog 71 #[.string s] w fun e w' => e = .returned (.string s) ∧ Below w.heap.size w w' := by
  have HC := Aside0.mk (hC w)
  have HP := Aside0.mk hP
  have hx0 : ∀ h : 0 < s.size, ((s[0]'h).toNat : Int) = 47 := fun h => (bt_at s 0 h).trans h0
  have hxk : ∀ h : k < s.size, ((s[k]'h).toNat : Int) = bt s k := fun h => bt_at s (k : Int) h
  have hse : s.toList.isEmpty = false := by
    rw [str_empty, decide_eq_false_iff_not]
    intro e
    rw [e] at hk
    exact absurd hk (by show ¬ (0 = k + 1); omega)
  have hp0 : (0:Int) < (k : Int) + 1 := by omega
  have hpk : (k : Int) < (k : Int) + 1 := by omega
  have hwr : IntKind.i64.wrap (k : Int) = k := IntWalk.i64_in _ (by constructor <;> omega)
  have hne : (np.toList == [47]) = false := by
    have h47 : (bs [47]).toList = [47] := bs_toList _
    rw [← h47, str_eq, decide_eq_false_iff_not]
    exact hnp
  have hnb : (np.toList != [47]) = true := by rw [bne, hne]; rfl
  clear hC h0 hP hnp
  go_enter Tryz.func71, Tryz.ntmps71
  go_wp2_with (first | (go_at_call 80; refine HC.out.mono ?_; rintro e w' ⟨rfl, hb⟩; have HB := Aside0.mk hb; clear hb) | (go_at_call 81; refine (HP.out _).mono ?_; rintro e w' ⟨rfl, rfl⟩))
  go_ret
  exact ⟨rfl, HB.out⟩
set_option maxHeartbeats 600000 in
theorem cleanPath_root (w : World)
    (hC : ∀ w, Calls Tryz.prog 80 #[.string (bs [47])] w fun e w' => e = .returned (.string (bs [47])) ∧ Below w.heap.size w w') :
    Calls Tryz.prog 71 #[.string (bs [47])] w fun e w' => e = .returned (.string (bs [47])) ∧ Below w.heap.size w w' := by
  have HC := Aside0.mk (hC w)
  have hx0 : ∀ h : 0 < (bs [47]).size, (((bs [47])[0]'h).toNat : Int) = 47 := fun h => rfl
  have hse : (bs [47]).toList.isEmpty = false := by rw [bs_toList]; rfl
  have hk : (bs [47]).size = 1 := rfl
  have hne : ((bs [47]).toList == [47]) = true := by rw [bs_toList]; rfl
  have hnb : ((bs [47]).toList != [47]) = false := by rw [bs_toList]; rfl
  clear hC
  generalize bs [47] = s at *
  go_enter Tryz.func71, Tryz.ntmps71
  go_wp2_with (first | (go_at_call 80; refine HC.out.mono ?_; rintro e w' ⟨rfl, hb⟩; have HB := Aside0.mk hb; clear hb))
  go_ret
  exact ⟨rfl, HB.out⟩
theorem bt_getElem (l : List UInt8) (i : Nat) (x : UInt8) (h : l[i]? = some x) : bt (bs l) (i : Int) = (x.toNat : Int) := by
  obtain ⟨hi, e⟩ := List.getElem?_eq_some_iff.1 h
  rw [bs_bt l i hi, e]
theorem path_Clean_bs (l c : List UInt8) (hs : l.length ≤ 281474976710656) (h : Pa.clean l = c) (w : World) : Calls Tryz.prog 80 #[.string (bs l)] w fun e w' => e = .returned (.string (bs c)) ∧ Below w.heap.size w w' := by
  have := Tryz.path_Clean (bs l) w (by rw [bs_size]; exact hs)
  rw [bs_data, h] at this
  exact this
theorem joinP_last (ts : List (List UInt8)) (t : List UInt8) (c : UInt8) : joinP (ts ++ [t ++ [c]]) = joinP (ts ++ [t]) ++ [c] := by
  rw [joinP_append, joinP_append]
  simp [joinP]
/-- cleanPath at pieces that stand for themselves, the last of them perhaps empty: the path comes back. -/
theorem cleanPath_join (ts : List (List UInt8)) (t : List UInt8) (hts : ∀ x ∈ ts, Piece x) (ht : t = [] ∨ Piece t) (hs : (joinP (ts ++ [t])).length ≤ 281474976710656) (w : World) :
    Calls Tryz.prog 71 #[.string (bs (joinP (ts ++ [t])))] w fun e w' => e = .returned (.string (bs (joinP (ts ++ [t])))) ∧ Below w.heap.size w w' := by
  have hd : ∃ r, joinP (ts ++ [t]) = 47 :: r := by
    cases ts with
    | nil => exact ⟨_, joinP_cons _ _⟩
    | cons u us => exact ⟨_, by rw [List.cons_append, joinP_cons]⟩
  have h0 : bt (bs (joinP (ts ++ [t]))) 0 = 47 := by
    obtain ⟨r, hr⟩ := hd
    exact bt_getElem _ 0 47 (by rw [hr]; rfl)
  rcases ht with rfl | ht
  · cases ts with
    | nil =>
      have e : joinP ([] ++ [([] : List UInt8)]) = [47] := rfl
      rw [e]
      refine cleanPath_root w (path_Clean_bs [47] [47] (by decide) ?_)
      decide
    | cons u us =>
      have e : joinP ((u :: us) ++ [([] : List UInt8)]) = joinP (u :: us) ++ [47] := by rw [joinP_append]; rfl
      have hc := clean_slash u us hts
      rw [e] at hs h0 ⊢
      have hlen : (joinP (u :: us) ++ [47]).length = (joinP (u :: us)).length + 1 := by simp
      refine cleanPath_slash _ (bs (joinP (u :: us))) (joinP (u :: us)).length w (by rw [bs_size, hlen]) (by rw [bs_size]; exact hs) h0 ?_ (bs_size _) ?_ (path_Clean_bs _ _ hs hc) ?_
      · rw [bt_getElem _ _ 47 (by simp)]; rfl
      · intro h
        have h' := bs_inj h
        rw [joinP_cons] at h'
        have := (hts u (by simp)).1
        cases u with
        | nil => exact this rfl
        | cons a b => simp at h'
      · intro w
        have := Tryz.strings_HasPrefix (bs (joinP (u :: us) ++ [47])) (bs (joinP (u :: us))) w
        rw [bs_data, bs_data] at this
        have hp : Lib.hasPrefix (joinP (u :: us) ++ [47]) (joinP (u :: us)) = true := by simp [Lib.hasPrefix]
        rw [hp] at this
        exact this
  · obtain ⟨tt, c, rfl⟩ : ∃ tt c, t = tt ++ [c] := ⟨t.dropLast, t.getLast ht.1, (List.dropLast_concat_getLast ht.1).symm⟩
    have hc : c ≠ 47 := fun h => ht.2.2.2 (by simp [h])
    have hall : ∀ x ∈ ts ++ [tt ++ [c]], Piece x := by
      intro x hx
      rw [List.mem_append] at hx
      rcases hx with hx | hx
      · exact hts x hx
      · simp at hx; subst hx; exact ht
    have hcl : Pa.clean (joinP (ts ++ [tt ++ [c]])) = joinP (ts ++ [tt ++ [c]]) := by
      cases ts with
      | nil => exact clean_full _ _ hall
      | cons u us => exact clean_full u (us ++ [tt ++ [c]]) hall
    have hC := path_Clean_bs _ _ hs hcl
    rw [joinP_last] at hC hs h0 ⊢
    have hlen : (joinP (ts ++ [tt]) ++ [c]).length = (joinP (ts ++ [tt])).length + 1 := by simp
    refine cleanPath_plain _ (joinP (ts ++ [tt])).length w (by rw [bs_size, hlen]) (by rw [bs_size]; exact hs) h0 ?_ hC
    rw [bt_getElem _ _ c (by simp)]
    exact u8_ne (c := 47) rfl hc
end Go.Proofs.YtcedefabmelogaaGreatDoor.H
/- Plain words on a pattern's pieces and their texts. -/
namespace Go.Proofs.YtcedefabmelogaaGreatDoor.H
open Go.RowKit Go.Lib Go.Proofs.YtcedefabmelogaaGreatDoor.PFnAllowed
set_option maxRecDepth 100000
/-- A piece of a pattern: a literal, a wildcard with a name, the rest with a name, the rest without one, the end. -/
inductive Sg where
  | lit (l : List UInt8)
  | wild (n : List UInt8)
  | rest (n : List UInt8)
  | any
  | fin
def Sg.txt : Sg → List UInt8
  | .lit l => l
  | .wild n => 123 :: (n ++ [125])
  | .rest n => 123 :: (n ++ [46, 46, 46, 125])
  | .any => []
  | .fin => [123, 36, 125]
def Sg.seg : Sg → S52
  | .lit l => ⟨bs l, false, false⟩
  | .wild n => ⟨bs n, true, false⟩
  | .rest n => ⟨bs n, true, true⟩
  | .any => ⟨bs [], true, true⟩
  | .fin => ⟨bs [47], false, false⟩
def Sg.name : Sg → Option (List UInt8)
  | .wild n => some n
  | .rest n => some n
  | _ => none
def Sg.last : Sg → Bool
  | .rest _ => true
  | .any => true
  | .fin => true
  | _ => false
def LitOk (l : List UInt8) : Prop := l ≠ [] ∧ l ≠ [46] ∧ l ≠ [46, 46] ∧ l.length ≤ 16 ∧ ∀ b ∈ l, 33 ≤ b.toNat ∧ b.toNat ≤ 126 ∧ b ≠ 47 ∧ b ≠ 37 ∧ b ≠ 123 ∧ b ≠ 125
def NameOk (n : List UInt8) : Prop := (∃ b t, n = b :: t ∧ NameHead b) ∧ (∀ b ∈ n, NameTail b) ∧ n.length ≤ 16
def Sg.ok : Sg → Prop
  | .lit l => LitOk l
  | .wild n => NameOk n
  | .rest n => NameOk n
  | _ => True
theorem name_byte {b : UInt8} (h : NameTail b) : 48 ≤ b.toNat ∧ b.toNat ≤ 122 ∧ b ≠ 47 ∧ b ≠ 123 ∧ b ≠ 125 ∧ b ≠ 46 ∧ b ≠ 36 ∧ b ≠ 32 ∧ b ≠ 9 := by
  unfold NameTail NameHead at h
  refine ⟨by omega, by omega, ?_, ?_, ?_, ?_, ?_, ?_, ?_⟩ <;> (rintro rfl; revert h; decide)
theorem Sg.bytes {g : Sg} (h : g.ok) : ∀ b ∈ g.txt, 33 ≤ b.toNat ∧ b.toNat ≤ 126 ∧ b ≠ 47 := by
  intro b hb
  cases g with
  | lit l => have := h.2.2.2.2 b hb; exact ⟨this.1, this.2.1, this.2.2.1⟩
  | wild n =>
    simp only [Sg.txt, List.mem_cons, List.mem_append, List.mem_nil_iff, or_false] at hb
    rcases hb with rfl | hb | rfl
    · decide
    · have := name_byte (h.2.1 b hb); exact ⟨by omega, by omega, this.2.2.1⟩
    · decide
  | rest n =>
    simp only [Sg.txt, List.mem_cons, List.mem_append, List.mem_nil_iff, or_false] at hb
    rcases hb with rfl | hb | rfl | rfl | rfl | rfl
    · decide
    · have := name_byte (h.2.1 b hb); exact ⟨by omega, by omega, this.2.2.1⟩
    all_goals decide
  | any => simp [Sg.txt] at hb
  | fin =>
    simp only [Sg.txt, List.mem_cons, List.mem_nil_iff, or_false] at hb
    rcases hb with rfl | rfl | rfl <;> decide
theorem Sg.noSlash {g : Sg} (h : g.ok) : (47 : UInt8) ∉ g.txt := fun hb => (Sg.bytes h _ hb).2.2 rfl
theorem Sg.len {g : Sg} (h : g.ok) : g.txt.length ≤ 21 := by
  cases g with
  | lit l => have := h.2.2.2.1; simp [Sg.txt]; omega
  | wild n => have := h.2.2; simp [Sg.txt]; omega
  | rest n => have := h.2.2; simp [Sg.txt]; omega
  | any => simp [Sg.txt]
  | fin => simp [Sg.txt]
theorem Sg.piece {g : Sg} (h : g.ok) : g.txt = [] ∨ Piece g.txt := by
  cases g with
  | lit l => exact .inr ⟨h.1, h.2.1, h.2.2.1, Sg.noSlash (g := .lit l) h⟩
  | wild n => exact .inr ⟨by simp [Sg.txt], by simp [Sg.txt], by simp [Sg.txt], Sg.noSlash (g := .wild n) h⟩
  | rest n => exact .inr ⟨by simp [Sg.txt], by simp [Sg.txt], by simp [Sg.txt], Sg.noSlash (g := .rest n) h⟩
  | any => exact .inl rfl
  | fin => exact .inr ⟨by simp [Sg.txt], by simp [Sg.txt], by simp [Sg.txt], Sg.noSlash (g := .fin) h⟩
/-- The pieces of a pattern are in order. -/
structure SgsOk (l : List Sg) : Prop where
  ne : l ≠ []
  ok : ∀ g ∈ l, g.ok
  last : ∀ (i : Nat) (hi : i < l.length), (l[i]).last = true → i + 1 = l.length
  names : (l.filterMap Sg.name).Nodup
  len : l.length ≤ 6
/-- The text of the pieces. -/
def sgT (l : List Sg) : List UInt8 := joinP (l.map Sg.txt)
theorem sgT_cons (g : Sg) (l : List Sg) : sgT (g :: l) = 47 :: (g.txt ++ sgT l) := joinP_cons _ _
theorem sgT_nil : sgT [] = [] := rfl
theorem sgT_len : ∀ (l : List Sg), (∀ g ∈ l, g.ok) → (sgT l).length ≤ l.length * 22
  | [], _ => by simp [sgT_nil]
  | g :: l, h => by
    have := sgT_len l (fun x hx => h x (by simp [hx]))
    have := Sg.len (h g (by simp))
    rw [sgT_cons]
    simp
    omega
theorem sgT_head {l : List Sg} (h : l ≠ []) : ∃ r, sgT l = 47 :: r := by
  cases l with
  | nil => exact absurd rfl h
  | cons g l => exact ⟨_, sgT_cons g l⟩
theorem sgT_bytes {l : List Sg} (h : ∀ g ∈ l, g.ok) : ∀ b ∈ sgT l, 33 ≤ b.toNat ∧ b.toNat ≤ 126 := by
  induction l with
  | nil => simp [sgT_nil]
  | cons g l ih =>
    intro b hb
    rw [sgT_cons] at hb
    simp only [List.mem_cons, List.mem_append] at hb
    rcases hb with rfl | hb | hb
    · decide
    · have := Sg.bytes (h g (by simp)) b hb; exact ⟨this.1, this.2.1⟩
    · exact ih (fun x hx => h x (by simp [hx])) b hb
theorem clean_sgs {l : List Sg} (h : SgsOk l) (w : World) : Calls Tryz.prog 71 #[.string (bs (sgT l))] w fun e w' => e = .returned (.string (bs (sgT l))) ∧ Below w.heap.size w w' := by
  obtain ⟨a, g, rfl⟩ : ∃ a g, l = a ++ [g] := ⟨l.dropLast, l.getLast h.ne, (List.dropLast_concat_getLast h.ne).symm⟩
  have hl := sgT_len _ h.ok
  have hlen := h.len
  have e : sgT (a ++ [g]) = joinP (a.map Sg.txt ++ [g.txt]) := by simp [sgT]
  rw [e] at hl ⊢
  refine cleanPath_join _ _ ?_ (Sg.piece (h.ok g (by simp))) (by omega) w
  intro x hx
  obtain ⟨y, hy, rfl⟩ := List.mem_map.1 hx
  rcases Sg.piece (h.ok y (by simp [hy])) with hp | hp
  · exfalso
    obtain ⟨i, hi, rfl⟩ := List.getElem_of_mem hy
    have hi' : i < (a ++ [g]).length := by simp; omega
    have hg : (a ++ [g])[i] = a[i] := List.getElem_append_left hi
    have hyk := h.ok a[i] (by simp)
    have hla : (a[i]).last = true := by
      cases hai : a[i] with
      | lit l => rw [hai] at hp hyk; exact absurd hp hyk.1
      | wild n => rw [hai] at hp; simp [Sg.txt] at hp
      | rest n => rfl
      | any => rfl
      | fin => rfl
    have := h.last i hi' (by rw [hg]; exact hla)
    simp at this
    omega
  · exact hp
end Go.Proofs.YtcedefabmelogaaGreatDoor.H
/- What memory holds while a pattern's text is parsed: the pattern's block with its row of segments, the names seen, the error's block. -/
namespace Go.Proofs.YtcedefabmelogaaGreatDoor.H
open Go.RowKit Go.WideMaps Go.WideElems Go.Proofs.YtcedefabmelogaaGreatDoorW.PrintWords Go.Proofs.YtcedefabmelogaaGreatDoorW.PrintLast Go.Proofs.YtcedefabmelogaaGreatDoorW.PrintMore
open Go.Proofs.YtcedefabmelogaaGreatDoor.PFnAllowed
set_option linter.unusedVariables false
set_option linter.unusedSimpArgs false
/-- The cells of segments. -/
def flat3 : List S52 → List Value
  | [] => []
  | x :: l => .string x.f0 :: .bool x.f1 :: .bool x.f2 :: flat3 l
theorem flat3_append : ∀ l m : List S52, flat3 (l ++ m) = flat3 l ++ flat3 m
  | [], m => rfl
  | x :: l, m => by simp [flat3, flat3_append l m]
theorem flat3_snoc (l : List S52) (x : S52) : flat3 (l ++ [x]) = flat3 l ++ [.string x.f0, .bool x.f1, .bool x.f2] := flat3_append l [x]
theorem reps3_aux (w : World) : ∀ (l p : List S52) (cs : List Value), Reps (k52.K w) 3 p cs → Reps (k52.K w) 3 (p ++ l) (cs ++ flat3 l)
  | [], p, cs, h => by simpa [flat3] using h
  | x :: l, p, cs, h => by
    have h1 := reps3_aux w l (p ++ [x]) (cs ++ [.string x.f0, .bool x.f1, .bool x.f2]) (h.snoc (k52_mk w x) rfl)
    simpa [flat3] using h1
theorem reps3 (w : World) (l : List S52) : Reps (k52.K w) 3 l (flat3 l) := by
  have := reps3_aux w l [] [] (Reps.none _ _)
  simpa using this
theorem three_new (w : World) (x y z : Value) (t : TypeId) : ∀ j u, [x, y, z][j]? = some u → (w.alloc (.cells #[x, y, z] t)).cell? ((⟨w.heap.size, 0, none⟩ : Addr).add j) = some u := by
  intro j u hj
  match j, hj with
  | 0, hj => simp at hj; subst hj; simp [Addr.add]
  | 1, hj => simp at hj; subst hj; simp [Addr.add]
  | 2, hj => simp at hj; subst hj; simp [Addr.add]
theorem info112 : (Tryz.prog.info? 112).map (fun i => (i.zero, i.size, i.bytes)) = some (some (.agg #[.string ⟨#[]⟩, .bool false, .bool false]), 3, 24) := by kernel_rfl
theorem own_segAt {w : World} {lo : Nat} {A : Option Addr} {c : Nat} {l : List S52} (h : w.ownsRow lo 112 3 (.slice A l.length c) l.length (flat3 l)) : SegAt w A l ∧ l.length ≤ c := by
  refine ⟨⟨?_, fun hl => ?_⟩, ?_⟩
  · obtain ⟨A', c', e, hr⟩ := own_reads_row h (reps3 w l) rfl
    injection e with e1 e2 e3
    subst e1
    exact hr
  · rcases h.2 with ⟨h1, h2⟩ | ⟨g, cap, cur, h1, h2, h3, _⟩
    · omega
    · injection h1 with h1
      exact ⟨_, cur, h1, h3⟩
  · rcases h.2 with ⟨h1, h2⟩ | ⟨g, cap, cur, h1, h2, h3, h4, _⟩
    · omega
    · injection h1 with _ _ h1
      omega
/-- The state of a parse. -/
structure PInv (w0 w : World) (eb pb mb : Nat) (s m h : ByteArray) (lc : Value) (A : Option Addr) (c : Nat) (l : List S52) (N : Nat) (M : ByteArray → Bool) : Prop where
  below : Below w0.heap.size w0 w
  he : w0.heap.size ≤ eb
  hp : w0.heap.size ≤ pb
  hm : w0.heap.size ≤ mb
  err : w.heap[eb]? = some (.cells #[.nilIface] 96 (0, 0))
  pat : w.heap[pb]? = some (.cells #[.string s, .string m, .string h, .slice A l.length c, lc] 93 (0, 0))
  own : w.ownsRow w0.heap.size 112 3 (.slice A l.length c) l.length (flat3 l)
  map : MapB w mb N M
section
variable {w0 w : World} {eb pb mb : Nat} {s m h : ByteArray} {lc : Value} {A : Option Addr} {c : Nat} {l : List S52} {N : Nat} {M : ByteArray → Bool}
theorem PInv.size (H : PInv w0 w eb pb mb s m h lc A c l N M) : w0.heap.size ≤ w.heap.size := H.below.size
theorem PInv.up {w1 : World} (H : PInv w0 w eb pb mb s m h lc A c l N M) (hb : Below w.heap.size w w1) : PInv w0 w1 eb pb mb s m h lc A c l N M :=
  { below := below_then H.below H.size hb, he := H.he, hp := H.hp, hm := H.hm, err := blk_below H.err hb, pat := blk_below H.pat hb
    own := pw_own_below H.own hb
    map := H.map.kept (row := none) ⟨hb.os, hb.tape, hb.output, hb.size, fun i hi _ => hb.block i hi⟩ (by simp) }
theorem PInv.drew (H : PInv w0 w eb pb mb s m h lc A c l N M) : PInv w0 w.drew eb pb mb s m h lc A c l N M := H.up (Below.refl _ _).drew
theorem PInv.drewN (H : PInv w0 w eb pb mb s m h lc A c l N M) (n : Nat) : PInv w0 (w.drewN n) eb pb mb s m h lc A c l N M := H.up (pw_below_drewN (Below.refl _ _) n)
theorem PInv.alloc (H : PInv w0 w eb pb mb s m h lc A c l N M) (o : Obj) : PInv w0 (w.alloc o) eb pb mb s m h lc A c l N M := H.up (below_alloc (Below.refl _ _) o)
theorem PInv.rowKind (H : PInv w0 w eb pb mb s m h lc A c l N M) {i : Nat} {t : TypeId} {cs : Array Value} (hi : w.heap[i]? = some (.cells cs t (0, 0))) (ht : t ≠ 112) : some i ≠ (Value.slice A l.length c).ownBlock := by
  intro e
  obtain ⟨cells, hc⟩ := own_typed H.own i e.symm
  rw [hi] at hc; injection hc with hc; injection hc with _ hc; exact ht hc
theorem PInv.eNe (H : PInv w0 w eb pb mb s m h lc A c l N M) : eb ≠ pb := by
  rintro rfl
  have := H.err.symm.trans H.pat
  injection this with this; injection this with _ this; cases this
theorem PInv.mRow (H : PInv w0 w eb pb mb s m h lc A c l N M) : some mb ≠ (Value.slice A l.length c).ownBlock := by
  intro e
  obtain ⟨cells, hc⟩ := own_typed H.own mb e.symm
  obtain ⟨es, ck, hm⟩ := H.map.map
  rw [hm] at hc; cases hc
theorem PInv.mNe {H : PInv w0 w eb pb mb s m h lc A c l N M} {i : Nat} {t : TypeId} {cs : Array Value} (hi : w.heap[i]? = some (.cells cs t (0, 0))) : i ≠ mb := by
  rintro rfl
  obtain ⟨es, ck, hm⟩ := H.map.map
  rw [hm] at hi; cases hi
/-- A name more is noted. -/
theorem PInv.note {w1 : World} {N' : Nat} {M' : ByteArray → Bool} (H : PInv w0 w eb pb mb s m h lc A c l N M) (hg : w.grownBy w1 (some mb)) (hM : MapB w1 mb N' M') : PInv w0 w1 eb pb mb s m h lc A c l N' M' :=
  { below := H.below.grown hg H.size (fun k hk => by injection hk with hk; subst hk; exact H.hm), he := H.he, hp := H.hp, hm := H.hm
    err := blk_grown H.err hg (fun e => by injection e with e; exact PInv.mNe (H := H) H.err e)
    pat := blk_grown H.pat hg (fun e => by injection e with e; exact PInv.mNe (H := H) H.pat e)
    own := own_move H.own (fun k hk => hg.block k (own_lt H.own k hk) (fun e => by injection e with e; subst e; exact H.mRow hk.symm))
    map := hM }
/-- A segment more is laid. -/
theorem PInv.more {w1 : World} {O : Obj} {A1 : Option Addr} {c1 : Nat} {x : S52} (H : PInv w0 w eb pb mb s m h lc A c l N M)
    (hown : w1.ownsRow w0.heap.size 112 3 (.slice A1 (l.length + 1) c1) (l.length + 1) (flat3 l ++ [.string x.f0, .bool x.f1, .bool x.f2]))
    (hg : (w.alloc O).grownBy w1 (Value.slice A l.length c).ownBlock) :
    PInv w0 (w1.setCell ⟨pb, 3, none⟩ (.slice A1 (l.length + 1) c1)) eb pb mb s m h lc A1 c1 (l ++ [x]) N M := by
  have H1 := H.alloc O
  have hp1 := blk_grown H1.pat hg (H1.rowKind H1.pat (by decide))
  have he1 := blk_grown H1.err hg (H1.rowKind H1.err (by decide))
  have hb1 : Below w0.heap.size w0 w1 := H1.below.grown hg H1.size (fun k hk => own_base H1.own k hk)
  have hlen : (l ++ [x]).length = l.length + 1 := by simp
  have hm1 : MapB w1 mb N M := H1.map.kept hg H1.mRow
  have hrow : some pb ≠ (Value.slice A1 (l.length + 1) c1).ownBlock := by
    intro e
    obtain ⟨cells, hc⟩ := own_typed hown pb e.symm
    rw [hp1] at hc; injection hc with hc; injection hc with _ hc; exact absurd hc (by decide)
  refine { below := hb1.setCell (p := ⟨pb, 3, none⟩) H.hp _, he := H.he, hp := H.hp, hm := H.hm, err := ?_, pat := ?_, own := ?_, map := ?_ }
  · exact (Below.heap_setCell _ _ _ _ (fun e => H.eNe e)).trans he1
  · rw [hlen]
    exact blk_put hp1 3 _ rfl
  · rw [hlen, flat3_snoc]
    exact own_setCell hown hrow _
  · obtain ⟨D, hD, h1, h2⟩ := hm1
    refine ⟨D, hD.setCell ?_ _, h1, h2⟩
    rintro rfl
    obtain ⟨es, ck, hm⟩ := H.map.map
    rw [H.pat] at hm; cases hm
/-- Nil is laid into the error's block. -/
theorem PInv.errSet (H : PInv w0 w eb pb mb s m h lc A c l N M) : PInv w0 (w.setCell ⟨eb, 0, none⟩ .nilIface) eb pb mb s m h lc A c l N M := by
  have hrow : some eb ≠ (Value.slice A l.length c).ownBlock := H.rowKind H.err (by decide)
  refine { below := H.below.setCell (p := ⟨eb, 0, none⟩) H.he _, he := H.he, hp := H.hp, hm := H.hm, err := blk_put H.err 0 _ rfl, pat := ?_, own := own_setCell H.own hrow _, map := ?_ }
  · exact (Below.heap_setCell _ _ _ _ (fun e => H.eNe e.symm)).trans H.pat
  · obtain ⟨D, hD, h1, h2⟩ := H.map
    refine ⟨D, hD.setCell ?_ _, h1, h2⟩
    rintro rfl
    obtain ⟨es, ck, hm⟩ := H.map.map
    rw [H.err] at hm; cases hm
theorem PInv.mapTo {N' : Nat} {M' : ByteArray → Bool} (H : PInv w0 w eb pb mb s m h lc A c l N M) (hM : MapB w mb N' M') : PInv w0 w eb pb mb s m h lc A c l N' M' :=
  { below := H.below, he := H.he, hp := H.hp, hm := H.hm, err := H.err, pat := H.pat, own := H.own, map := hM }
theorem PInv.patAt (H : PInv w0 w eb pb mb s m h lc A c l N M) : PatAt w pb m h l :=
  ⟨_, _, A, c, H.pat, (own_segAt H.own).1, (own_segAt H.own).2⟩
end
end Go.Proofs.YtcedefabmelogaaGreatDoor.H
/- The walk of parsePattern's deferred function where no error is laid. -/
namespace Go.Proofs.YtcedefabmelogaaGreatDoor.H
open Go.RowKit Go.WideMaps Go.WideElems Go.Proofs.YtcedefabmelogaaGreatDoorW.PrintWords Go.Proofs.YtcedefabmelogaaGreatDoorW.PrintLast Go.Proofs.YtcedefabmelogaaGreatDoorW.PrintMore
set_option linter.unusedVariables false
set_option linter.unusedSimpArgs false
set_option maxRecDepth 100000
theorem noErr (eb : Nat) (w : World) (he : w.heap[eb]? = some (.cells #[.nilIface] 96 (0, 0))) :
    CallsD Tryz.prog 66 #[.pointer (some ⟨eb, 0, none⟩)] .returning w fun e u' w' => u' = .returning ∧ (e = .returned (.tuple #[]) ∧ w' = w) := by
  have hc : w.cell? ⟨eb, 0, none⟩ = some .nilIface := (blk_cell he 0).trans rfl
  have hb := blk_lt he
  clear he
  go_enter_d Tryz.func66, Tryz.ntmps66
  go_wp2
  go_end0
  exact ⟨rfl, rfl⟩
theorem leave52 (tmps : Array Value) (w : World) (eb pb : Nat) (R : Ending → World → Prop) (h2 : tmps.getD 2 undef = .pointer (some ⟨pb, 0, none⟩)) (h3 : tmps.getD 3 undef = .pointer (some ⟨eb, 0, none⟩))
    (he : w.heap[eb]? = some (.cells #[.nilIface] 96 (0, 0))) (hR : R (.returned (.tuple #[.pointer (some ⟨pb, 0, none⟩), .nilIface])) w) :
    Leaves Tryz.prog Tryz.f52 tmps R [{ target := .fn (.func 66) #[.pointer (some ⟨eb, 0, none⟩)], args := #[] }] .returning w := by
  refine leaves_cons (f := 66) (args := #[.pointer (some ⟨eb, 0, none⟩)]) (by simp) (by simp [go_sem]) ?_
  refine (noErr eb w he).mono ?_
  rintro e u' w' ⟨rfl, rfl, rfl⟩
  have hc : w'.cell? ⟨eb, 0, none⟩ = some .nilIface := (blk_cell he 0).trans rfl
  have h2' : tmps[2]?.getD undef = .pointer (some ⟨pb, 0, none⟩) := by simpa using h2
  have h3' : tmps[3]?.getD undef = .pointer (some ⟨eb, 0, none⟩) := by simpa using h3
  refine ⟨_, ?_, hR⟩
  simp [results, Tryz.results52, go_sem, h2', h3', hc]
end Go.Proofs.YtcedefabmelogaaGreatDoor.H
