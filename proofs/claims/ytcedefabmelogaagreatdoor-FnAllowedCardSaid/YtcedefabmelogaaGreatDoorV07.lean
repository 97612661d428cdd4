/- matchPath returns a leaf just where the tree holds one that matches. -/
import Derived.Test.YtcedefabmelogaaGreatDoorV06
import Derived.Deep.RegionLaw
/- The walk of (*routingNode).matchPath over the tree: it finds a leaf just if the tree holds a way that matches the pieces. -/
namespace Go.Proofs.YtcedefabmelogaaGreatDoor.H
open Go.RowKit Go.WideMaps Go.WideElems Go.Proofs.YtcedefabmelogaaGreatDoorW.PrintWords Go.Proofs.YtcedefabmelogaaGreatDoorW.PrintLast Go.Proofs.YtcedefabmelogaaGreatDoorW.PrintMore
open Go.Proofs.YtcedefabmelogaaGreatDoor.PFnAllowed
open Classical
set_option linter.unusedVariables false
set_option linter.unusedSimpArgs false
theorem field112 (a : ByteArray) (f1 f2 : Bool) (w : World) : (Instr.field 112 (.agg #[.string a, .bool f1, .bool f2]) 0).run Tryz.prog w = .ok (.string a) w := by kernel_rfl
attribute [local go_sem] field112
/-- The text of a path's pieces; the piece [47] is the slash at its end. -/
def pathT : List (List UInt8) → List UInt8
  | [] => []
  | x :: r => 47 :: ((if x = [47] then [] else x) ++ pathT r)
/-- Pieces of a path: not empty, without slashes and percent signs; a slash alone is the last one. -/
def ItemsOk : List (List UInt8) → Prop
  | [] => True
  | x :: r => ((x = [47] ∧ r = []) ∨ (x ≠ [] ∧ (47 : UInt8) ∉ x ∧ (37 : UInt8) ∉ x)) ∧ ItemsOk r
/-- Does the tree hold a leaf that matches the pieces, from q on? -/
noncomputable def mt (S : TS) : List (List UInt8) → Path → Bool
  | [], q => (S.pat q).isSome
  | x :: r, q => (decide (q ++ [some (bs x)] ∈ S.dom) && mt S r (q ++ [some (bs x)])) || (decide (x ≠ [47]) && (decide (q ++ [eK] ∈ S.dom) && mt S r (q ++ [eK]))) || decide (q ++ [none] ∈ S.dom)
/-- What matchPath leaves. -/
def MPost (base : Nat) (w : World) (mv : Value) (n : Nat) (xs : List Value) (b : Bool) (e : Ending) (w' : World) : Prop :=
  ∃ (o : Option Nat) (v : Value), e = .returned (.tuple #[ptr o, v]) ∧ o.isSome = b ∧ w.grownBy w' mv.ownBlock ∧ w'.ownsRow base 9 1 mv n xs
set_option maxHeartbeats 1000000 in
set_option maxRecDepth 100000 in
theorem mp_nil (s : ByteArray) (mv : Value) (w : World) : Calls Tryz.prog 56 #[.pointer none, .string s, mv] w fun e w' => e = .returned (.tuple #[.pointer none, .slice none 0 0]) ∧ w' = w := by
  go_enter Tryz.func56, Tryz.ntmps56
  go_wp2_with fail
  go_ret2
  exact ⟨rfl, rfl⟩
/-- The tree as it lay when the matching began. -/
structure Stand (w0 : World) (lo : Nat) (S : TS) : Prop where
  tree : Tree w0 lo S
  mult : ∀ q, q ++ [none] ∈ S.dom → ∃ pb ha m h l, S.pat (q ++ [none]) = some (⟨pb, 0, none⟩, ha) ∧ PatAt w0 pb m h l ∧ l ≠ []
set_option maxHeartbeats 1000000 in
set_option maxRecDepth 100000 in
theorem mp_end {w0 : World} {lo : Nat} {S : TS} (st : Stand w0 lo S) (q : Path) (hq : q ∈ S.dom) (w : World) (hw : Below w0.heap.size w0 w) (mv : Value) (n : Nat) (xs : List Value) (ho : w.ownsRow w0.heap.size 9 1 mv n xs) :
    Calls Tryz.prog 56 #[.pointer (some ⟨S.loc q, 0, none⟩), .string ⟨#[]⟩, mv] w (MPost w0.heap.size w mv n xs (mt S [] q)) := by
  obtain ⟨hlb, sv, mv', hb, hk⟩ := (st.tree.below hw).1.node q hq
  have hc0 := (blk_cell hb 0).trans (show _ = some (pv (S.pat q)) from rfl)
  have hl : (⟨#[]⟩ : ByteArray).toList.isEmpty = true := by rw [str_empty]; simp
  clear hb hk
  have HO := Aside0.mk ho
  clear ho
  cases hp : S.pat q with
  | none =>
    rw [hp] at hc0
    simp only [pv] at hc0
    have HP := Aside0.mk hp
    clear hp
    go_enter Tryz.func56, Tryz.ntmps56
    go_wp2_with fail
    go_ret2
    exact ⟨none, _, rfl, by simp [mt, HP.out], g_refl _ _, HO.out⟩
  | some x =>
    rw [hp] at hc0
    simp only [pv] at hc0
    have HP := Aside0.mk hp
    clear hp
    go_enter Tryz.func56, Tryz.ntmps56
    go_wp2_with fail
    go_ret2
    exact ⟨some (S.loc q), _, rfl, by simp [mt, HP.out], g_refl _ _, HO.out⟩
theorem Stand.cells {w0 : World} {lo : Nat} {S : TS} (st : Stand w0 lo S) (q : Path) (hq : q ∈ S.dom) {w : World} (hw : Below w0.heap.size w0 w) :
    w.cell? ⟨S.loc q, 4, none⟩ = some (ptr (S.ch q none)) ∧ w.cell? ⟨S.loc q, 5, none⟩ = some (ptr (S.ch q eK)) := by
  obtain ⟨hlb, sv, mv', hb, hk⟩ := (st.tree.below hw).1.node q hq
  exact ⟨(blk_cell hb 4).trans rfl, (blk_cell hb 5).trans rfl⟩
theorem Stand.find {w0 : World} {lo : Nat} {S : TS} (st : Stand w0 lo S) (q : Path) (hq : q ∈ S.dom) (sg : ByteArray) (h1 : sg ≠ ⟨#[]⟩) (h2 : sg.size ≤ maxLen) {w : World} (hw : Below w0.heap.size w0 w) :
    Calls Tryz.prog 37 #[.pointer (some ⟨S.loc q, 0, none⟩), .string sg] w fun e w' => e = .returned (ptr (S.ch q (some sg))) ∧ Below w.heap.size w w' := by
  obtain ⟨hlb, sv, mv', hb, hk⟩ := (st.tree.below hw).1.node q hq
  have := findChild_any (S.loc q) lo w _ _ sv mv' _ _ (S.kids q) sg h2 hb hk
  rw [if_neg h1, (st.tree.keys q hq).2.2.1 sg h1] at this
  exact this
/-- At a child, if there is one. -/
def ChildM (w0 : World) (S : TS) (q : Path) (rs : ByteArray) (N : Nat) (x : Key) (b : Bool) : Prop :=
  ∀ (w : World) (mv : Value) (n : Nat) (xs : List Value), Below w0.heap.size w0 w → w.ownsRow w0.heap.size 9 1 mv n xs → n ≤ N →
    Calls Tryz.prog 56 #[ptr (S.ch q x), .string rs, mv] w (MPost w0.heap.size w mv n xs b)
/-- At the child for all that is left, if there is one: what its pattern's last segment is. -/
theorem Stand.last {w0 : World} {lo : Nat} {S : TS} (st : Stand w0 lo S) (q : Path) (hx : q ++ [none] ∈ S.dom) {w : World} (hw : Below w0.heap.size w0 w) :
    ∃ pb, w.cell? ⟨S.loc (q ++ [none]), 0, none⟩ = some (.pointer (some ⟨pb, 0, none⟩)) ∧ Calls Tryz.prog 76 #[.pointer (some ⟨pb, 0, none⟩)] w fun e w' => (∃ s0 b1 b2, e = .returned (.agg #[.string s0, .bool b1, .bool b2])) ∧ Below w.heap.size w w' := by
  obtain ⟨pb, ha, m, h, l, hp, hP, hl⟩ := st.mult q hx
  obtain ⟨hlb, sv, mv', hb, hk⟩ := (st.tree.below hw).1.node (q ++ [none]) hx
  rw [hp] at hb
  exact ⟨pb, (blk_cell hb 0).trans rfl, lastSegment_any pb m h l (hP.below hw) hl⟩
set_option maxHeartbeats 4000000 in
set_option maxRecDepth 100000 in
theorem mp_slash {w0 : World} {lo : Nat} {S : TS} (st : Stand w0 lo S) (q : Path) (hq : q ∈ S.dom) (p sg rs t : ByteArray) (N : Nat) (hN : N + 1 ≤ 1000) (hpne : p.toList.isEmpty = false) (hsl : (sg.toList == [47]) = true)
    (hF : ∀ w, Calls Tryz.prog 75 #[.string p] w fun e w' => e = .returned (.tuple #[.string sg, .string rs]) ∧ ∃ k, w' = w.drewN k) (h1 : sg ≠ ⟨#[]⟩) (h2 : sg.size ≤ maxLen)
    (hp1 : 1 ≤ p.size) (hpl : p.size ≤ 9223372036854775807) (hpx : p.extract 1 p.size = t) (hU : ∀ w, Calls Tryz.prog 72 #[.string t] w fun e w' => e = .returned (.string t) ∧ w' = w)
    (b1 : Bool) (c1 : ChildM w0 S q rs N (some sg) b1)
    (w : World) (hw : Below w0.heap.size w0 w) (mv : Value) (n : Nat) (xs : List Value) (ho : w.ownsRow w0.heap.size 9 1 mv n xs) (hn : n ≤ N) :
    Calls Tryz.prog 56 #[.pointer (some ⟨S.loc q, 0, none⟩), .string p, mv] w (MPost w0.heap.size w mv n xs (b1 || decide (q ++ [none] ∈ S.dom))) := by
  have HF := Aside0.mk hF
  have HU := Aside0.mk hU
  have C1 := Aside0.mk c1
  have HO := Aside0.mk ho
  have HW := Aside0.mk hw
  have HSG := Aside0.mk (And.intro h1 h2)
  have HQ := Aside0.mk hq
  have ST := Aside0.mk st
  have HN := Aside0.mk (And.intro hN hn)
  have HB := Aside0.mk (g_refl w mv.ownBlock)
  have HO0 := Aside0.mk ho
  have hu112 := Tryz.underlying112
  clear hF hU c1 ho hw h1 h2 hq st hN hn
  by_cases hx : q ++ [none] ∈ S.dom
  · have HX := Aside0.mk hx
    have HCH := Aside0.mk (show S.ch q none = some (S.loc (q ++ [none])) by unfold TS.ch; rw [if_pos hx])
    clear hx
    go_enter Tryz.func56, Tryz.ntmps56
    go_wp2_with (first
      | (go_at_call 75; refine (HF.out _).mono ?_; rintro e w1 ⟨rfl, k, rfl⟩)
      | (go_at_call 37; refine (ST.out.find q HQ.out sg HSG.out.1 HSG.out.2 (w := w.drewN _) (pw_below_drewN HW.out _)).mono ?_; rintro e w1 ⟨rfl, hb⟩; have HB1 := Aside0.mk (g_below (g_drewN HB.out k) hb); have HW1 := Aside0.mk (b_grown HW.out HW.out.size HO0.out HB1.out); have HO1 := Aside0.mk (pw_own_below (pw_own_drewN HO.out _) hb); clear hb)
      | (go_at_call 56; refine (C1.out w1 mv n xs HW1.out HO1.out HN.out.2).mono ?_; rintro e w2 ⟨o1, v1, rfl, ho1, hb2, hown2⟩; have HB2 := Aside0.mk (HB1.out.trans hb2); have HO2 := Aside0.mk hown2; have HW2 := Aside0.mk (b_grown HW.out HW.out.size HO0.out HB2.out); have HR1 := Aside0.mk ho1; clear hb2 hown2 ho1; have hc4 := (ST.out.cells q HQ.out HW2.out).1; rw [HCH.out] at hc4; simp only [ptr_some] at hc4; obtain ⟨pb, hcp, hL⟩ := ST.out.last q HX.out HW2.out; have HL := Aside0.mk hL; clear hL; cases o1 <;> simp only [ptr_none, ptr_some])
      | (go_at_call 76; refine HL.out.mono ?_; rintro e w3 ⟨⟨s0, f1, f2, rfl⟩, hb⟩; have HB3 := Aside0.mk (g_below HB2.out hb); have HO3 := Aside0.mk (pw_own_below HO2.out hb); have HS3 := Aside0.mk (Nat.le_trans HW2.out.size hb.size); clear hb)
      | (go_at_call 72; refine (HU.out _).mono ?_; rintro e w4 ⟨rfl, hww⟩; obtain rfl := hww.symm)
      | (at_builtin; refine wpList_append_keep _ rfl _ _ 26 rfl w0.heap.size 9 (.string ⟨#[]⟩) 16 Tryz.underlying26 info9 rfl mv n xs rfl (HO3.out.alloc _) ⟨w3.heap.size, 0, none⟩ 1 (.string t) rfl ?c1 rfl ?c2 ?c3 ?c4 ?_; (case c1 => simp); (case c2 => have := HN.out; simp only [maxLen]; omega); (case c3 => have := HN.out; omega); (case c4 => have := HS3.out; simp; omega); intro v5 w5 hown5 hold5 hg5 _; have HO5 := Aside0.mk (hold5.now hown5); have HB5 := Aside0.mk ((g_alloc HB3.out _).trans hg5); clear hown5 hold5 hg5))
    all_goals go_ret2
    all_goals first
      | exact ⟨some _, _, rfl, by simp [HX.out, ← HR1.out], HB5.out, HO5.out⟩
      | exact ⟨some _, _, rfl, by simp [HX.out, ← HR1.out], HB3.out, HO3.out⟩
      | exact ⟨some _, _, rfl, by simp [HX.out, ← HR1.out], HB2.out, HO2.out⟩
      | exact ⟨none, _, rfl, by simp [HX.out, ← HR1.out], HB2.out, HO2.out⟩
  · have HX := Aside0.mk hx
    have HCH := Aside0.mk (show S.ch q none = none by unfold TS.ch; rw [if_neg hx])
    clear hx
    go_enter Tryz.func56, Tryz.ntmps56
    go_wp2_with (first
      | (go_at_call 75; refine (HF.out _).mono ?_; rintro e w1 ⟨rfl, k, rfl⟩)
      | (go_at_call 37; refine (ST.out.find q HQ.out sg HSG.out.1 HSG.out.2 (w := w.drewN _) (pw_below_drewN HW.out _)).mono ?_; rintro e w1 ⟨rfl, hb⟩; have HB1 := Aside0.mk (g_below (g_drewN HB.out k) hb); have HW1 := Aside0.mk (b_grown HW.out HW.out.size HO0.out HB1.out); have HO1 := Aside0.mk (pw_own_below (pw_own_drewN HO.out _) hb); clear hb)
      | (go_at_call 56; refine (C1.out w1 mv n xs HW1.out HO1.out HN.out.2).mono ?_; rintro e w2 ⟨o1, v1, rfl, ho1, hb2, hown2⟩; have HB2 := Aside0.mk (HB1.out.trans hb2); have HO2 := Aside0.mk hown2; have HW2 := Aside0.mk (b_grown HW.out HW.out.size HO0.out HB2.out); have HR1 := Aside0.mk ho1; clear hb2 hown2 ho1; have hc4 := (ST.out.cells q HQ.out HW2.out).1; rw [HCH.out] at hc4; simp only [ptr_none] at hc4; cases o1 <;> simp only [ptr_none, ptr_some]))
    all_goals go_ret2
    all_goals first
      | exact ⟨some _, _, rfl, by simp [HX.out, ← HR1.out], HB5.out, HO5.out⟩
      | exact ⟨some _, _, rfl, by simp [HX.out, ← HR1.out], HB3.out, HO3.out⟩
      | exact ⟨some _, _, rfl, by simp [HX.out, ← HR1.out], HB2.out, HO2.out⟩
      | exact ⟨none, _, rfl, by simp [HX.out, ← HR1.out], HB2.out, HO2.out⟩
set_option maxHeartbeats 4000000 in
set_option maxRecDepth 100000 in
theorem mp_plain {w0 : World} {lo : Nat} {S : TS} (st : Stand w0 lo S) (q : Path) (hq : q ∈ S.dom) (p sg rs t : ByteArray) (N : Nat) (hN : N + 1 ≤ 1000) (hpne : p.toList.isEmpty = false) (hsl : (sg.toList == [47]) = false)
    (hF : ∀ w, Calls Tryz.prog 75 #[.string p] w fun e w' => e = .returned (.tuple #[.string sg, .string rs]) ∧ ∃ k, w' = w.drewN k) (h1 : sg ≠ ⟨#[]⟩) (h2 : sg.size ≤ maxLen)
    (hp1 : 1 ≤ p.size) (hpl : p.size ≤ 9223372036854775807) (hpx : p.extract 1 p.size = t) (hU : ∀ w, Calls Tryz.prog 72 #[.string t] w fun e w' => e = .returned (.string t) ∧ w' = w)
    (b1 : Bool) (c1 : ChildM w0 S q rs N (some sg) b1) (b2 : Bool) (c2 : ChildM w0 S q rs (N + 1) eK b2)
    (w : World) (hw : Below w0.heap.size w0 w) (mv : Value) (n : Nat) (xs : List Value) (ho : w.ownsRow w0.heap.size 9 1 mv n xs) (hn : n ≤ N) :
    Calls Tryz.prog 56 #[.pointer (some ⟨S.loc q, 0, none⟩), .string p, mv] w (MPost w0.heap.size w mv n xs (b1 || b2 || decide (q ++ [none] ∈ S.dom))) := by
  have HF := Aside0.mk hF
  have HU := Aside0.mk hU
  have C1 := Aside0.mk c1
  have C2 := Aside0.mk c2
  have HO := Aside0.mk ho
  have HW := Aside0.mk hw
  have HSG := Aside0.mk (And.intro h1 h2)
  have HQ := Aside0.mk hq
  have ST := Aside0.mk st
  have HN := Aside0.mk (And.intro hN hn)
  have HB := Aside0.mk (g_refl w mv.ownBlock)
  have HO0 := Aside0.mk ho
  have hu112 := Tryz.underlying112
  clear hF hU c1 c2 ho hw h1 h2 hq st hN hn
  by_cases hx : q ++ [none] ∈ S.dom
  · have HX := Aside0.mk hx
    have HCH := Aside0.mk (show S.ch q none = some (S.loc (q ++ [none])) by unfold TS.ch; rw [if_pos hx])
    clear hx
    go_enter Tryz.func56, Tryz.ntmps56
    go_wp2_with (first
      | (go_at_call 75; refine (HF.out _).mono ?_; rintro e w1 ⟨rfl, k, rfl⟩)
      | (go_at_call 37; refine (ST.out.find q HQ.out sg HSG.out.1 HSG.out.2 (w := w.drewN _) (pw_below_drewN HW.out _)).mono ?_; rintro e w1 ⟨rfl, hb⟩; have HB1 := Aside0.mk (g_below (g_drewN HB.out k) hb); have HW1 := Aside0.mk (b_grown HW.out HW.out.size HO0.out HB1.out); have HO1 := Aside0.mk (pw_own_below (pw_own_drewN HO.out _) hb); clear hb)
      | (go_at_call 56; refine (C1.out w1 mv n xs HW1.out HO1.out HN.out.2).mono ?_; rintro e w2 ⟨o1, v1, rfl, ho1, hb2, hown2⟩; have HB2 := Aside0.mk (HB1.out.trans hb2); have HO2 := Aside0.mk hown2; have HW2 := Aside0.mk (b_grown HW.out HW.out.size HO0.out HB2.out); have HR1 := Aside0.mk ho1; clear hb2 hown2 ho1; have hc5 := (ST.out.cells q HQ.out HW2.out).2; have hbl2 := World.block_lt_of_cell? w2 _ hc5; have hc5a : (w2.alloc (.cells #[.string sg] 9)).cell? ⟨S.loc q, 5, none⟩ = some (ptr (S.ch q eK)) := (by rw [World.cell?_alloc_past _ _ _ hbl2]; exact hc5); cases o1 <;> simp only [ptr_none, ptr_some]))
    · go_region_law (first
        | (refine step_append_keep _ rfl _ _ 26 rfl w0.heap.size 9 (.string ⟨#[]⟩) 16 Tryz.underlying26 info9 rfl mv n xs rfl ((own_drew HO2.out).alloc _) ⟨w2.heap.size, 0, none⟩ 1 (.string sg) rfl ?c1 rfl ?c2 ?c3 ?c4 ?_; (case c1 => simp); (case c2 => have := HN.out; simp only [maxLen]; omega); (case c3 => have := HN.out; omega); (case c4 => have := HW2.out.size; simp; omega); intro v5 w5 hown5 hold5 hg5 hblk5; have HV5 := Aside0.mk hown5; have HK5 := Aside0.mk hold5; have HB5 := Aside0.mk ((g_alloc (g_drew HB2.out) _).trans hg5); have HW5 := Aside0.mk (b_grown HW.out HW.out.size HO0.out HB5.out); have HQ5 := Aside0.mk hblk5; have hc5' := (ST.out.cells q HQ.out HW5.out).2; clear hown5 hold5 hg5 hblk5)
        | (go_simp; go_at_call 56; refine (C2.out w5 v5 (n + 1) (xs ++ [.string sg]) HW5.out HV5.out (by have := HN.out; omega)).mono ?_; rintro e w6 ⟨o2, v6, rfl, ho2, hb6, hown6⟩; have HB6 := Aside0.mk (g_then HB5.out hb6 (fun j hj => by rcases HQ5.out j hj with h | h; (exact .inl (by have := HB2.out.size; simp at h; omega)); (exact .inr h))); have HO6 := Aside0.mk (HK5.out w6 hb6 hown6); have HW6 := Aside0.mk (b_grown HW.out HW.out.size HO0.out HB6.out); have HR2 := Aside0.mk ho2; clear hb6 hown6 ho2))
      all_goals (obtain ⟨hc4, hc5e⟩ := ST.out.cells q HQ.out HW6.out; rw [HCH.out] at hc4; simp only [ptr_some] at hc4; clear hc5e; obtain ⟨pb, hcp, hL⟩ := ST.out.last q HX.out HW6.out; have HL := Aside0.mk hL; clear hL)
      all_goals (cases o2 <;> simp only [ptr_none, ptr_some])
      all_goals go_wp2_with (first
        | (go_at_call 76; refine HL.out.mono ?_; rintro e w7 ⟨⟨s0, f1, f2, rfl⟩, hb⟩; have HB7 := Aside0.mk (g_below HB6.out hb); have HO7 := Aside0.mk (pw_own_below HO6.out hb); have HS7 := Aside0.mk (Nat.le_trans HW6.out.size hb.size); clear hb)
        | (go_at_call 72; refine (HU.out _).mono ?_; rintro e w8 ⟨rfl, hww⟩; obtain rfl := hww.symm)
        | (at_builtin; refine wpList_append_keep _ rfl _ _ 26 rfl w0.heap.size 9 (.string ⟨#[]⟩) 16 Tryz.underlying26 info9 rfl mv n xs rfl (HO7.out.alloc _) ⟨w7.heap.size, 0, none⟩ 1 (.string t) rfl ?c1 rfl ?c2 ?c3 ?c4 ?_; (case c1 => simp); (case c2 => have := HN.out; simp only [maxLen]; omega); (case c3 => have := HN.out; omega); (case c4 => have := HS7.out; simp; omega); intro v9 w9 hown9 hold9 hg9 _; have HO9 := Aside0.mk (hold9.now hown9); have HB9 := Aside0.mk ((g_alloc HB7.out _).trans hg9); clear hown9 hold9 hg9))
      all_goals go_ret2
      all_goals first
        | exact ⟨some _, _, rfl, by simp [HX.out, ← HR1.out, ← HR2.out], HB9.out, HO9.out⟩
        | exact ⟨some _, _, rfl, by simp [HX.out, ← HR1.out, ← HR2.out], HB7.out, HO7.out⟩
        | exact ⟨some _, _, rfl, by simp [HX.out, ← HR1.out, ← HR2.out], HB6.out, HO6.out⟩
    · go_ret2
      exact ⟨some _, _, rfl, by simp [HX.out, ← HR1.out], HB2.out, HO2.out⟩
  · have HX := Aside0.mk hx
    have HCH := Aside0.mk (show S.ch q none = none by unfold TS.ch; rw [if_neg hx])
    clear hx
    go_enter Tryz.func56, Tryz.ntmps56
    go_wp2_with (first
      | (go_at_call 75; refine (HF.out _).mono ?_; rintro e w1 ⟨rfl, k, rfl⟩)
      | (go_at_call 37; refine (ST.out.find q HQ.out sg HSG.out.1 HSG.out.2 (w := w.drewN _) (pw_below_drewN HW.out _)).mono ?_; rintro e w1 ⟨rfl, hb⟩; have HB1 := Aside0.mk (g_below (g_drewN HB.out k) hb); have HW1 := Aside0.mk (b_grown HW.out HW.out.size HO0.out HB1.out); have HO1 := Aside0.mk (pw_own_below (pw_own_drewN HO.out _) hb); clear hb)
      | (go_at_call 56; refine (C1.out w1 mv n xs HW1.out HO1.out HN.out.2).mono ?_; rintro e w2 ⟨o1, v1, rfl, ho1, hb2, hown2⟩; have HB2 := Aside0.mk (HB1.out.trans hb2); have HO2 := Aside0.mk hown2; have HW2 := Aside0.mk (b_grown HW.out HW.out.size HO0.out HB2.out); have HR1 := Aside0.mk ho1; clear hb2 hown2 ho1; have hc5 := (ST.out.cells q HQ.out HW2.out).2; have hbl2 := World.block_lt_of_cell? w2 _ hc5; have hc5a : (w2.alloc (.cells #[.string sg] 9)).cell? ⟨S.loc q, 5, none⟩ = some (ptr (S.ch q eK)) := (by rw [World.cell?_alloc_past _ _ _ hbl2]; exact hc5); cases o1 <;> simp only [ptr_none, ptr_some]))
    · go_region_law (first
        | (refine step_append_keep _ rfl _ _ 26 rfl w0.heap.size 9 (.string ⟨#[]⟩) 16 Tryz.underlying26 info9 rfl mv n xs rfl ((own_drew HO2.out).alloc _) ⟨w2.heap.size, 0, none⟩ 1 (.string sg) rfl ?c1 rfl ?c2 ?c3 ?c4 ?_; (case c1 => simp); (case c2 => have := HN.out; simp only [maxLen]; omega); (case c3 => have := HN.out; omega); (case c4 => have := HW2.out.size; simp; omega); intro v5 w5 hown5 hold5 hg5 hblk5; have HV5 := Aside0.mk hown5; have HK5 := Aside0.mk hold5; have HB5 := Aside0.mk ((g_alloc (g_drew HB2.out) _).trans hg5); have HW5 := Aside0.mk (b_grown HW.out HW.out.size HO0.out HB5.out); have HQ5 := Aside0.mk hblk5; have hc5' := (ST.out.cells q HQ.out HW5.out).2; clear hown5 hold5 hg5 hblk5)
        | (go_simp; go_at_call 56; refine (C2.out w5 v5 (n + 1) (xs ++ [.string sg]) HW5.out HV5.out (by have := HN.out; omega)).mono ?_; rintro e w6 ⟨o2, v6, rfl, ho2, hb6, hown6⟩; have HB6 := Aside0.mk (g_then HB5.out hb6 (fun j hj => by rcases HQ5.out j hj with h | h; (exact .inl (by have := HB2.out.size; simp at h; omega)); (exact .inr h))); have HO6 := Aside0.mk (HK5.out w6 hb6 hown6); have HW6 := Aside0.mk (b_grown HW.out HW.out.size HO0.out HB6.out); have HR2 := Aside0.mk ho2; clear hb6 hown6 ho2))
      all_goals (obtain ⟨hc4, hc5e⟩ := ST.out.cells q HQ.out HW6.out; rw [HCH.out] at hc4; simp only [ptr_none] at hc4; clear hc5e)
      all_goals (cases o2 <;> simp only [ptr_none, ptr_some])
      all_goals go_wp2_with fail
      all_goals go_ret2
      all_goals first
        | exact ⟨some _, _, rfl, by simp [HX.out, ← HR1.out, ← HR2.out], HB6.out, HO6.out⟩
        | exact ⟨none, _, rfl, by simp [HX.out, ← HR1.out, ← HR2.out], HB6.out, HO6.out⟩
    · go_ret2
      exact ⟨some _, _, rfl, by simp [HX.out, ← HR1.out], HB2.out, HO2.out⟩
end Go.Proofs.YtcedefabmelogaaGreatDoor.H
/- matchPath over the tree, by induction on the path's pieces. -/
namespace Go.Proofs.YtcedefabmelogaaGreatDoor.H
open Go.RowKit Go.WideMaps Go.WideElems Go.Proofs.YtcedefabmelogaaGreatDoorW.PrintWords Go.Proofs.YtcedefabmelogaaGreatDoorW.PrintLast Go.Proofs.YtcedefabmelogaaGreatDoorW.PrintMore
open Classical
set_option linter.unusedVariables false
set_option linter.unusedSimpArgs false
set_option maxRecDepth 100000
theorem pathT_head (l : List (List UInt8)) : pathT l = [] ∨ ∃ r, pathT l = 47 :: r := by
  cases l with
  | nil => exact .inl rfl
  | cons x r => exact .inr ⟨_, rfl⟩
theorem pathT_no37 : ∀ l : List (List UInt8), ItemsOk l → (37 : UInt8) ∉ pathT l
  | [], _ => by simp [pathT]
  | x :: r, h => by
    have hr := pathT_no37 r h.2
    simp only [pathT, List.mem_cons, List.mem_append, not_or]
    refine ⟨by decide, ?_, hr⟩
    rcases h.1 with ⟨h1, _⟩ | ⟨_, _, h1⟩
    · rw [if_pos h1]; simp
    · split
      · simp
      · exact h1
theorem childM_of {w0 : World} {lo : Nat} {S : TS} (q : Path) (rs : ByteArray) (N : Nat) (x : Key) (b : Bool)
    (h : q ++ [x] ∈ S.dom → ∀ (w : World) (mv : Value) (n : Nat) (xs : List Value), Below w0.heap.size w0 w → w.ownsRow w0.heap.size 9 1 mv n xs → n ≤ N →
      Calls Tryz.prog 56 #[.pointer (some ⟨S.loc (q ++ [x]), 0, none⟩), .string rs, mv] w (MPost w0.heap.size w mv n xs b)) :
    ChildM w0 S q rs N x (decide (q ++ [x] ∈ S.dom) && b) := by
  intro w mv n xs hw ho hn
  by_cases hx : q ++ [x] ∈ S.dom
  · have e : S.ch q x = some (S.loc (q ++ [x])) := by unfold TS.ch; rw [if_pos hx]
    rw [e, ptr_some, show (decide (q ++ [x] ∈ S.dom) && b) = b by simp [hx]]
    exact h hx w mv n xs hw ho hn
  · have e : S.ch q x = none := by unfold TS.ch; rw [if_neg hx]
    rw [e, ptr_none]
    refine (mp_nil rs mv w).mono ?_
    rintro e w' ⟨rfl, hw'⟩
    obtain rfl := hw'.symm
    exact ⟨none, _, rfl, by simp [hx], g_refl _ _, ho⟩
theorem bs47 : bs [47] ≠ ⟨#[]⟩ := by
  intro h
  have := congrArg ByteArray.size h
  rw [bs_size] at this
  simp at this
  exact absurd this (by decide)
theorem bs_ne_nil {l : List UInt8} (h : l ≠ []) : bs l ≠ ⟨#[]⟩ := fun e => h (bs_inj (e.trans bs_nil.symm))
theorem mp_any {w0 : World} {lo : Nat} {S : TS} (st : Stand w0 lo S) : ∀ (items : List (List UInt8)), ItemsOk items → (pathT items).length < 4294967296 → ∀ (q : Path), q ∈ S.dom → ∀ (w : World) (mv : Value) (n : Nat) (xs : List Value),
    Below w0.heap.size w0 w → w.ownsRow w0.heap.size 9 1 mv n xs → n + items.length ≤ 900 →
    Calls Tryz.prog 56 #[.pointer (some ⟨S.loc q, 0, none⟩), .string (bs (pathT items)), mv] w (MPost w0.heap.size w mv n xs (mt S items q)) := by
  intro items
  induction items with
  | nil =>
    intro _ _ q hq w mv n xs hw ho _
    exact mp_end st q hq w hw mv n xs ho
  | cons x r ih =>
    intro hi hl q hq w mv n xs hw ho hn
    simp only [List.length_cons] at hn
    have hlr : (pathT r).length < 4294967296 := by
      simp only [pathT, List.length_cons, List.length_append] at hl
      omega
    have C : ∀ (N : Nat), N + r.length ≤ 900 → ∀ k, ChildM w0 S q (bs (pathT r)) N k (decide (q ++ [k] ∈ S.dom) && mt S r (q ++ [k])) := by
      intro N hN k
      refine childM_of (lo := lo) q _ N k _ (fun hx w mv n' xs hw ho hn' => ?_)
      exact ih hi.2 hlr (q ++ [k]) hx w mv n' xs hw ho (by omega)
    rcases hi.1 with ⟨h47, hr⟩ | ⟨hne, hn47, hn37⟩
    · subst h47 hr
      have hp : pathT [[47]] = [47] := rfl
      rw [hp]
      have hb : mt S [[47]] q = ((decide (q ++ [some (bs [47])] ∈ S.dom) && mt S [] (q ++ [some (bs [47])])) || decide (q ++ [none] ∈ S.dom)) := by simp [mt]
      rw [hb]
      refine mp_slash st q hq (bs [47]) (bs [47]) (bs []) (bs []) n (by simp at hn; omega) (by rw [str_empty]; simpa using bs47) (by rw [bs_toList]; rfl) (fun w => ?_) bs47 (by rw [bs_size]; simp [maxLen]) (by rw [bs_size]; simp) (by rw [bs_size]; simp) (by rw [bs_from]; rfl)
        (fun w => pathUnescape_plain (bs []) w (noByte_bs [] (by simp)) (by rw [bs_size]; simp)) _ (C n (by simpa using by omega) _) w hw mv n xs ho (Nat.le_refl _)
      refine (firstSegment_slash w).mono ?_
      rintro e w' ⟨rfl, hw'⟩
      exact ⟨rfl, 0, hw'⟩
    · have h47 : x ≠ [47] := by rintro rfl; simp at hn47
      have hp : pathT (x :: r) = 47 :: (x ++ pathT r) := by simp [pathT, h47]
      have hl' : (x ++ pathT r).length < 4294967296 := by rw [hp] at hl; simp only [List.length_cons] at hl; omega
      rw [hp]
      have hb : mt S (x :: r) q = ((decide (q ++ [some (bs x)] ∈ S.dom) && mt S r (q ++ [some (bs x)])) || (decide (q ++ [eK] ∈ S.dom) && mt S r (q ++ [eK])) || decide (q ++ [none] ∈ S.dom)) := by simp [mt, h47]
      rw [hb]
      have hxl : x.length < 4294967296 := by simp only [List.length_append] at hl'; omega
      refine mp_plain st q hq (bs (47 :: (x ++ pathT r))) (bs x) (bs (pathT r)) (bs (x ++ pathT r)) n (by omega) (by rw [str_empty]; simpa using bs_ne_nil (by simp)) (by rw [bs_toList]; simpa using h47) (fun w => firstSegment_any x (pathT r) w hn47 (pathT_head r) hne hn37 (by omega)) (bs_ne_nil hne) (by rw [bs_size]; simp only [maxLen]; omega) (by rw [bs_size]; simp) (by rw [bs_size]; simp only [List.length_cons]; omega) (by rw [bs_from]; rfl)
        (fun w => pathUnescape_plain (bs (x ++ pathT r)) w (noByte_bs _ (by simp only [List.mem_append, not_or]; exact ⟨hn37, pathT_no37 r hi.2⟩)) (by rw [bs_size]; omega)) _ (C n (by omega) _) _ (C (n + 1) (by omega) _) w hw mv n xs ho (Nat.le_refl _)
end Go.Proofs.YtcedefabmelogaaGreatDoor.H
/- The walk of the closure in matchingMethodsPath; the set of methods as a map. -/
namespace Go.Proofs.YtcedefabmelogaaGreatDoor.H
open Go.RowKit Go.WideMaps Go.WideElems Go.Proofs.YtcedefabmelogaaGreatDoorW.PrintWords Go.Proofs.YtcedefabmelogaaGreatDoorW.PrintLast Go.Proofs.YtcedefabmelogaaGreatDoorW.PrintMore
open Classical
set_option linter.unusedVariables false
set_option linter.unusedSimpArgs false
/-- Block bm is a map of at most N entries, all true, that holds just the keys of M. -/
def MapB (w : World) (bm N : Nat) (M : ByteArray → Bool) : Prop :=
  ∃ D : DataW Unit, w.ownsMap Tryz.prog 9 (plainElem Tryz.prog 4) bm N D ∧ (∀ k, Maps.has D (kl k) = M k) ∧ ∀ k, M k = true → ∀ z, D.atKey (kl k) z = .lit (.bool true)
theorem MapB.lt {w : World} {bm N : Nat} {M : ByteArray → Bool} (h : MapB w bm N M) : bm < w.heap.size := by
  obtain ⟨D, hD, _⟩ := h
  exact hD.lt
theorem MapB.kept {w w' : World} {bm N : Nat} {M : ByteArray → Bool} (h : MapB w bm N M) {row : Option Nat} (hg : w.grownBy w' row) (hne : some bm ≠ row) : MapB w' bm N M := by
  obtain ⟨D, hD, h1, h2⟩ := h
  exact ⟨D, hD.kept hg hne, h1, h2⟩
theorem MapB.mono {w : World} {bm N N' : Nat} {M : ByteArray → Bool} (h : MapB w bm N M) (hn : N ≤ N') : MapB w bm N' M := by
  obtain ⟨D, hD, h1, h2⟩ := h
  exact ⟨D, hD.mono hn, h1, h2⟩
theorem MapB.map {w : World} {bm N : Nat} {M : ByteArray → Bool} (h : MapB w bm N M) : ∃ es clock, w.heap[bm]? = some (.map es clock) := by
  obtain ⟨D, ⟨es, clock, hb, _⟩, _⟩ := h
  exact ⟨es, clock, hb⟩
theorem MapB.ne {w : World} {bm N : Nat} {M : ByteArray → Bool} (h : MapB w bm N M) {a : Addr} {v : Value} (hc : w.cell? a = some v) : a.block ≠ bm := by
  rintro rfl
  obtain ⟨es, clock, hb⟩ := h.map
  simp [World.cell?, hb] at hc
theorem MapB.ext {w : World} {bm N : Nat} {M M' : ByteArray → Bool} (h : MapB w bm N M) (e : ∀ k, M k = M' k) : MapB w bm N M' := by
  have : M = M' := funext e
  exact this ▸ h
theorem mapB_put {D : DataW Unit} {M : ByteArray → Bool} (hm : Maps.IsMap D) (h1 : ∀ k, Maps.has D (kl k) = M k) (h2 : ∀ k, M k = true → ∀ z, D.atKey (kl k) z = .lit (.bool true)) (k : ByteArray) :
    (∀ j, Maps.has (D.put (kl k) (.lit (.bool true))) (kl j) = (M j || decide (j = k))) ∧ ∀ j, (M j || decide (j = k)) = true → ∀ z, (D.put (kl k) (.lit (.bool true))).atKey (kl j) z = .lit (.bool true) := by
  refine ⟨fun j => ?_, fun j hj z => ?_⟩
  · by_cases e : j = k
    · subst e; rw [Maps.has_put_same hm (kl_key _)]; simp
    · rw [Maps.has_put_other (fun x => e (kl_inj x)), h1]; simp [e]
  · by_cases e : j = k
    · subst e; rw [Maps.atKey_put_same hm (kl_key _)]
    · rw [Maps.atKey_put_other (fun x => e (kl_inj x))]
      exact h2 j (by simpa [e] using hj) z
theorem Stand.move {w w' : World} {lo : Nat} {S : TS} (st : Stand w lo S) {bm : Nat} (hg : w.grownBy w' (some bm)) (hbm : bm < lo) (hmap : ∃ es clock, w.heap[bm]? = some (.map es clock)) : Stand w' lo S := by
  have T := st.tree.move (w' := w') (fun i hi => hg.block i (st.tree.foot_bd i hi).2 (by intro e; injection e with e; have := (st.tree.foot_bd i hi).1; omega))
  refine ⟨T.1, fun q hq => ?_⟩
  obtain ⟨pb, ha, m, h, l, hp, ⟨stv, lc, A, c, hb, hs, hl⟩, hne⟩ := st.mult q hq
  obtain ⟨es, clock, hm⟩ := hmap
  have keep : ∀ (i : Nat) (t : TypeId) (cells : Array Value), w.heap[i]? = some (Obj.cells cells t (0, 0)) → w'.heap[i]? = some (Obj.cells cells t (0, 0)) := by
    intro i t cells hi
    rw [hg.block i (blk_lt hi) (by intro e; injection e with e; subst e; rw [hi] at hm; cases hm)]
    exact hi
  exact ⟨pb, ha, m, h, l, hp, ⟨stv, lc, A, c, keep _ _ _ hb, hs.move (fun _ _ _ hx => keep _ _ _ hx), hl⟩, hne⟩
set_option maxHeartbeats 2000000 in
set_option maxRecDepth 100000 in
theorem clos_any {w : World} {lo : Nat} {S : TS} (st : Stand w lo S) (q : Path) (hq : q ∈ S.dom) (items : List (List UInt8)) (hi : ItemsOk items) (hl : (pathT items).length < 4294967296) (hn : items.length ≤ 900) (pk sk : Addr) (bm N : Nat) (M : ByteArray → Bool)
    (hpk : w.cell? pk = some (.string (bs (pathT items)))) (hsk : w.cell? sk = some (.map (some bm))) (hM : MapB w bm N M) (hN : N < maxLen) (k : ByteArray) (hk : k.size ≤ maxLen) :
    Calls Tryz.prog 55 #[.string k, .pointer (some ⟨S.loc q, 0, none⟩), .pointer (some pk), .pointer (some sk)] w fun e w' => e = .returned (.bool true) ∧ w.grownBy w' (some bm) ∧ MapB w' bm (N + 1) (fun j => M j || (decide (j = k) && mt S items q)) := by
  have hbs := World.block_lt_of_cell? w _ hsk
  have HP := Aside0.mk (mp_any st items hi hl q hq w (.slice none 0 0) 0 [] (Below.refl _ _) (own_nil _ _ _ _) (by omega))
  have HK := Aside0.mk hk
  have HN := Aside0.mk hN
  have HSK := Aside0.mk hsk
  obtain ⟨D, hD, h1, h2⟩ := hM
  have HD := Aside0.mk hD
  have H1 := Aside0.mk h1
  have H2 := Aside0.mk h2
  clear st hq hi hl hn hsk hD hN hk h1 h2
  go_enter Tryz.func55, Tryz.ntmps55
  go_wp2_with (first
    | (go_at_call 56; refine HP.out.mono ?_; rintro e w1 ⟨o, v, rfl, ho, hg, _⟩; have HG := Aside0.mk hg; have HR := Aside0.mk ho; have hs1 := hg.cell HSK.out (by simp [Value.ownBlock]); clear hg ho; cases o <;> simp only [ptr_none, ptr_some])
    | (at_mapUpdate; refine wpList_mapUpdate_own _ rfl _ _ _ 47 rfl 9 4 K9 Tryz.underlying47 (plainElem Tryz.prog 4) bm N D rfl (HD.out.kept HG.out (by simp [Value.ownBlock])) HN.out _ _ (kl k) rfl rfl (key9 k HK.out) (.lit (.bool true)) [] (plainElem_bool Tryz.underlying4 true) ?_; intro w2 hown2 hgrow2; have HO2 := Aside0.mk hown2; have HG2 := Aside0.mk hgrow2; clear hown2 hgrow2))
  all_goals go_ret
  · have hb : mt S items q = false := by have := HR.out; simpa using this.symm
    refine ⟨rfl, ?_, ?_⟩
    · exact ⟨HG.out.os, HG.out.tape, HG.out.output, HG.out.size, fun i hi _ => HG.out.block i hi (by simp [Value.ownBlock])⟩
    · refine MapB.ext (M := M) ⟨D, (HD.out.kept HG.out (by simp [Value.ownBlock])).mono (by omega), H1.out, H2.out⟩ (fun j => by simp [hb])
  · have hb : mt S items q = true := by have := HR.out; simpa using this.symm
    have P := mapB_put HD.out.isMap H1.out H2.out k
    refine ⟨rfl, ?_, ?_⟩
    · exact g_then (row := some bm) ⟨HG.out.os, HG.out.tape, HG.out.output, HG.out.size, fun i hi _ => HG.out.block i hi (by simp [Value.ownBlock])⟩ HG2.out (fun j hj => .inr hj)
    · exact MapB.ext (M := fun j => M j || decide (j = k)) ⟨_, HO2.out, P.1, P.2⟩ (fun j => by simp [hb])
end Go.Proofs.YtcedefabmelogaaGreatDoor.H
