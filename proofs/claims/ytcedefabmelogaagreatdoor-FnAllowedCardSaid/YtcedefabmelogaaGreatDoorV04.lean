/- The tree as a whole: a child is found, a child is added. -/
import Derived.Test.YtcedefabmelogaaGreatDoorV03
import Derived.Test.YtcedefabmelogaaGreatDoorV02
import Derived.WalkLawsBesides
import Derived.WalkSpells
import Derived.Deep.RegionWith
import Derived.Handy
/- The walk of (*routingNode).addChild. -/
namespace Go.Proofs.YtcedefabmelogaaGreatDoor.H
open Go.RowKit Go.WideMaps Go.WideElems Go.Proofs.YtcedefabmelogaaGreatDoorW.PrintWords Go.Proofs.YtcedefabmelogaaGreatDoorW.PrintLast Go.Proofs.YtcedefabmelogaaGreatDoorW.PrintMore
attribute [local go_sem] eqMap69 neqMap69
set_option linter.unusedVariables false
set_option linter.unusedSimpArgs false
/-- The keys of a list of children differ, and are no texts beyond the model's bound. -/
def KeysOk (kids : List (ByteArray × Nat)) : Prop := ∀ i (hi : i < kids.length), look (kids.take i) (kids[i]).1 = none ∧ (kids[i]).1.size ≤ maxLen
theorem add_any (b c lo : Nat) (w : World) (p h : Value) (mc ec : Option Nat) (kids : List (ByteArray × Nat)) (k : ByteArray) (HN : NodeAt w lo b p h kids mc ec) (hnd : KeysOk kids)
    (hn : look kids k = none) (hks : k.size ≤ maxLen) (hkl : kids.length < maxLen) :
    Calls Tryz.prog 63 #[.pointer (some ⟨b, 2, none⟩), .string k, .pointer (some ⟨c, 0, none⟩)] w fun e w' => e = .returned (.tuple #[]) ∧ AddPost w w' lo b c p h kids k mc ec := by
  obtain ⟨hlo, sv, mv, hb, hk⟩ := HN
  rcases hk with ⟨rfl, h8, A, cp, rfl, ho⟩ | ⟨m, rfl, hlm, rfl, hm⟩
  · rcases Nat.lt_or_eq_of_le h8 with h8 | h8
    · exact add_room b c lo w p h mc ec A cp kids k hlo hb ho h8
    · exact add_full b c lo w p h mc ec A cp kids k hlo hb ho h8 hnd hn hks
  · exact add_map b c m lo w p h mc ec kids k hlo hlm hb hm hn hks hkl
/-- What addChild leaves. -/
def ChildPost (w w' : World) (lo b c : Nat) (p h : Value) (kids : List (ByteArray × Nat)) (k : ByteArray) (mc ec : Option Nat) : Prop :=
  ((if k = ⟨#[]⟩ then ec else look kids k) = some c ∧ Below w.heap.size w w') ∨
  ((if k = ⟨#[]⟩ then ec else look kids k) = none ∧ w.heap.size ≤ c ∧ NodeAt w' lo c (.pointer none) (.pointer none) [] none none ∧ (∀ i, foot w' c i → i = c) ∧ Fr w w' (foot w b) ∧ (∀ i, foot w' b i → foot w b i ∨ (w.heap.size ≤ i ∧ i ≠ c)) ∧
    NodeAt w' lo b p h (if k = ⟨#[]⟩ then kids else kids ++ [(k, c)]) mc (if k = ⟨#[]⟩ then some c else ec))
theorem new_node (w : World) (lo : Nat) (hlo : lo ≤ w.heap.size) : NodeAt (w.alloc (.cells #[.pointer none, .pointer none, .slice none 0 0, .map none, .pointer none, .pointer none] 73)) lo w.heap.size (.pointer none) (.pointer none) [] none none ∧
    ∀ i, foot (w.alloc (.cells #[.pointer none, .pointer none, .slice none 0 0, .map none, .pointer none, .pointer none] 73)) w.heap.size i → i = w.heap.size := by
  have hb := blk_new w (.cells #[.pointer none, .pointer none, .slice none 0 0, .map none, .pointer none, .pointer none] 73)
  refine ⟨⟨hlo, _, _, hb, .inl ⟨rfl, by simp, none, 0, rfl, World.ownsRow_nil _ _ _ _⟩⟩, fun i hi => ?_⟩
  rcases (foot_iff hb i).1 hi with h | h | h
  · exact h
  · simp [Value.ownBlock] at h
  · simp [mblk] at h
set_option maxHeartbeats 1000000 in
set_option maxRecDepth 100000 in
theorem child_empty_old (b c : Nat) (w : World) (p h sv mv mc : Value) (hb : w.heap[b]? = some (.cells #[p, h, sv, mv, mc, ptr (some c)] 73 (0, 0))) :
    Calls Tryz.prog 50 #[.pointer (some ⟨b, 0, none⟩), .string ⟨#[]⟩] w fun e w' => e = .returned (.pointer (some ⟨c, 0, none⟩)) ∧ w' = w := by
  have hc5 : w.cell? ⟨b, 5, none⟩ = some (.pointer (some ⟨c, 0, none⟩)) := (blk_cell hb 5).trans rfl
  have hl : (⟨#[]⟩ : ByteArray).toList.isEmpty = true := by rw [str_empty]; simp
  go_enter Tryz.func50, Tryz.ntmps50
  go_wp2
  go_ret
  exact ⟨rfl, rfl⟩
set_option maxHeartbeats 1000000 in
set_option maxRecDepth 100000 in
theorem child_empty_new (b : Nat) (w : World) (p h sv mv mc : Value) (hb : w.heap[b]? = some (.cells #[p, h, sv, mv, mc, .pointer none] 73 (0, 0))) :
    Calls Tryz.prog 50 #[.pointer (some ⟨b, 0, none⟩), .string ⟨#[]⟩] w fun e w' => e = .returned (.pointer (some ⟨w.heap.size, 0, none⟩)) ∧
      w' = (w.alloc (.cells #[.pointer none, .pointer none, .slice none 0 0, .map none, .pointer none, .pointer none] 73)).setCell ⟨b, 5, none⟩ (.pointer (some ⟨w.heap.size, 0, none⟩)) := by
  have hc5 : w.cell? ⟨b, 5, none⟩ = some (.pointer none) := (blk_cell hb 5).trans rfl
  have hb1 := blk_alloc hb (.cells #[.pointer none, .pointer none, .slice none 0 0, .map none, .pointer none, .pointer none] 73)
  have hc5' := (blk_cell hb1 5).trans (show _ = some (.pointer none) from rfl)
  have hf5 := blk_frozen hb1 5
  have hb2 := blk_put hb1 5 (.pointer (some ⟨w.heap.size, 0, none⟩)) rfl
  have hc5'' := (blk_cell hb2 5).trans (show _ = some (.pointer (some ⟨w.heap.size, 0, none⟩)) from rfl)
  have hl : (⟨#[]⟩ : ByteArray).toList.isEmpty = true := by rw [str_empty]; simp
  clear hb hb1 hb2
  go_enter Tryz.func50, Tryz.ntmps50
  go_wp2
  go_ret
  exact ⟨rfl, rfl⟩
set_option maxHeartbeats 1000000 in
set_option maxRecDepth 100000 in
theorem child_key_old (b c lo : Nat) (w : World) (p h sv mv mc : Value) (ec : Option Nat) (kids : List (ByteArray × Nat)) (key : ByteArray) (hks : key.size ≤ maxLen)
    (hb : w.heap[b]? = some (.cells #[p, h, sv, mv, mc, ptr ec] 73 (0, 0))) (hk : Kids w lo sv mv kids) (hne : key ≠ ⟨#[]⟩) (hl : look kids key = some c) :
    Calls Tryz.prog 50 #[.pointer (some ⟨b, 0, none⟩), .string key] w fun e w' => e = .returned (.pointer (some ⟨c, 0, none⟩)) ∧ Below w.heap.size w w' := by
  have hle : key.toList.isEmpty = false := by rw [str_empty]; simpa using hne
  have HF := findChild_any b lo w p h sv mv mc ec kids key hks hb hk
  rw [if_neg hne, hl] at HF
  have HF := Aside0.mk HF
  clear hb hk hne hl hks
  go_enter Tryz.func50, Tryz.ntmps50
  go_wp2_with (go_at_call 37; refine HF.out.mono ?_; rintro e w' ⟨rfl, hw⟩; rw [ptr_some]; have HW := Aside0.mk hw; clear hw)
  go_ret
  exact ⟨rfl, HW.out⟩
set_option maxHeartbeats 1000000 in
set_option maxRecDepth 100000 in
theorem child_key_new (b lo : Nat) (w : World) (p h : Value) (mc ec : Option Nat) (kids : List (ByteArray × Nat)) (key : ByteArray) (hks : key.size ≤ maxLen)
    (HN : NodeAt w lo b p h kids mc ec) (hlo : lo ≤ w.heap.size) (hnd : KeysOk kids) (hkl : kids.length < maxLen) (hne : key ≠ ⟨#[]⟩) (hl : look kids key = none) :
    Calls Tryz.prog 50 #[.pointer (some ⟨b, 0, none⟩), .string key] w fun e w' => ∃ c, e = .returned (.pointer (some ⟨c, 0, none⟩)) ∧
      (w.heap.size ≤ c ∧ NodeAt w' lo c (.pointer none) (.pointer none) [] none none ∧ (∀ i, foot w' c i → i = c) ∧ Fr w w' (foot w b) ∧ (∀ i, foot w' b i → foot w b i ∨ (w.heap.size ≤ i ∧ i ≠ c)) ∧ NodeAt w' lo b p h (kids ++ [(key, c)]) mc ec) := by
  have hle : key.toList.isEmpty = false := by rw [str_empty]; simpa using hne
  have HF : Calls Tryz.prog 37 #[.pointer (some ⟨b, 0, none⟩), .string key] w fun e w' => e = .returned (.pointer none) ∧ Below w.heap.size w w' := by
    obtain ⟨_, sv, mv, hb, hk⟩ := HN
    have HF := findChild_any b lo w p h sv mv _ ec kids key hks hb hk
    rw [if_neg hne, hl] at HF
    exact HF
  have HF := Aside0.mk HF
  have HNN := Aside0.mk HN
  have HLO := Aside0.mk hlo
  have HND := Aside0.mk hnd
  have HKL := Aside0.mk hkl
  have HL := Aside0.mk hl
  have HK := Aside0.mk hks
  clear HN hlo hnd hkl hl hks hne
  go_enter Tryz.func50, Tryz.ntmps50
  go_wp2_with (first | (go_at_call 37; refine HF.out.mono ?_; rintro e w1 ⟨rfl, hw⟩; have HW := Aside0.mk hw; clear hw) | (go_at_call 63; refine (add_any b w1.heap.size lo _ p h mc ec kids key (((HNN.out.move (fun i hi => HW.out.block i (HNN.out.foot_bd i hi).2)).1.move (fun i hi => Below.heap_alloc _ _ i (NodeAt.foot_bd (HNN.out.move (fun i hi => HW.out.block i (HNN.out.foot_bd i hi).2)).1 i hi).2)).1) HND.out HL.out HK.out HKL.out).mono ?_; rintro e w2 ⟨rfl, hp⟩; have HP := Aside0.mk hp; clear hp))
  go_ret
  have M1 := HNN.out.move (fun i hi => HW.out.block i (HNN.out.foot_bd i hi).2)
  have M2 := M1.1.move (w' := w1.alloc (.cells #[.pointer none, .pointer none, .slice none 0 0, .map none, .pointer none, .pointer none] 73)) (fun i hi => Below.heap_alloc _ _ i (M1.1.foot_bd i hi).2)
  have hs := HW.out.size
  obtain ⟨hP1, hP2, hP3⟩ := HP.out
  have NN := new_node w1 lo (by have := HLO.out; omega)
  have NM := NN.1.move (w' := w2) (fun i hi => hP2.block i (NN.1.foot_bd i hi).2 (fun hf => by
    have e1 := NN.2 i hi
    have e2 := ((M2.2 i).1 hf)
    have := (M1.1.foot_bd i e2).2
    omega))
  refine ⟨w1.heap.size, rfl, hs, NM.1, fun i hi => NN.2 i ((NM.2 i).1 hi), ?_, fun i hi => ?_, hP1⟩
  · exact Fr.trans ((Fr.of_below HW.out (foot w b)).alloc _) hP2 (fun i hi => hi) (fun i _ hi => (M1.2 i).1 ((M2.2 i).1 hi))
  · rcases hP3 i hi with h1 | h1
    · exact .inl ((M1.2 i).1 ((M2.2 i).1 h1))
    · right
      simp at h1
      omega
theorem addChild_any (b lo : Nat) (w : World) (p h : Value) (mc ec : Option Nat) (kids : List (ByteArray × Nat)) (key : ByteArray) (hks : key.size ≤ maxLen)
    (HN : NodeAt w lo b p h kids mc ec) (hlo : lo ≤ w.heap.size) (hnd : KeysOk kids) (hkl : kids.length < maxLen) :
    Calls Tryz.prog 50 #[.pointer (some ⟨b, 0, none⟩), .string key] w fun e w' => ∃ c, e = .returned (.pointer (some ⟨c, 0, none⟩)) ∧ ChildPost w w' lo b c p h kids key mc ec := by
  by_cases he : key = ⟨#[]⟩
  · subst he
    obtain ⟨hlb, sv, mv, hb, hk⟩ := HN
    cases ec with
    | some c =>
      refine (child_empty_old b c w p h sv mv _ hb).mono ?_
      rintro e w' ⟨rfl, rfl⟩
      exact ⟨c, rfl, .inl ⟨by simp, Below.refl _ _⟩⟩
    | none =>
      refine (child_empty_new b w p h sv mv _ hb).mono ?_
      rintro e w' ⟨rfl, rfl⟩
      have hbw := blk_lt hb
      have NN := new_node w lo hlo
      have hb1 := blk_alloc hb (.cells #[.pointer none, .pointer none, .slice none 0 0, .map none, .pointer none, .pointer none] 73)
      have hb2 := blk_put hb1 5 (.pointer (some ⟨w.heap.size, 0, none⟩)) rfl
      have NM := NN.1.move (w' := (w.alloc (.cells #[.pointer none, .pointer none, .slice none 0 0, .map none, .pointer none, .pointer none] 73)).setCell ⟨b, 5, none⟩ (.pointer (some ⟨w.heap.size, 0, none⟩)))
        (fun i hi => Below.heap_setCell _ _ _ _ (by have := NN.2 i hi; simp; omega))
      refine ⟨w.heap.size, rfl, .inr ⟨by simp, Nat.le_refl _, NM.1, fun i hi => NN.2 i ((NM.2 i).1 hi), ?_, ?_, ?_⟩⟩
      · exact ((Fr.refl w _).alloc _).setCell _ _ (.inl (.inl rfl))
      · intro i hi
        left
        rw [foot_iff hb]
        exact (foot_iff hb2 i).1 hi
      · simp only [if_true]
        refine ⟨hlb, sv, mv, hb2, ?_⟩
        refine hk.move (fun i hi => ?_) (fun i hi => ?_)
        · have hr : i ≠ b := by
            rintro rfl
            rcases hk with ⟨rfl, h8, A, cp, rfl, ho⟩ | ⟨m, rfl, hlm, rfl, hm⟩
            · obtain ⟨cells, hcells⟩ := own_typed ho i hi
              rw [hb] at hcells; injection hcells with hcells; injection hcells with _ ht; cases ht
            · simp [Value.ownBlock] at hi
          rw [Below.heap_setCell _ _ _ _ hr, Below.heap_alloc _ _ _ (hk.blocks.1 i hi).2]
        · have hr : i ≠ b := by
            rintro rfl
            rcases hk with ⟨rfl, h8, A, cp, rfl, ho⟩ | ⟨m, rfl, hlm, rfl, D, hm, _⟩
            · simp [mblk] at hi
            · simp [mblk] at hi
              subst hi
              obtain ⟨es, clock, hm', _⟩ := hm
              rw [hb] at hm'
              cases hm'
          rw [Below.heap_setCell _ _ _ _ hr, Below.heap_alloc _ _ _ (hk.blocks.2 i hi).2]
  · cases hl : look kids key with
    | some c =>
      obtain ⟨hlb, sv, mv, hb, hk⟩ := HN
      refine (child_key_old b c lo w p h sv mv _ ec kids key hks hb hk he hl).mono ?_
      rintro e w' ⟨rfl, hw⟩
      exact ⟨c, rfl, .inl ⟨by rw [if_neg he, hl], hw⟩⟩
    | none =>
      refine (child_key_new b lo w p h mc ec kids key hks HN hlo hnd hkl he hl).mono ?_
      rintro e w' ⟨c, rfl, h1, h2, h3, h4, h5, h6⟩
      exact ⟨c, rfl, .inr ⟨by rw [if_neg he, hl], h1, h2, h3, h4, h5, by rw [if_neg he, if_neg he]; exact h6⟩⟩
end Go.Proofs.YtcedefabmelogaaGreatDoor.H
/- Plain words for the routing tree, more: the whole tree as a set of paths, each with its block. -/
namespace Go.Proofs.YtcedefabmelogaaGreatDoor.H
open Go.RowKit Go.WideMaps Go.WideElems Go.Proofs.YtcedefabmelogaaGreatDoorW.PrintWords
set_option maxRecDepth 100000
open Classical
/-- A step down: a key (the empty one: the child emptyChild), or none: the child multiChild. -/
abbrev Key := Option ByteArray
abbrev Path := List Key
abbrev eK : Key := some ⟨#[]⟩
structure TS where
  dom : List Path
  loc : Path → Nat
  kids : Path → List (ByteArray × Nat)
  pat : Path → Option (Addr × Addr)
noncomputable def up {α : Type} (f : Path → α) (q : Path) (v : α) : Path → α := fun r => if r = q then v else f r
theorem up_same {α : Type} (f : Path → α) (q : Path) (v : α) : up f q v q = v := by simp [up]
theorem up_other {α : Type} (f : Path → α) {q r : Path} (v : α) (h : r ≠ q) : up f q v r = f r := by simp [up, h]
noncomputable def TS.ch (S : TS) (q : Path) (x : Key) : Option Nat := if q ++ [x] ∈ S.dom then some (S.loc (q ++ [x])) else none
def pv : Option (Addr × Addr) → Value
  | none => .pointer none
  | some x => .pointer (some x.1)
def hv : Option (Addr × Addr) → Value
  | none => .pointer none
  | some x => .pointer (some x.2)
structure Tree (w : World) (lo : Nat) (S : TS) : Prop where
  root : [] ∈ S.dom
  closed : ∀ q x, q ++ [x] ∈ S.dom → q ∈ S.dom
  node : ∀ q, q ∈ S.dom → NodeAt w lo (S.loc q) (pv (S.pat q)) (hv (S.pat q)) (S.kids q) (S.ch q none) (S.ch q eK)
  keys : ∀ q, q ∈ S.dom → KeysOk (S.kids q) ∧ (S.kids q).length ≤ S.dom.length ∧ (∀ k, k ≠ ⟨#[]⟩ → look (S.kids q) k = S.ch q (some k)) ∧ ∀ x ∈ S.kids q, x.1 ≠ ⟨#[]⟩
  disj : ∀ q, q ∈ S.dom → ∀ q', q' ∈ S.dom → ∀ i, foot w (S.loc q) i → foot w (S.loc q') i → q = q'
  patn : ∀ q, q ∉ S.dom → S.pat q = none
/-- All the tree's blocks. -/
def footAll (w : World) (S : TS) (i : Nat) : Prop := ∃ q, q ∈ S.dom ∧ foot w (S.loc q) i
theorem Tree.foot_bd {w : World} {lo : Nat} {S : TS} (T : Tree w lo S) (i : Nat) (h : footAll w S i) : lo ≤ i ∧ i < w.heap.size := by
  obtain ⟨q, hq, hf⟩ := h
  exact (T.node q hq).foot_bd i hf
/-- The tree lies there still where none of its blocks has been written. -/
theorem Tree.move {w w' : World} {lo : Nat} {S : TS} (T : Tree w lo S) (hm : ∀ i, footAll w S i → w'.heap[i]? = w.heap[i]?) : Tree w' lo S ∧ ∀ i, footAll w' S i ↔ footAll w S i := by
  have hn := fun q hq => (T.node q hq).move (w' := w') (fun i hi => hm i ⟨q, hq, hi⟩)
  refine ⟨⟨T.root, T.closed, fun q hq => (hn q hq).1, T.keys, fun q hq q' hq' i h h' => T.disj q hq q' hq' i (((hn q hq).2 i).1 h) (((hn q' hq').2 i).1 h'), T.patn⟩, fun i => ⟨?_, ?_⟩⟩
  · rintro ⟨q, hq, hf⟩
    exact ⟨q, hq, ((hn q hq).2 i).1 hf⟩
  · rintro ⟨q, hq, hf⟩
    exact ⟨q, hq, ((hn q hq).2 i).2 hf⟩
theorem Tree.below {w w' : World} {lo : Nat} {S : TS} (T : Tree w lo S) (h : Below w.heap.size w w') : Tree w' lo S ∧ ∀ i, footAll w' S i ↔ footAll w S i :=
  T.move (fun i hi => h.block i (T.foot_bd i hi).2)
/-- The state with one node more, at q ++ [x]. -/
noncomputable def TS.add (S : TS) (q : Path) (x : Key) (c : Nat) : TS where
  dom := (q ++ [x]) :: S.dom
  loc := up S.loc (q ++ [x]) c
  kids := up (match x with | none => S.kids | some k => if k = ⟨#[]⟩ then S.kids else up S.kids q (S.kids q ++ [(k, c)])) (q ++ [x]) []
  pat := S.pat
theorem snoc_ne {α : Type} (q : List α) (x : α) : q ++ [x] ≠ q := by
  intro h
  have := congrArg List.length h
  simp at this
theorem snoc_inj {α : Type} {q r : List α} {x y : α} (h : q ++ [x] = r ++ [y]) : q = r ∧ x = y := by
  have := List.append_inj' h rfl
  simpa using this
theorem TS.add_ch (S : TS) (q : Path) (x : Key) (c : Nat) (hx : q ++ [x] ∉ S.dom) (r : Path) (y : Key) : (S.add q x c).ch r y = if r = q ∧ y = x then some c else S.ch r y := by
  unfold TS.ch TS.add
  by_cases h : r ++ [y] = q ++ [x]
  · obtain ⟨rfl, rfl⟩ := snoc_inj h
    simp [up_same]
  · have h' : ¬ (r = q ∧ y = x) := by rintro ⟨rfl, rfl⟩; exact h rfl
    rw [if_neg h']
    simp only [List.mem_cons, h, false_or]
    rw [up_other _ _ h]
theorem KeysOk.snoc {kids : List (ByteArray × Nat)} (h : KeysOk kids) (k : ByteArray) (c : Nat) (hn : look kids k = none) (hk : k.size ≤ maxLen) : KeysOk (kids ++ [(k, c)]) := by
  intro i hi
  rcases Nat.lt_or_ge i kids.length with hlt | hge
  · rw [List.getElem_append_left hlt, List.take_append_of_le_length (by omega)]
    exact h i hlt
  · have : i = kids.length := by simp at hi; omega
    subst this
    simp only [List.take_left', List.getElem_concat_length]
    exact ⟨hn, hk⟩
theorem Tree.grow {w w' : World} {lo : Nat} {S : TS} (T : Tree w lo S) (q : Path) (x : Key) (c : Nat) (hq : q ∈ S.dom) (hx : q ++ [x] ∉ S.dom)
    (hc : w.heap.size ≤ c) (hN : NodeAt w' lo c (.pointer none) (.pointer none) [] none none) (hf : ∀ i, foot w' c i → i = c) (hFr : Fr w w' (foot w (S.loc q)))
    (hfq : ∀ i, foot w' (S.loc q) i → foot w (S.loc q) i ∨ (w.heap.size ≤ i ∧ i ≠ c))
    (hNq : NodeAt w' lo (S.loc q) (pv (S.pat q)) (hv (S.pat q)) ((S.add q x c).kids q) ((S.add q x c).ch q none) ((S.add q x c).ch q eK))
    (hks : ∀ k, x = some k → k.size ≤ maxLen) : Tree w' lo (S.add q x c) ∧ ∀ i, footAll w' (S.add q x c) i → footAll w S i ∨ w.heap.size ≤ i := by
  have hqx : q ≠ q ++ [x] := fun h => snoc_ne q x h.symm
  have hch := TS.add_ch S q x c hx
  -- the nodes but q and the new one
  have other : ∀ r, r ∈ S.dom → r ≠ q → NodeAt w' lo (S.loc r) (pv (S.pat r)) (hv (S.pat r)) (S.kids r) (S.ch r none) (S.ch r eK) ∧ ∀ i, foot w' (S.loc r) i ↔ foot w (S.loc r) i := by
    intro r hr hrq
    refine (T.node r hr).move (fun i hi => hFr.block i ((T.node r hr).foot_bd i hi).2 (fun hqi => hrq (T.disj r hr q hq i hi hqi)))
  have newfoot : ∀ r, r ∈ S.dom → ∀ i, foot w' (S.loc r) i → foot w (S.loc r) i ∨ (r = q ∧ w.heap.size ≤ i ∧ i ≠ c) := by
    intro r hr i hi
    by_cases hrq : r = q
    · subst hrq
      rcases hfq i hi with h | h
      · exact .inl h
      · exact .inr ⟨rfl, h⟩
    · exact .inl (((other r hr hrq).2 i).1 hi)
  have hdomne : ∀ r, r ∈ S.dom → r ≠ q ++ [x] := by rintro r hr rfl; exact hx hr
  have hloc : ∀ r, r ∈ S.dom → (S.add q x c).loc r = S.loc r := fun r hr => up_other _ _ (hdomne r hr)
  have hkid : ∀ r, r ∈ S.dom → r ≠ q → (S.add q x c).kids r = S.kids r := by
    intro r hr hrq
    show up _ _ _ r = _
    rw [up_other _ _ (hdomne r hr)]
    cases x with
    | none => rfl
    | some k =>
      by_cases hk : k = ⟨#[]⟩
      · simp [hk]
      · simp only [if_neg hk]
        rw [up_other _ _ hrq]
  have hnewch : ∀ y, (S.add q x c).ch (q ++ [x]) y = none := by
    intro y
    rw [hch, if_neg (fun h => snoc_ne q x h.1)]
    unfold TS.ch
    rw [if_neg (fun h => hx (T.closed _ _ h))]
  have hpn : S.pat (q ++ [x]) = none := T.patn _ hx
  refine ⟨⟨List.mem_cons_of_mem _ T.root, ?_, ?_, ?_, ?_, ?_⟩, ?_⟩
  · intro r y hr
    rcases List.mem_cons.1 hr with h | h
    · obtain ⟨rfl, rfl⟩ := snoc_inj h
      exact List.mem_cons_of_mem _ hq
    · exact List.mem_cons_of_mem _ (T.closed r y h)
  · intro r hr
    rcases List.mem_cons.1 hr with h | h
    · subst h
      rw [hnewch, hnewch]
      have e1 : (S.add q x c).loc (q ++ [x]) = c := up_same _ _ _
      have e2 : (S.add q x c).kids (q ++ [x]) = [] := up_same _ _ _
      have e3 : (S.add q x c).pat (q ++ [x]) = none := hpn
      rw [e1, e2, e3]
      exact hN
    · rw [hloc r h]
      by_cases hrq : r = q
      · subst hrq
        exact hNq
      · rw [hkid r h hrq, hch, hch, if_neg (fun e => hrq e.1), if_neg (fun e => hrq e.1)]
        exact (other r h hrq).1
  · intro r hr
    rcases List.mem_cons.1 hr with h | h
    · subst h
      have e2 : (S.add q x c).kids (q ++ [x]) = [] := up_same _ _ _
      rw [e2]
      refine ⟨fun i hi => by simp at hi, Nat.zero_le _, fun k hk => by rw [hnewch]; rfl, by simp⟩
    · by_cases hrq : r = q
      · subst hrq
        obtain ⟨k1, k2, k3, k4⟩ := T.keys r h
        cases x with
        | none =>
          have e2 : (S.add r none c).kids r = S.kids r := by show up _ _ _ r = _; rw [up_other _ _ hqx]
          rw [e2]
          refine ⟨k1, by show _ ≤ S.dom.length + 1; omega, fun k hk => ?_, k4⟩
          rw [k3 k hk, hch, if_neg (by simp)]
        | some k0 =>
          by_cases hk0 : k0 = ⟨#[]⟩
          · have e2 : (S.add r (some k0) c).kids r = S.kids r := by show up _ _ _ r = _; rw [up_other _ _ hqx]; simp [hk0]
            rw [e2]
            refine ⟨k1, by show _ ≤ S.dom.length + 1; omega, fun k hk => ?_, k4⟩
            rw [k3 k hk, hch, if_neg (by rintro ⟨_, e⟩; injection e with e; exact hk (e.trans hk0))]
          · have e2 : (S.add r (some k0) c).kids r = S.kids r ++ [(k0, c)] := by
              show up _ _ _ r = _
              rw [up_other _ _ hqx]
              simp only [if_neg hk0]
              rw [up_same]
            have hl0 : look (S.kids r) k0 = none := by
              rw [k3 k0 hk0]
              unfold TS.ch
              rw [if_neg hx]
            rw [e2]
            refine ⟨k1.snoc k0 c hl0 (hks k0 rfl), by simp only [List.length_append, List.length_singleton]; show _ ≤ S.dom.length + 1; omega, fun k hk => ?_, fun y hy => ?_⟩
            · rw [look_append _ _ _ hl0, hch]
              by_cases e : k = k0
              · rw [if_pos e, if_pos ⟨rfl, by rw [e]⟩]
              · rw [if_neg e, if_neg (by rintro ⟨_, e'⟩; injection e' with e'; exact e e'), k3 k hk]
            · rcases List.mem_append.1 hy with hy | hy
              · exact k4 y hy
              · simp at hy; subst hy; exact hk0
      · obtain ⟨k1, k2, k3, k4⟩ := T.keys r h
        rw [hkid r h hrq]
        refine ⟨k1, by show _ ≤ S.dom.length + 1; omega, fun k hk => ?_, k4⟩
        rw [k3 k hk, hch, if_neg (fun e => hrq e.1)]
  · intro r hr r' hr' i h h'
    have ec : (S.add q x c).loc (q ++ [x]) = c := up_same _ _ _
    rcases List.mem_cons.1 hr with e | hd <;> rcases List.mem_cons.1 hr' with e' | hd'
    · rw [e, e']
    · subst e
      rw [ec] at h
      rw [hloc r' hd'] at h'
      have := hf i h
      subst this
      rcases newfoot r' hd' i h' with h1 | ⟨_, _, h1⟩
      · have := ((T.node r' hd').foot_bd i h1).2; omega
      · exact absurd rfl h1
    · subst e'
      rw [ec] at h'
      rw [hloc r hd] at h
      have := hf i h'
      subst this
      rcases newfoot r hd i h with h1 | ⟨_, _, h1⟩
      · have := ((T.node r hd).foot_bd i h1).2; omega
      · exact absurd rfl h1
    · rw [hloc r hd] at h
      rw [hloc r' hd'] at h'
      rcases newfoot r hd i h with h1 | ⟨rfl, h1, _⟩ <;> rcases newfoot r' hd' i h' with h2 | ⟨rfl, h2, _⟩
      · exact T.disj r hd r' hd' i h1 h2
      · have := ((T.node r hd).foot_bd i h1).2; omega
      · have := ((T.node r' hd').foot_bd i h2).2; omega
      · rfl
  · intro r hr
    exact T.patn r (fun h => hr (List.mem_cons_of_mem _ h))
  · rintro i ⟨r, hr, hi⟩
    rcases List.mem_cons.1 hr with h | h
    · subst h
      have ec : (S.add q x c).loc (q ++ [x]) = c := up_same _ _ _
      rw [ec] at hi
      have := hf i hi
      exact .inr (by omega)
    · rw [hloc r h] at hi
      rcases newfoot r h i hi with h1 | ⟨_, h1, _⟩
      · exact .inl ⟨r, h, h1⟩
      · exact .inr h1
/-- What a step of the building leaves: the old nodes lie where they lay, new blocks are new. -/
structure Grew (w w' : World) (lo : Nat) (S S' : TS) : Prop where
  tree : Tree w' lo S'
  fr : Fr w w' (footAll w S)
  foot : ∀ i, footAll w' S' i → footAll w S i ∨ w.heap.size ≤ i
  loc : ∀ r, r ∈ S.dom → S'.loc r = S.loc r
theorem Grew.trans {a b c : World} {lo : Nat} {S S' S2 : TS} (h : Grew a b lo S S') (k : Grew b c lo S' S2) (hd : ∀ r, r ∈ S.dom → r ∈ S'.dom) : Grew a c lo S S2 :=
  ⟨k.tree, ⟨k.fr.os.trans h.fr.os, k.fr.tape.trans h.fr.tape, k.fr.output.trans h.fr.output, Nat.le_trans h.fr.size k.fr.size, fun i hi hn =>
      (k.fr.block i (Nat.lt_of_lt_of_le hi h.fr.size) (fun hf => by
        rcases h.foot i hf with h1 | h1
        · exact hn h1
        · omega)).trans (h.fr.block i hi hn)⟩,
    fun i hi => by
      rcases k.foot i hi with h1 | h1
      · exact h.foot i h1
      · exact .inr (Nat.le_trans h.fr.size h1),
    fun r hr => (k.loc r (hd r hr)).trans (h.loc r hr)⟩
theorem tree_addChild {w : World} {lo : Nat} {S : TS} (T : Tree w lo S) (q : Path) (hq : q ∈ S.dom) (k : ByteArray) (hk : k.size ≤ maxLen) (hlo : lo ≤ w.heap.size) (hd : S.dom.length < maxLen) :
    Calls Tryz.prog 50 #[.pointer (some ⟨S.loc q, 0, none⟩), .string k] w fun e w' => ∃ S', e = .returned (.pointer (some ⟨S'.loc (q ++ [some k]), 0, none⟩)) ∧ Grew w w' lo S S' ∧
      (∀ r, r ∈ S'.dom ↔ r ∈ S.dom ∨ r = q ++ [some k]) ∧ S'.pat = S.pat ∧ S'.dom.length ≤ S.dom.length + 1 := by
  obtain ⟨k1, k2, k3, k4⟩ := T.keys q hq
  have hlook : (if k = ⟨#[]⟩ then S.ch q eK else look (S.kids q) k) = S.ch q (some k) := by
    by_cases e : k = ⟨#[]⟩
    · rw [if_pos e, e]
    · rw [if_neg e, k3 k e]
  refine (addChild_any (S.loc q) lo w _ _ _ _ (S.kids q) k hk (T.node q hq) hlo k1 (by omega)).mono ?_
  rintro e w' ⟨c, rfl, ⟨hc, hb⟩ | ⟨hc, h1, h2, h3, h4, h5, h6⟩⟩
  · rw [hlook] at hc
    unfold TS.ch at hc
    split at hc
    · rename_i hin
      injection hc with hc
      obtain ⟨T', hf⟩ := T.below hb
      exact ⟨S, by rw [hc], ⟨T', Fr.of_below hb _, fun i hi => .inl ((hf i).1 hi), fun _ _ => rfl⟩, fun r => ⟨.inl, fun h => by rcases h with h | rfl; exact h; exact hin⟩, rfl, by omega⟩
    · cases hc
  · rw [hlook] at hc
    have hx : q ++ [some k] ∉ S.dom := by
      intro h
      unfold TS.ch at hc
      rw [if_pos h] at hc
      cases hc
    have hch := TS.add_ch S q (some k) c hx
    have hqx : q ≠ q ++ [some k] := fun h => snoc_ne q (some k) h.symm
    have hNq : NodeAt w' lo (S.loc q) (pv (S.pat q)) (hv (S.pat q)) ((S.add q (some k) c).kids q) ((S.add q (some k) c).ch q none) ((S.add q (some k) c).ch q eK) := by
      rw [hch, hch, if_neg (by simp)]
      by_cases e : k = ⟨#[]⟩
      · have e2 : (S.add q (some k) c).kids q = S.kids q := by show up _ _ _ q = _; rw [up_other _ _ hqx]; simp [e]
        rw [if_pos e, if_pos e] at h6
        rw [e2, if_pos ⟨rfl, by rw [e]⟩]
        exact h6
      · have e2 : (S.add q (some k) c).kids q = S.kids q ++ [(k, c)] := by
          show up _ _ _ q = _
          rw [up_other _ _ hqx]
          simp only [if_neg e]
          rw [up_same]
        rw [if_neg e, if_neg e] at h6
        rw [e2, if_neg (by rintro ⟨_, e'⟩; injection e' with e'; exact e e'.symm)]
        exact h6
    have G := T.grow q (some k) c hq hx h1 h2 h3 h4 h5 hNq (fun k' e => by injection e with e; rw [← e]; exact hk)
    refine ⟨S.add q (some k) c, by rw [show (S.add q (some k) c).loc (q ++ [some k]) = c from up_same _ _ _], ⟨G.1, h4.mono (fun i _ hi => ⟨q, hq, hi⟩), G.2, fun r hr => up_other _ _ (by rintro rfl; exact hx hr)⟩, fun r => ?_, rfl, Nat.le_refl _⟩
    show r ∈ (q ++ [some k]) :: S.dom ↔ _
    rw [List.mem_cons]
    exact ⟨fun h => h.symm, fun h => h.symm⟩
end Go.Proofs.YtcedefabmelogaaGreatDoor.H
/- Walks of the small functions of the routing tree: (*routingNode).set, (*pattern).lastSegment, (*mapping).find and findChild. -/
namespace Go.Proofs.YtcedefabmelogaaGreatDoor.H
open Go.RowKit Go.Proofs.YtcedefabmelogaaGreatDoorW.PrintWords Go.Proofs.YtcedefabmelogaaGreatDoorW.PrintLast Go.Proofs.YtcedefabmelogaaGreatDoorW.PrintMore
set_option linter.unusedVariables false
set_option linter.unusedSimpArgs false
set_option maxHeartbeats 1000000 in
set_option maxRecDepth 100000 in
theorem set_any (b : Nat) (pa ha : Addr) (w : World) (sv mv mc ec : Value) (hb : w.heap[b]? = some (.cells #[.pointer none, .pointer none, sv, mv, mc, ec] 73 (0, 0))) :
    Calls Tryz.prog 64 #[.pointer (some ⟨b, 0, none⟩), .pointer (some pa), .pointer (some ha)] w fun e w' => e = .returned (.tuple #[]) ∧ w' = (w.setCell ⟨b, 0, none⟩ (.pointer (some pa))).setCell ⟨b, 1, none⟩ (.pointer (some ha)) := by
  have hc0 : w.cell? ⟨b, 0, none⟩ = some (.pointer none) := (blk_cell hb 0).trans rfl
  have hc1 : w.cell? ⟨b, 1, none⟩ = some (.pointer none) := (blk_cell hb 1).trans rfl
  have hf0 := blk_frozen hb 0
  have hf1 := blk_frozen hb 1
  have hb1 := blk_set hb 0 (.pointer (some pa))
  have hd1 : (w.setCell ⟨b, 0, none⟩ (.pointer (some pa))).cell? ⟨b, 1, none⟩ = some (.pointer none) := (blk_cell hb1 1).trans rfl
  have hg1 := blk_frozen hb1 1
  have HB := Aside0.mk hb
  clear hb hb1
  go_enter Tryz.func64, Tryz.ntmps64
  go_wp2
  go_end0
  exact ⟨rfl, rfl⟩
end Go.Proofs.YtcedefabmelogaaGreatDoor.H
/- The walk of (*routingNode).addSegments over the tree. -/
namespace Go.Proofs.YtcedefabmelogaaGreatDoor.H
open Go.RowKit Go.WideMaps Go.WideElems Go.Proofs.YtcedefabmelogaaGreatDoorW.PrintWords Go.Proofs.YtcedefabmelogaaGreatDoorW.PrintLast Go.Proofs.YtcedefabmelogaaGreatDoorW.PrintMore
open Go.Proofs.YtcedefabmelogaaGreatDoor.PFnAllowed
open Classical
attribute [local go_sem] eqMap69 neqMap69
set_option linter.unusedVariables false
set_option linter.unusedSimpArgs false
def segKey (s : S52) : Key := if s.f2 = true then none else if s.f1 = true then eK else some s.f0
def keysOf (l : List S52) : Path := l.map segKey
/-- A slice of segments that is read; its row lies in a block of segments. -/
def SegAt (w : World) (A : Option Addr) (l : List S52) : Prop :=
  Kd.C k52 w A l.length l ∧ (0 < l.length → ∃ ad cells, A = some ad ∧ w.heap[ad.block]? = some (.cells cells 112 (0, 0)))
theorem foot_kind {w : World} {lo b : Nat} {p h : Value} {kids : List (ByteArray × Nat)} {mc ec : Option Nat} (H : NodeAt w lo b p h kids mc ec) (i : Nat) (hi : foot w b i) {t : TypeId} {cells : Array Value} (hc : w.heap[i]? = some (.cells cells t (0, 0))) : t = 73 ∨ t = 124 := by
  obtain ⟨_, sv, mv, hb, hk⟩ := H
  rcases (foot_iff hb i).1 hi with rfl | h1 | h1
  · rw [hb] at hc; injection hc with hc; injection hc with _ ht; exact .inl ht.symm
  · rcases hk with ⟨rfl, _, A, c, rfl, ho⟩ | ⟨m, rfl, _, rfl, _⟩
    · obtain ⟨cl, hcl⟩ := own_typed ho i h1
      rw [hcl] at hc; injection hc with hc; injection hc with _ ht; exact .inr ht.symm
    · simp [Value.ownBlock] at h1
  · rcases hk with ⟨rfl, _⟩ | ⟨m, rfl, _, rfl, D, ho, _⟩
    · simp [mblk] at h1
    · simp [mblk] at h1
      subst h1
      obtain ⟨es, clock, hm, _⟩ := ho
      rw [hm] at hc; cases hc
theorem Tree.foot_kind {w : World} {lo : Nat} {S : TS} (T : Tree w lo S) (i : Nat) (hi : footAll w S i) {t : TypeId} {cells : Array Value} (hc : w.heap[i]? = some (.cells cells t (0, 0))) : t = 73 ∨ t = 124 := by
  obtain ⟨q, hq, hf⟩ := hi
  exact H.foot_kind (T.node q hq) i hf hc
/-- A block of another type is none of the tree's: it is kept. -/
theorem keep_block {w w' : World} {lo : Nat} {S : TS} (T : Tree w lo S) (F : Fr w w' (footAll w S)) {i : Nat} {t : TypeId} {cells : Array Value} (hc : w.heap[i]? = some (.cells cells t (0, 0))) (h1 : t ≠ 73) (h2 : t ≠ 124) : w'.heap[i]? = some (.cells cells t (0, 0)) :=
  F.blk hc (fun hf => by rcases T.foot_kind i hf hc with h | h; exact h1 h; exact h2 h)
theorem SegAt.move {w w' : World} {A : Option Addr} {l : List S52} (h : SegAt w A l) (hm : ∀ ad cells, A = some ad → w.heap[ad.block]? = some (.cells cells 112 (0, 0)) → w'.heap[ad.block]? = some (.cells cells 112 (0, 0))) : SegAt w' A l := by
  obtain ⟨⟨h1, h2, h3⟩, h4⟩ := h
  refine ⟨⟨h1, h2, fun hn => ?_⟩, fun hn => ?_⟩
  · obtain ⟨ad, e, hc⟩ := h3 hn
    obtain ⟨ad', cells, e', hb⟩ := h4 hn
    obtain rfl : ad = ad' := by rw [e] at e'; injection e'
    refine ⟨ad, e, fun j p hj => ?_⟩
    obtain ⟨c, hl, hK, hcell⟩ := hc j p hj
    refine ⟨c, hl, ?_, fun i u hu => ?_⟩
    · obtain rfl := k52_open hK
      exact k52_mk _ _
    · rw [← hcell i u hu]
      exact World.cell?_of_block (by rw [add_block, hm ad cells e hb, hb])
  · obtain ⟨ad, cells, e, hb⟩ := h4 hn
    exact ⟨ad, cells, e, hm ad cells e hb⟩
theorem SegAt.fr {w w' : World} {lo : Nat} {S : TS} {A : Option Addr} {l : List S52} (h : SegAt w A l) (T : Tree w lo S) (F : Fr w w' (footAll w S)) : SegAt w' A l :=
  h.move (fun _ _ _ hb => keep_block T F hb (by decide) (by decide))
theorem SegAt.below {w w' : World} {A : Option Addr} {l : List S52} (h : SegAt w A l) (F : Below w.heap.size w w') : SegAt w' A l :=
  h.move (fun _ _ _ hb => blk_below hb F)
theorem SegAt.tail {w : World} {A : Option Addr} {s : S52} {l : List S52} (h : SegAt w A (s :: l)) {c : Nat} (hc : (s :: l).length ≤ c) : SegAt w (if c = 1 then A else A.map (·.add 3)) l := by
  refine ⟨?_, fun hn => ?_⟩
  · have := Kd.C_drop (m := 1) h.1 (by simp) hc
    simp only [List.drop_succ_cons, List.drop_zero, Nat.one_mul] at this
    exact this
  · obtain ⟨ad, cells, e, hb⟩ := h.2 (by simp)
    have : c ≠ 1 := by simp at hc; omega
    rw [if_neg this, e]
    exact ⟨ad.add 3, cells, rfl, by rw [add_block]; exact hb⟩
theorem add_zero (ad : Addr) : ad.add 0 = ad := by
  unfold Addr.add
  split <;> simp_all
theorem SegAt.head {w : World} {A : Option Addr} {s : S52} {l : List S52} (h : SegAt w A (s :: l)) :
    ∃ ad, A = some ad ∧ w.cell? ad = some (.string s.f0) ∧ w.cell? ⟨ad.block, ad.off + 1, none⟩ = some (.bool s.f1) ∧ w.cell? ⟨ad.block, ad.off + 2, none⟩ = some (.bool s.f2) := by
  obtain ⟨ad, e, k0, k1, k2⟩ := at_T52 h.1 0 (by omega) (by simp)
  simp only [rd_T52, Int.toNat_zero, List.getD_cons_zero, Nat.zero_mul, add_zero] at k0 k1 k2
  exact ⟨ad, e, k0, k1, k2⟩
/-- Setting a leaf. -/
noncomputable def TS.put (S : TS) (q : Path) (pa ha : Addr) : TS := { S with pat := up S.pat q (some (pa, ha)) }
theorem tree_set {w : World} {lo : Nat} {S : TS} (T : Tree w lo S) (q : Path) (hq : q ∈ S.dom) (hp : S.pat q = none) (pa ha : Addr) :
    Calls Tryz.prog 64 #[.pointer (some ⟨S.loc q, 0, none⟩), .pointer (some pa), .pointer (some ha)] w fun e w' => e = .returned (.tuple #[]) ∧ Grew w w' lo S (S.put q pa ha) := by
  obtain ⟨hlb, sv, mv, hb, hk⟩ := T.node q hq
  rw [hp] at hb
  refine (set_any (S.loc q) pa ha w sv mv _ _ hb).mono ?_
  rintro e w' ⟨rfl, rfl⟩
  have hb1 := blk_put hb 0 (.pointer (some pa)) rfl
  have hb2 := blk_put hb1 1 (.pointer (some ha)) rfl
  have hblk : ∀ i, i ≠ S.loc q → ((w.setCell ⟨S.loc q, 0, none⟩ (.pointer (some pa))).setCell ⟨S.loc q, 1, none⟩ (.pointer (some ha))).heap[i]? = w.heap[i]? := fun i hi => by
    rw [Below.heap_setCell _ _ _ _ hi, Below.heap_setCell _ _ _ _ hi]
  have hown : ∀ i, sv.ownBlock = some i → i ≠ S.loc q := by
    rintro i hi rfl
    rcases hk with ⟨rfl, h8, A, cp, rfl, ho⟩ | ⟨m, rfl, hlm, rfl, hm⟩
    · obtain ⟨cells, hcells⟩ := own_typed ho _ hi
      rw [hb] at hcells; injection hcells with hcells; injection hcells with _ ht; cases ht
    · simp [Value.ownBlock] at hi
  have hmap : ∀ i, mblk mv = some i → i ≠ S.loc q := by
    rintro i hi rfl
    rcases hk with ⟨rfl, h8, A, cp, rfl, ho⟩ | ⟨m, rfl, hlm, rfl, D, hm, _⟩
    · simp [mblk] at hi
    · simp [mblk] at hi
      subst hi
      obtain ⟨es, clock, hm', _⟩ := hm
      rw [hb] at hm'
      cases hm'
  have hfq : ∀ i, foot ((w.setCell ⟨S.loc q, 0, none⟩ (.pointer (some pa))).setCell ⟨S.loc q, 1, none⟩ (.pointer (some ha))) (S.loc q) i ↔ foot w (S.loc q) i := fun i => by rw [foot_iff hb2, foot_iff hb]
  have other : ∀ r, r ∈ S.dom → r ≠ q → NodeAt ((w.setCell ⟨S.loc q, 0, none⟩ (.pointer (some pa))).setCell ⟨S.loc q, 1, none⟩ (.pointer (some ha))) lo (S.loc r) (pv (S.pat r)) (hv (S.pat r)) (S.kids r) (S.ch r none) (S.ch r eK) ∧
      ∀ i, foot ((w.setCell ⟨S.loc q, 0, none⟩ (.pointer (some pa))).setCell ⟨S.loc q, 1, none⟩ (.pointer (some ha))) (S.loc r) i ↔ foot w (S.loc r) i := by
    intro r hr hrq
    exact (T.node r hr).move (fun i hi => hblk i (by rintro rfl; exact hrq (T.disj r hr q hq _ hi (.inl rfl))))
  have hfoot : ∀ r, r ∈ S.dom → ∀ i, foot ((w.setCell ⟨S.loc q, 0, none⟩ (.pointer (some pa))).setCell ⟨S.loc q, 1, none⟩ (.pointer (some ha))) (S.loc r) i ↔ foot w (S.loc r) i := by
    intro r hr i
    by_cases e : r = q
    · rw [e]; exact hfq i
    · exact (other r hr e).2 i
  refine ⟨rfl, ⟨⟨T.root, T.closed, ?_, T.keys, fun r hr r' hr' i h h' => T.disj r hr r' hr' i ((hfoot r hr i).1 h) ((hfoot r' hr' i).1 h'), ?_⟩, ?_, ?_, fun _ _ => rfl⟩⟩
  · intro r hr
    show NodeAt _ lo (S.loc r) (pv (up S.pat q (some (pa, ha)) r)) (hv (up S.pat q (some (pa, ha)) r)) (S.kids r) (S.ch r none) (S.ch r eK)
    by_cases e : r = q
    · subst e
      rw [up_same]
      exact ⟨hlb, sv, mv, hb2, hk.move (fun i hi => hblk i (hown i hi)) (fun i hi => hblk i (hmap i hi))⟩
    · rw [up_other _ _ e]
      exact (other r hr e).1
  · intro r hr
    show up S.pat q (some (pa, ha)) r = none
    rw [up_other _ _ (by rintro rfl; exact hr hq)]
    exact T.patn r hr
  · exact (((Fr.refl w _).setCell _ _ (.inl ⟨q, hq, .inl rfl⟩)).setCell _ _ (.inl ⟨q, hq, .inl rfl⟩))
  · rintro i ⟨r, hr, hi⟩
    exact .inl ⟨r, hr, (hfoot r hr i).1 hi⟩
/-- Making the child for all that is left. -/
theorem tree_multi {w : World} {lo : Nat} {S : TS} (T : Tree w lo S) (q : Path) (hq : q ∈ S.dom) (hx : q ++ [none] ∉ S.dom) (hlo : lo ≤ w.heap.size) :
    Grew w ((w.alloc (.cells #[.pointer none, .pointer none, .slice none 0 0, .map none, .pointer none, .pointer none] 73)).setCell ⟨S.loc q, 4, none⟩ (.pointer (some ⟨w.heap.size, 0, none⟩))) lo S (S.add q none w.heap.size) := by
  obtain ⟨hlb, sv, mv, hb, hk⟩ := T.node q hq
  have hbw := blk_lt hb
  have NN := new_node w lo hlo
  have hb1 := blk_alloc hb (.cells #[.pointer none, .pointer none, .slice none 0 0, .map none, .pointer none, .pointer none] 73)
  have hb2 := blk_put hb1 4 (.pointer (some ⟨w.heap.size, 0, none⟩)) rfl
  have NM := NN.1.move (w' := (w.alloc (.cells #[.pointer none, .pointer none, .slice none 0 0, .map none, .pointer none, .pointer none] 73)).setCell ⟨S.loc q, 4, none⟩ (.pointer (some ⟨w.heap.size, 0, none⟩)))
    (fun i hi => Below.heap_setCell _ _ _ _ (by have := NN.2 i hi; simp; omega))
  have hqx : q ≠ q ++ [none] := fun h => snoc_ne q none h.symm
  have hch := TS.add_ch S q none w.heap.size hx
  have e2 : (S.add q none w.heap.size).kids q = S.kids q := by show up _ _ _ q = _; rw [up_other _ _ hqx]
  have hfr : Fr w ((w.alloc (.cells #[.pointer none, .pointer none, .slice none 0 0, .map none, .pointer none, .pointer none] 73)).setCell ⟨S.loc q, 4, none⟩ (.pointer (some ⟨w.heap.size, 0, none⟩))) (foot w (S.loc q)) := ((Fr.refl w _).alloc _).setCell _ _ (.inl (.inl rfl))
  have G := T.grow q none w.heap.size hq hx (Nat.le_refl _) NM.1 (fun i hi => NN.2 i ((NM.2 i).1 hi)) hfr (fun i hi => by
      left
      rw [foot_iff hb]
      exact (foot_iff hb2 i).1 hi) (by
      rw [hch, hch, e2, if_pos ⟨rfl, rfl⟩, if_neg (by simp)]
      refine ⟨hlb, sv, mv, hb2, hk.move (fun i hi => ?_) (fun i hi => ?_)⟩
      · have hr : i ≠ S.loc q := by
          rintro rfl
          rcases hk with ⟨rfl, h8, A, cp, rfl, ho⟩ | ⟨m, rfl, hlm, rfl, hm⟩
          · obtain ⟨cells, hcells⟩ := own_typed ho _ hi
            rw [hb] at hcells; injection hcells with hcells; injection hcells with _ ht; cases ht
          · simp [Value.ownBlock] at hi
        rw [Below.heap_setCell _ _ _ _ hr, Below.heap_alloc _ _ _ (hk.blocks.1 i hi).2]
      · have hr : i ≠ S.loc q := by
          rintro rfl
          rcases hk with ⟨rfl, h8, A, cp, rfl, ho⟩ | ⟨m, rfl, hlm, rfl, D, hm, _⟩
          · simp [mblk] at hi
          · simp [mblk] at hi
            subst hi
            obtain ⟨es, clock, hm', _⟩ := hm
            rw [hb] at hm'
            cases hm'
        rw [Below.heap_setCell _ _ _ _ hr, Below.heap_alloc _ _ _ (hk.blocks.2 i hi).2]) (fun k hk => by cases hk)
  exact ⟨G.1, hfr.mono (fun i _ hi => ⟨q, hq, hi⟩), G.2, fun r hr => up_other _ _ (by rintro rfl; exact hx hr)⟩
/-- What addSegments (or addPattern) leaves: the way ks from q is laid, and its end is set. -/
def Laid (w w' : World) (lo : Nat) (S S' : TS) (q : Path) (ks : Path) (pa ha : Addr) : Prop :=
  Grew w w' lo S S' ∧ (∀ r, r ∈ S'.dom ↔ r ∈ S.dom ∨ ∃ j, 1 ≤ j ∧ j ≤ ks.length ∧ r = q ++ ks.take j) ∧ S'.pat = up S.pat (q ++ ks) (some (pa, ha)) ∧ S'.dom.length ≤ S.dom.length + ks.length
set_option maxHeartbeats 1000000 in
set_option maxRecDepth 100000 in
theorem segs_nil {w : World} {lo : Nat} {S : TS} (T : Tree w lo S) (q : Path) (hq : q ∈ S.dom) (hp : S.pat q = none) (A : Option Addr) (c : Nat) (pa ha : Addr) :
    Calls Tryz.prog 51 #[.pointer (some ⟨S.loc q, 0, none⟩), .slice A 0 c, .pointer (some pa), .pointer (some ha)] w fun e w' => ∃ S', e = .returned (.tuple #[]) ∧ Laid w w' lo S S' q [] pa ha := by
  have HS := Aside0.mk (tree_set T q hq hp pa ha)
  have HT := Aside0.mk T
  clear T hq hp
  go_enter Tryz.func51, Tryz.ntmps51
  go_wp2_with (go_at_call 64; refine HS.out.mono ?_; rintro e w' ⟨rfl, hg⟩; have HG := Aside0.mk hg; clear hg)
  go_returns
  refine ⟨S.put q pa ha, rfl, HG.out, fun r => ⟨fun h => .inl h, fun h => ?_⟩, ?_, Nat.le_refl _⟩
  · rcases h with h | ⟨j, h1, h2, _⟩
    · exact h
    · simp at h2; omega
  · simp [TS.put]
set_option maxHeartbeats 1000000 in
set_option maxRecDepth 100000 in
theorem segs_multi {w : World} {lo : Nat} {S : TS} (T : Tree w lo S) (q : Path) (hq : q ∈ S.dom) (hx : q ++ [none] ∉ S.dom) (hlo : lo ≤ w.heap.size) (A : Option Addr) (c : Nat) (s : S52) (hs : SegAt w A [s]) (hm : s.f2 = true) (pa ha : Addr) :
    Calls Tryz.prog 51 #[.pointer (some ⟨S.loc q, 0, none⟩), .slice A 1 c, .pointer (some pa), .pointer (some ha)] w fun e w' => ∃ S', e = .returned (.tuple #[]) ∧ Laid w w' lo S S' q [none] pa ha := by
  obtain ⟨ad, e, k0, k1, k2⟩ := hs.head
  subst e
  obtain ⟨s0, s1, s2⟩ := s
  simp only at hm
  subst hm
  simp only at k0 k1 k2
  have hu112 := Tryz.underlying112
  have hbl := World.block_lt_of_cell? w _ k0
  have hsz : (w.alloc (.cells #[.string s0, .bool s1, .bool true] 112)).heap.size = w.heap.size + 1 := by simp
  have B1 : Below w.heap.size w (w.alloc (.cells #[.string s0, .bool s1, .bool true] 112)) := below_alloc (Below.refl _ _) _
  have T1 := T.below B1
  have G := tree_multi T1.1 q hq hx (by rw [hsz]; omega)
  rw [hsz] at G
  have hb0 : ∃ sv mv ec, ((w.alloc (.cells #[.string s0, .bool s1, .bool true] 112)).alloc (.cells #[.pointer none, .pointer none, .slice none 0 0, .map none, .pointer none, .pointer none] 73)).heap[S.loc q]? = some (.cells #[pv (S.pat q), hv (S.pat q), sv, mv, .pointer none, ec] 73 (0, 0)) := by
    obtain ⟨_, sv, mv, hb, _⟩ := T.node q hq
    have hcn : S.ch q none = none := by unfold TS.ch; rw [if_neg hx]
    rw [hcn] at hb
    exact ⟨sv, mv, _, blk_alloc (blk_alloc hb _) _⟩
  obtain ⟨sv, mv, ec, hb0⟩ := hb0
  have hc4 := (blk_cell hb0 4).trans (show _ = some (.pointer none) from rfl)
  have hf4 := blk_frozen hb0 4
  have hin : q ++ [none] ∈ (S.add q none (w.heap.size + 1)).dom := List.mem_cons_self
  have hpn : (S.add q none (w.heap.size + 1)).pat (q ++ [none]) = none := T.patn _ hx
  have HS := tree_set G.tree (q ++ [none]) hin hpn pa ha
  have hloc : (S.add q none (w.heap.size + 1)).loc (q ++ [none]) = w.heap.size + 1 := up_same _ _ _
  rw [hloc] at HS
  have HS := Aside0.mk HS
  have HG := Aside0.mk G
  have HT := Aside0.mk T
  have HT1 := Aside0.mk T1
  have HB1 := Aside0.mk B1
  clear T T1 B1 G hq hx hlo hs hb0 hsz hin hpn hloc
  go_enter Tryz.func51, Tryz.ntmps51
  go_wp2_with (go_at_call 64; refine HS.out.mono ?_; rintro e w' ⟨rfl, hg⟩; have HG2 := Aside0.mk hg; clear hg)
  go_end0
  have G0 : Grew w (w.alloc (.cells #[.string s0, .bool s1, .bool true] 112)) lo S S := ⟨HT1.out.1, Fr.of_below HB1.out _, fun i hi => .inl ((HT1.out.2 i).1 hi), fun _ _ => rfl⟩
  refine ⟨_, rfl, (G0.trans HG.out (fun _ h => h)).trans HG2.out (fun r h => List.mem_cons_of_mem _ h), fun r => ?_, rfl, Nat.le_refl _⟩
  show r ∈ (q ++ [none]) :: S.dom ↔ _
  rw [List.mem_cons]
  constructor
  · rintro (h | h)
    · exact .inr ⟨1, Nat.le_refl _, Nat.le_refl _, h⟩
    · exact .inl h
  · rintro (h | ⟨j, h1, h2, h⟩)
    · exact .inr h
    · have : j = 1 := by simp at h2; omega
      subst this
      exact .inl h
theorem laid_cons {w w1 w2 : World} {lo : Nat} {S S1 S2 : TS} {q : Path} {x : Key} {ks : Path} {pa ha : Addr} (h1 : Grew w w1 lo S S1) (hd1 : ∀ r, r ∈ S1.dom ↔ r ∈ S.dom ∨ r = q ++ [x]) (hp1 : S1.pat = S.pat) (hl1 : S1.dom.length ≤ S.dom.length + 1)
    (h2 : Laid w1 w2 lo S1 S2 (q ++ [x]) ks pa ha) : Laid w w2 lo S S2 q (x :: ks) pa ha := by
  obtain ⟨g2, d2, p2, l2⟩ := h2
  refine ⟨h1.trans g2 (fun r h => (hd1 r).2 (.inl h)), fun r => ?_, ?_, by simp only [List.length_cons]; omega⟩
  · rw [d2, hd1]
    constructor
    · rintro ((h | h) | ⟨j, j1, j2, h⟩)
      · exact .inl h
      · exact .inr ⟨1, Nat.le_refl _, by simp, by simpa using h⟩
      · exact .inr ⟨j + 1, by omega, by simp; omega, by simpa using h⟩
    · rintro (h | ⟨j, j1, j2, h⟩)
      · exact .inl (.inl h)
      · match j, j1 with
        | 1, _ => exact .inl (.inr (by simpa using h))
        | j + 2, _ => exact .inr ⟨j + 1, by omega, by simp at j2; omega, by simpa using h⟩
  · rw [p2, hp1]
    simp
set_option maxHeartbeats 2000000 in
set_option maxRecDepth 100000 in
theorem segs_wild {w : World} {lo : Nat} {S : TS} (T : Tree w lo S) (q : Path) (hq : q ∈ S.dom) (hlo : lo ≤ w.heap.size) (hd : S.dom.length < maxLen) (A : Option Addr) (c : Nat) (s : S52) (l : List S52) (hs : SegAt w A (s :: l)) (hc : (s :: l).length ≤ c) (hm : s.f2 = false) (hw : s.f1 = true) (pa ha : Addr)
    (IH : ∀ (w1 : World) (S1 : TS), Tree w1 lo S1 → (q ++ [eK]) ∈ S1.dom → SegAt w1 (if c = 1 then A else A.map (·.add 3)) l → lo ≤ w1.heap.size → (∀ r, r ∈ S1.dom ↔ r ∈ S.dom ∨ r = q ++ [eK]) → S1.pat = S.pat → S1.dom.length ≤ S.dom.length + 1 →
      Calls Tryz.prog 51 #[.pointer (some ⟨S1.loc (q ++ [eK]), 0, none⟩), .slice (if c = 1 then A else A.map (·.add 3)) l.length (c - 1), .pointer (some pa), .pointer (some ha)] w1 fun e w' => ∃ S', e = .returned (.tuple #[]) ∧ Laid w1 w' lo S1 S' (q ++ [eK]) (keysOf l) pa ha) :
    Calls Tryz.prog 51 #[.pointer (some ⟨S.loc q, 0, none⟩), .slice A (s :: l).length c, .pointer (some pa), .pointer (some ha)] w fun e w' => ∃ S', e = .returned (.tuple #[]) ∧ Laid w w' lo S S' q (keysOf (s :: l)) pa ha := by
  have hke : keysOf (s :: l) = eK :: keysOf l := by simp [keysOf, segKey, hm, hw]
  rw [hke]
  have hs' := hs.tail hc
  obtain ⟨ad, e, k0, k1, k2⟩ := hs.head
  subst e
  obtain ⟨s0, s1, s2⟩ := s
  simp only at hm hw
  subst hm hw
  simp only at k0 k1 k2
  have hu112 := Tryz.underlying112
  have hbl := World.block_lt_of_cell? w _ k0
  have B1 : Below w.heap.size w (w.alloc (.cells #[.string s0, .bool true, .bool false] 112)) := below_alloc (Below.refl _ _) _
  have T1 := T.below B1
  have hlen : ((({ f0 := s0, f1 := true, f2 := false } : S52) :: l).length : Int) = (l.length : Int) + 1 := by simp
  have hc' : l.length + 1 ≤ c := by simpa using hc
  have HC := tree_addChild (T1.1.below (w' := (w.alloc (.cells #[.string s0, .bool true, .bool false] 112)).drew) (Below.refl _ _).drew).1 q hq ⟨#[]⟩ (by simp [maxLen]; decide) (by simp; omega) hd
  have HG0 : Aside0 (Grew w (w.alloc (.cells #[.string s0, .bool true, .bool false] 112)).drew lo S S) := ⟨⟨(T1.1.below (Below.refl _ _).drew).1, (Fr.of_below B1 _).drew, fun i hi => .inl ((T1.2 i).1 (((T1.1.below (Below.refl _ _).drew).2 i).1 hi)), fun _ _ => rfl⟩⟩
  have HC := Aside0.mk HC
  have HI := Aside0.mk IH
  have HS' := Aside0.mk hs'
  have HT := Aside0.mk T
  have HT1 := Aside0.mk T1
  have HB1 := Aside0.mk B1
  have HLO := Aside0.mk hlo
  clear T T1 B1 hlo hs hs' IH hq hd hc
  simp only [List.length_cons]
  clear hlen hke
  by_cases hc1 : c = 1
  · subst hc1
    obtain rfl : l = [] := List.eq_nil_of_length_eq_zero (by omega)
    simp only [if_true, List.length_nil, Nat.sub_self] at HI HS'
    go_enter Tryz.func51, Tryz.ntmps51
    go_wp2_with fail
    go_region_with (first
      | (go_at_call 50; refine HC.out.mono ?_; rintro e w1 ⟨S1, rfl, hg, hd1, hp1, hl1⟩; have HG := Aside0.mk hg; have HD1 := Aside0.mk hd1; have HP1 := Aside0.mk hp1; have HL1 := Aside0.mk hl1; clear hg hd1 hp1 hl1)
      | (go_at_call 51; refine (HI.out w1 S1 HG.out.tree ((HD1.out _).2 (.inr rfl)) (((HS'.out.below HB1.out).below (Below.refl _ _).drew).fr (HT1.out.1.below (Below.refl _ _).drew).1 HG.out.fr) (by have := HG.out.fr.size; simp at this; have := HLO.out; omega) HD1.out HP1.out HL1.out).mono ?_; rintro e w2 ⟨S2, rfl, hl2⟩; have HL2 := Aside0.mk hl2; clear hl2))
    all_goals go_returns
    all_goals exact ⟨S2, rfl, laid_cons (HG0.out.trans HG.out (fun _ h => h)) HD1.out HP1.out HL1.out HL2.out⟩
  · simp only [if_neg hc1, Option.map_some] at HI HS'
    go_enter Tryz.func51, Tryz.ntmps51
    go_wp2_with fail
    go_region_with (first
      | (go_at_call 50; refine HC.out.mono ?_; rintro e w1 ⟨S1, rfl, hg, hd1, hp1, hl1⟩; have HG := Aside0.mk hg; have HD1 := Aside0.mk hd1; have HP1 := Aside0.mk hp1; have HL1 := Aside0.mk hl1; clear hg hd1 hp1 hl1)
      | (go_at_call 51; refine (HI.out w1 S1 HG.out.tree ((HD1.out _).2 (.inr rfl)) (((HS'.out.below HB1.out).below (Below.refl _ _).drew).fr (HT1.out.1.below (Below.refl _ _).drew).1 HG.out.fr) (by have := HG.out.fr.size; simp at this; have := HLO.out; omega) HD1.out HP1.out HL1.out).mono ?_; rintro e w2 ⟨S2, rfl, hl2⟩; have HL2 := Aside0.mk hl2; clear hl2))
    all_goals go_returns
    all_goals exact ⟨S2, rfl, laid_cons (HG0.out.trans HG.out (fun _ h => h)) HD1.out HP1.out HL1.out HL2.out⟩
set_option maxHeartbeats 2000000 in
set_option maxRecDepth 100000 in
theorem segs_lit {w : World} {lo : Nat} {S : TS} (T : Tree w lo S) (q : Path) (hq : q ∈ S.dom) (hlo : lo ≤ w.heap.size) (hd : S.dom.length < maxLen) (A : Option Addr) (c : Nat) (s : S52) (l : List S52) (hs : SegAt w A (s :: l)) (hc : (s :: l).length ≤ c) (hm : s.f2 = false) (hw : s.f1 = false) (hz : s.f0.size ≤ maxLen) (pa ha : Addr)
    (IH : ∀ (w1 : World) (S1 : TS), Tree w1 lo S1 → (q ++ [some s.f0]) ∈ S1.dom → SegAt w1 (if c = 1 then A else A.map (·.add 3)) l → lo ≤ w1.heap.size → (∀ r, r ∈ S1.dom ↔ r ∈ S.dom ∨ r = q ++ [some s.f0]) → S1.pat = S.pat → S1.dom.length ≤ S.dom.length + 1 →
      Calls Tryz.prog 51 #[.pointer (some ⟨S1.loc (q ++ [some s.f0]), 0, none⟩), .slice (if c = 1 then A else A.map (·.add 3)) l.length (c - 1), .pointer (some pa), .pointer (some ha)] w1 fun e w' => ∃ S', e = .returned (.tuple #[]) ∧ Laid w1 w' lo S1 S' (q ++ [some s.f0]) (keysOf l) pa ha) :
    Calls Tryz.prog 51 #[.pointer (some ⟨S.loc q, 0, none⟩), .slice A (s :: l).length c, .pointer (some pa), .pointer (some ha)] w fun e w' => ∃ S', e = .returned (.tuple #[]) ∧ Laid w w' lo S S' q (keysOf (s :: l)) pa ha := by
  have hke : keysOf (s :: l) = some s.f0 :: keysOf l := by simp [keysOf, segKey, hm, hw]
  rw [hke]
  clear hke
  have hs' := hs.tail hc
  obtain ⟨ad, e, k0, k1, k2⟩ := hs.head
  subst e
  obtain ⟨s0, s1, s2⟩ := s
  simp only at hm hw hz IH
  subst hm hw
  simp only at k0 k1 k2
  have hu112 := Tryz.underlying112
  have hbl := World.block_lt_of_cell? w _ k0
  have B1 : Below w.heap.size w (w.alloc (.cells #[.string s0, .bool false, .bool false] 112)) := below_alloc (Below.refl _ _) _
  have T1 := T.below B1
  have hlen : ((({ f0 := s0, f1 := false, f2 := false } : S52) :: l).length : Int) = (l.length : Int) + 1 := by simp
  have hc' : l.length + 1 ≤ c := by simpa using hc
  have HC := tree_addChild (T1.1.below (w' := (w.alloc (.cells #[.string s0, .bool false, .bool false] 112)).drew) (Below.refl _ _).drew).1 q hq s0 hz (by simp; omega) hd
  have HG0 : Aside0 (Grew w (w.alloc (.cells #[.string s0, .bool false, .bool false] 112)).drew lo S S) := ⟨⟨(T1.1.below (Below.refl _ _).drew).1, (Fr.of_below B1 _).drew, fun i hi => .inl ((T1.2 i).1 (((T1.1.below (Below.refl _ _).drew).2 i).1 hi)), fun _ _ => rfl⟩⟩
  have HC := Aside0.mk HC
  have HI := Aside0.mk IH
  have HS' := Aside0.mk hs'
  have HT := Aside0.mk T
  have HT1 := Aside0.mk T1
  have HB1 := Aside0.mk B1
  have HLO := Aside0.mk hlo
  clear T T1 B1 hlo hs hs' IH hq hd hc
  simp only [List.length_cons]
  clear hlen hz
  by_cases hc1 : c = 1
  · subst hc1
    obtain rfl : l = [] := List.eq_nil_of_length_eq_zero (by omega)
    simp only [if_true, List.length_nil, Nat.sub_self] at HI HS'
    go_enter Tryz.func51, Tryz.ntmps51
    go_wp2_with fail
    go_region_with (first
      | (go_at_call 50; refine HC.out.mono ?_; rintro e w1 ⟨S1, rfl, hg, hd1, hp1, hl1⟩; have HG := Aside0.mk hg; have HD1 := Aside0.mk hd1; have HP1 := Aside0.mk hp1; have HL1 := Aside0.mk hl1; clear hg hd1 hp1 hl1)
      | (go_at_call 51; refine (HI.out w1 S1 HG.out.tree ((HD1.out _).2 (.inr rfl)) (((HS'.out.below HB1.out).below (Below.refl _ _).drew).fr (HT1.out.1.below (Below.refl _ _).drew).1 HG.out.fr) (by have := HG.out.fr.size; simp at this; have := HLO.out; omega) HD1.out HP1.out HL1.out).mono ?_; rintro e w2 ⟨S2, rfl, hl2⟩; have HL2 := Aside0.mk hl2; clear hl2))
    all_goals go_returns
    all_goals exact ⟨S2, rfl, laid_cons (HG0.out.trans HG.out (fun _ h => h)) HD1.out HP1.out HL1.out HL2.out⟩
  · simp only [if_neg hc1, Option.map_some] at HI HS'
    go_enter Tryz.func51, Tryz.ntmps51
    go_wp2_with fail
    go_region_with (first
      | (go_at_call 50; refine HC.out.mono ?_; rintro e w1 ⟨S1, rfl, hg, hd1, hp1, hl1⟩; have HG := Aside0.mk hg; have HD1 := Aside0.mk hd1; have HP1 := Aside0.mk hp1; have HL1 := Aside0.mk hl1; clear hg hd1 hp1 hl1)
      | (go_at_call 51; refine (HI.out w1 S1 HG.out.tree ((HD1.out _).2 (.inr rfl)) (((HS'.out.below HB1.out).below (Below.refl _ _).drew).fr (HT1.out.1.below (Below.refl _ _).drew).1 HG.out.fr) (by have := HG.out.fr.size; simp at this; have := HLO.out; omega) HD1.out HP1.out HL1.out).mono ?_; rintro e w2 ⟨S2, rfl, hl2⟩; have HL2 := Aside0.mk hl2; clear hl2))
    all_goals go_returns
    all_goals exact ⟨S2, rfl, laid_cons (HG0.out.trans HG.out (fun _ h => h)) HD1.out HP1.out HL1.out HL2.out⟩
/-- addSegments, whatever the segments. -/
theorem segs_any {lo : Nat} (pa ha : Addr) : ∀ (l : List S52) (A : Option Addr) (c : Nat) (w : World) (S : TS) (q : Path), Tree w lo S → q ∈ S.dom → SegAt w A l → l.length ≤ c → lo ≤ w.heap.size →
    (∀ s ∈ l, s.f0.size ≤ maxLen) → (∀ i (hi : i < l.length), (l[i]).f2 = true → i + 1 = l.length) → S.pat (q ++ keysOf l) = none → (∀ r, r ++ [none] ∈ S.dom → S.pat (r ++ [none]) ≠ none) → S.dom.length + l.length < maxLen →
    Calls Tryz.prog 51 #[.pointer (some ⟨S.loc q, 0, none⟩), .slice A l.length c, .pointer (some pa), .pointer (some ha)] w fun e w' => ∃ S', e = .returned (.tuple #[]) ∧ Laid w w' lo S S' q (keysOf l) pa ha := by
  intro l
  induction l with
  | nil =>
    intro A c w S q T hq hs hc hlo hz hm hp hmu hd
    exact segs_nil T q hq (by simpa [keysOf] using hp) A c pa ha
  | cons s l ih =>
    intro A c w S q T hq hs hc hlo hz hm hp hmu hd
    by_cases h2 : s.f2 = true
    · obtain rfl : l = [] := by
        have := hm 0 (by simp) (by simpa using h2)
        exact List.eq_nil_of_length_eq_zero (by simpa using this)
      have hke : keysOf [s] = [none] := by simp [keysOf, segKey, h2]
      rw [hke] at hp ⊢
      exact segs_multi T q hq (fun h => hmu q h hp) hlo A c s hs h2 pa ha
    · replace h2 := Bool.eq_false_iff.mpr h2
      have IH : ∀ (x : Key), segKey s = x → ∀ (w1 : World) (S1 : TS), Tree w1 lo S1 → (q ++ [x]) ∈ S1.dom → SegAt w1 (if c = 1 then A else A.map (·.add 3)) l → lo ≤ w1.heap.size → (∀ r, r ∈ S1.dom ↔ r ∈ S.dom ∨ r = q ++ [x]) → S1.pat = S.pat → S1.dom.length ≤ S.dom.length + 1 →
          Calls Tryz.prog 51 #[.pointer (some ⟨S1.loc (q ++ [x]), 0, none⟩), .slice (if c = 1 then A else A.map (·.add 3)) l.length (c - 1), .pointer (some pa), .pointer (some ha)] w1 fun e w' => ∃ S', e = .returned (.tuple #[]) ∧ Laid w1 w' lo S1 S' (q ++ [x]) (keysOf l) pa ha := by
        intro x hx w1 S1 T1 hq1 hs1 hlo1 hd1 hp1 hl1
        refine ih _ _ w1 S1 _ T1 hq1 hs1 (by simp at hc; omega) hlo1 (fun y hy => hz y (List.mem_cons_of_mem _ hy)) (fun i hi he => ?_) ?_ ?_ (by simp at hd; omega)
        · have := hm (i + 1) (by simp; omega) (by simpa using he)
          simpa using this
        · rw [hp1]
          have : q ++ [x] ++ keysOf l = q ++ keysOf (s :: l) := by simp [keysOf, hx]
          rw [this]
          exact hp
        · intro r hr
          rw [hp1]
          rcases (hd1 _).1 hr with h | h
          · exact hmu r h
          · obtain ⟨_, hxn⟩ := snoc_inj h
            rw [← hxn] at hx
            exfalso
            revert hx
            unfold segKey
            rw [h2]
            cases s.f1 <;> simp [eK]
      by_cases h1 : s.f1 = true
      · exact segs_wild T q hq hlo (by simp at hd; omega) A c s l hs hc h2 h1 pa ha (IH eK (by simp [segKey, h1, h2]))
      · replace h1 := Bool.eq_false_iff.mpr h1
        exact segs_lit T q hq hlo (by simp at hd; omega) A c s l hs hc h2 h1 (hz s (by simp)) pa ha (IH (some s.f0) (by simp [segKey, h1, h2]))
end Go.Proofs.YtcedefabmelogaaGreatDoor.H
