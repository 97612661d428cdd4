/- Nodes of the tree of patterns: what lies where, (*mapping).find, mapping.add. -/
import Derived.Test.YtcedefabmelogaaGreatDoorV02
import Derived.WalkLawsBesides
import Derived.WalkSpells
import Derived.Maps.OwnOps
import Derived.Maps.OwnSet
import Derived.Maps.RangeWalk
import Derived.Maps.StringElems
import Derived.StillTailTactics
/- Plain words for the routing tree: a node's children as a list of keys and blocks. -/
namespace Go.Proofs.YtcedefabmelogaaGreatDoor.H
set_option maxRecDepth 100000
open Go.RowKit Go.WideMaps Go.WideElems Go.Proofs.YtcedefabmelogaaGreatDoorW.PrintWords
/-- A pointer to the head of a block, or nil. -/
def ptr : Option Nat → Value
  | none => .pointer none
  | some b => .pointer (some ⟨b, 0, none⟩)
theorem ptr_none : ptr none = .pointer none := rfl
theorem ptr_some (b : Nat) : ptr (some b) = .pointer (some ⟨b, 0, none⟩) := rfl
theorem eqMap69 (w : World) (r : Option Nat) : (binOp .eql 69 (.map r) (.map none)).run Tryz.prog w = .ok (.bool r.isNone) w := run_eql_map_nil w 69 9 57 r Tryz.underlying69
theorem neqMap69 (w : World) (r : Option Nat) : (binOp .neq 69 (.map r) (.map none)).run Tryz.prog w = .ok (.bool (!r.isNone)) w := run_neq_map_nil w 69 9 57 r Tryz.underlying69
/-- The cells of a list of entries. -/
def flat : List (ByteArray × Nat) → List Value
  | [] => []
  | x :: l => .string x.1 :: .pointer (some ⟨x.2, 0, none⟩) :: flat l
theorem flat_length : ∀ l : List (ByteArray × Nat), (flat l).length = l.length * 2
  | [] => rfl
  | x :: l => by simp [flat, flat_length l]; omega
theorem flat_append : ∀ l m : List (ByteArray × Nat), flat (l ++ m) = flat l ++ flat m
  | [], m => rfl
  | x :: l, m => by simp [flat, flat_append l m]
theorem flat_get0 : ∀ (l : List (ByteArray × Nat)) (i : Nat) (h : i < l.length), (flat l)[i * 2]? = some (.string (l[i]).1)
  | x :: l, 0, _ => by simp [flat]
  | x :: l, i + 1, h => by
    have := flat_get0 l i (by simpa using h)
    rw [show (i + 1) * 2 = i * 2 + 1 + 1 by omega]
    simpa [flat] using this
theorem flat_get1 : ∀ (l : List (ByteArray × Nat)) (i : Nat) (h : i < l.length), (flat l)[i * 2 + 1]? = some (.pointer (some ⟨(l[i]).2, 0, none⟩))
  | x :: l, 0, _ => by simp [flat]
  | x :: l, i + 1, h => by
    have := flat_get1 l i (by simpa using h)
    rw [show (i + 1) * 2 + 1 = i * 2 + 1 + 1 + 1 by omega]
    simpa [flat] using this
/-- The block of a key, if it is there. -/
def look : List (ByteArray × Nat) → ByteArray → Option Nat
  | [], _ => none
  | x :: l, k => if x.1 = k then some x.2 else look l k
theorem look_take_succ (l : List (ByteArray × Nat)) (k : ByteArray) (i : Nat) (h : i < l.length) (h0 : look (l.take i) k = none) : look (l.take (i + 1)) k = if (l[i]).1 = k then some (l[i]).2 else none := by
  induction l generalizing i with
  | nil => simp at h
  | cons x l ih =>
    cases i with
    | zero => simp [look]
    | succ i =>
      simp only [List.take_succ_cons, look] at h0 ⊢
      by_cases hx : x.1 = k
      · simp [hx] at h0
      · simp only [if_neg hx] at h0 ⊢
        have := ih i (by simpa using h) h0
        simpa using this
theorem look_hit (l : List (ByteArray × Nat)) (k : ByteArray) (i : Nat) (h : i < l.length) (h0 : look (l.take i) k = none) (hk : (l[i]).1 = k) : look l k = some (l[i]).2 := by
  induction l generalizing i with
  | nil => simp at h
  | cons x l ih =>
    cases i with
    | zero => simp [look] at hk ⊢; simp [hk]
    | succ i =>
      simp only [List.take_succ_cons, look] at h0 ⊢
      by_cases hx : x.1 = k
      · simp [hx] at h0
      · simp only [if_neg hx] at h0 ⊢
        have := ih i (by simpa using h) h0 (by simpa using hk)
        simpa using this
/-- An owned row of entries: its cells. -/
theorem own_kids {w : World} {base n c : Nat} {A : Option Addr} {kids : List (ByteArray × Nat)} (h : w.ownsRow base 124 2 (.slice A n c) n (flat kids)) (i : Nat) (hi : i < kids.length) :
    ∃ g, A = some ⟨g, 0, none⟩ ∧ w.cell? ⟨g, i * 2, none⟩ = some (.string (kids[i]).1) ∧ w.cell? ⟨g, i * 2 + 1, none⟩ = some (.pointer (some ⟨(kids[i]).2, 0, none⟩)) := by
  have hl := h.1
  rw [flat_length] at hl
  obtain ⟨g, cap, he, _, _⟩ := h.form (by omega)
  injection he with hA _ _
  subst hA
  have c0 := h.cells (g := g) rfl (i * 2) _ (flat_get0 kids i hi)
  have c1 := h.cells (g := g) rfl (i * 2 + 1) _ (flat_get1 kids i hi)
  rw [add_plain] at c0 c1
  exact ⟨g, rfl, c0, c1⟩
theorem str_eq (a b : ByteArray) : (a.toList == b.toList) = decide (a = b) := by
  by_cases h : a = b
  · simp [h]
  · have : a.toList ≠ b.toList := fun e => h (WideShapes.bytes_inj (by rw [← ByteArray.toList_eq, ← ByteArray.toList_eq]; exact e))
    simp [h, this]
theorem str_empty (a : ByteArray) : a.toList.isEmpty = decide (a = ⟨#[]⟩) := by
  have := str_eq a ⟨#[]⟩
  rw [← this]
  have e : (⟨#[]⟩ : ByteArray).toList = [] := by rw [ByteArray.toList_eq]
  rw [e]
  cases a.toList <;> rfl
/-- A string as a key of a map's datum. -/
def kl (s : ByteArray) : Lit := .string s.data.toList
theorem kl_inj {a b : ByteArray} (h : kl a = kl b) : a = b := by
  unfold kl at h
  injection h with h
  exact WideShapes.bytes_inj h
theorem kl_key (a : ByteArray) : WideAt.IsKeyLit (kl a) := trivial
theorem K9 : Maps.Keyed Tryz.prog 9 := Maps.string_keyed Tryz.underlying9
theorem key9 (s : ByteArray) (h : s.size ≤ maxLen) : keyOf Tryz.prog 9 (.string s) = some (kl s) := by
  rw [keyOf_string Tryz.underlying9]
  simp [mapKey, Tryz.underlying9, kl, h]
/-- How a pointer reads as a map's element: by its block's number. -/
def RP : Value → Option (DataW Unit × List MemPlace)
  | .pointer none => some (.nil, [])
  | .pointer (some ⟨b, 0, none⟩) => some (.lit (.int .i64 b), [])
  | _ => none
theorem RP_ptr (o : Option Nat) : RP (ptr o) = some (match o with | none => .nil | some b => .lit (.int .i64 b), []) := by cases o <;> rfl
theorem RP_inv {v : Value} {y : DataW Unit × List MemPlace} (h : RP v = some y) : ∃ o, v = ptr o := by
  unfold RP at h
  split at h
  · exact ⟨none, rfl⟩
  · rename_i b; exact ⟨some b, rfl⟩
  · cases h
/-- The datum D of a map says what the list of children says. -/
structure Says (D : DataW Unit) (kids : List (ByteArray × Nat)) : Prop where
  has : ∀ k, Maps.has D (kl k) = (look kids k).isSome
  at_ : ∀ k c, look kids k = some c → ∀ z, D.atKey (kl k) z = .lit (.int .i64 c)
/-- Block m is a map that holds just these children. -/
def MapK (w : World) (m : Nat) (kids : List (ByteArray × Nat)) : Prop := ∃ D, w.ownsMap Tryz.prog 9 RP m kids.length D ∧ Says D kids
/-- The two forms of a node's children: a row of entries (slot s), or a map (slot m). -/
def Kids (w : World) (lo : Nat) (sv mv : Value) (kids : List (ByteArray × Nat)) : Prop :=
  (mv = .map none ∧ kids.length ≤ 8 ∧ ∃ A c, sv = .slice A kids.length c ∧ w.ownsRow lo 124 2 (.slice A kids.length c) kids.length (flat kids)) ∨
  (∃ m, mv = .map (some m) ∧ lo ≤ m ∧ sv = .slice none 0 0 ∧ MapK w m kids)
theorem look_mem {kids : List (ByteArray × Nat)} {k : ByteArray} {c : Nat} (h : look kids k = some c) : (k, c) ∈ kids := by
  induction kids with
  | nil => simp [look] at h
  | cons x l ih =>
    simp only [look] at h
    split at h
    · rename_i hx
      injection h with h
      subst hx h
      simp
    · exact List.mem_cons_of_mem _ (ih h)
end Go.Proofs.YtcedefabmelogaaGreatDoor.H
/- The walk of (*mapping).find over a slice of entries. -/
namespace Go.Proofs.YtcedefabmelogaaGreatDoor.H
open Go.RowKit Go.Proofs.YtcedefabmelogaaGreatDoorW.PrintWords Go.Proofs.YtcedefabmelogaaGreatDoorW.PrintLast Go.Proofs.YtcedefabmelogaaGreatDoorW.PrintMore
attribute [local go_sem] eqMap69 neqMap69
set_option linter.unusedVariables false
set_option linter.unusedSimpArgs false
set_option maxHeartbeats 1000000 in
set_option maxRecDepth 100000 in
theorem find_slice (b : Nat) (w : World) (p h mc ec : Value) (A : Option Addr) (c : Nat) (kids : List (ByteArray × Nat)) (key : ByteArray)
    (hb : w.heap[b]? = some (.cells #[p, h, .slice A kids.length c, .map none, mc, ec] 73 (0, 0)))
    (ho : w.ownsRow 0 124 2 (.slice A kids.length c) kids.length (flat kids)) (hk8 : kids.length ≤ 8) :
    Calls Tryz.prog 53 #[.pointer (some ⟨b, 2, none⟩), .string key] w fun e w' => (∃ f : Bool, e = .returned (.tuple #[ptr (look kids key), .bool f])) ∧ Below w.heap.size w w' := by
  have hc2 : w.cell? ⟨b, 2, none⟩ = some (.slice A kids.length c) := (blk_cell hb 2).trans rfl
  have hc3 : w.cell? ⟨b, 3, none⟩ = some (.map none) := (blk_cell hb 3).trans rfl
  have HB := Aside0.mk hb
  have HO := Aside0.mk ho
  clear hb ho
  go_enter Tryz.func53, Tryz.ntmps53
  go_wp2
  go_loopw [4, 32] (fun v4 v wr => ∃ i : Nat, i ≤ kids.length ∧ v4 = .pointer none ∧ v = .int .i64 i ∧ Aside0 (look (kids.take i) key = none) ∧ Aside0 (Below w.heap.size w wr)) (fun _ v _ => kids.length - (intOf v).toNat)
  case atStart => exact ⟨0, Nat.zero_le _, rfl, rfl, ⟨rfl⟩, ⟨Below.refl _ _⟩⟩
  case round =>
    obtain ⟨i, hi, rfl, rfl, HL, HW⟩ := hrel
    by_cases hlt : i < kids.length
    · obtain ⟨g, rfl, k0, k1⟩ := own_kids HO.out i hlt
      replace k0 := (HW.out.cell (World.block_lt_of_cell? w _ k0)).trans k0
      replace k1 := (HW.out.cell (World.block_lt_of_cell? w _ k1)).trans k1
      by_cases hk : (kids[i]).1 = key
      · have hkb : ((kids[i]).1.toList == key.toList) = true := by rw [str_eq]; simp [hk]
        have HK := Aside0.mk hk
        clear hk
        go_wp2
        go_ret2
        exact ⟨⟨true, by rw [look_hit kids key i hlt HL.out HK.out]; rfl⟩, by exact (HW.out.alloc HW.out.size _)⟩
      · have hkb : ((kids[i]).1.toList == key.toList) = false := by rw [str_eq]; simp [hk]
        have HK := Aside0.mk hk
        clear hk
        go_wp2
        go_roundw
        case rel => exact ⟨i + 1, by omega, rfl, by go_num, ⟨by rw [look_take_succ kids key i hlt HL.out, if_neg HK.out]⟩, ⟨HW.out.alloc HW.out.size _⟩⟩
        case measure => simp [intOf]; omega
    · have he : look kids key = none := by have := HL.out; rwa [List.take_of_length_le (by omega)] at this
      have HE := Aside0.mk he
      clear he
      go_wp2
      go_ret2
      exact ⟨⟨false, by rw [HE.out]; rfl⟩, HW.out⟩
theorem zero57 (w : World) : (zeroValue 57).run Tryz.prog w = .ok (.pointer none) w := by kernel_rfl
theorem look_of_reads {D : DataW Unit} {kids : List (ByteArray × Nat)} (hS : Says D kids) (key : ByteArray) {v : Value} {ps : List MemPlace} (hv : RP v = some (D.atKey (kl key) .nil, ps)) : v = ptr (look kids key) := by
  obtain ⟨o, rfl⟩ := RP_inv hv
  rw [RP_ptr] at hv
  cases hl : look kids key with
  | none =>
    have hh := hS.has key
    rw [hl] at hh
    rw [Maps.atKey_of_not_has hh] at hv
    cases o with
    | none => rfl
    | some b => simp at hv
  | some c =>
    rw [hS.at_ key c hl] at hv
    cases o with
    | none => simp at hv
    | some b => simp at hv; obtain ⟨hv, _⟩ := hv; rw [Int.ofNat_inj.mp hv]
set_option maxHeartbeats 1000000 in
set_option maxRecDepth 100000 in
theorem find_map (b m : Nat) (w : World) (p h sv mc ec : Value) (kids : List (ByteArray × Nat)) (key : ByteArray) (hks : key.size ≤ maxLen)
    (hb : w.heap[b]? = some (.cells #[p, h, sv, .map (some m), mc, ec] 73 (0, 0))) (hm : MapK w m kids) :
    Calls Tryz.prog 53 #[.pointer (some ⟨b, 2, none⟩), .string key] w fun e w' => (∃ f : Bool, e = .returned (.tuple #[ptr (look kids key), .bool f])) ∧ Below w.heap.size w w' := by
  have hc2 : w.cell? ⟨b, 2, none⟩ = some sv := (blk_cell hb 2).trans rfl
  have hc3 : w.cell? ⟨b, 3, none⟩ = some (.map (some m)) := (blk_cell hb 3).trans rfl
  obtain ⟨D, hown, hS⟩ := hm
  have HB := Aside0.mk hb
  have HO := Aside0.mk hown
  have HS := Aside0.mk hS
  have HK := Aside0.mk hks
  clear hb hown hS hks
  go_enter Tryz.func53, Tryz.ntmps53
  go_wp2_with (at_lookup; refine wpList_lookup_own_ok _ rfl _ _ 69 rfl 9 57 K9 Tryz.underlying69 RP (zero57 _) .nil [] rfl m kids.length D rfl HO.out _ (kl key) rfl (key9 key HK.out) ?_; intro v ps hv; obtain rfl := look_of_reads HS.out key hv; clear hv)
  go_ret2
  exact ⟨⟨_, rfl⟩, Below.refl _ _⟩
theorem find_any (b lo : Nat) (w : World) (p h sv mv mc ec : Value) (kids : List (ByteArray × Nat)) (key : ByteArray) (hks : key.size ≤ maxLen)
    (hb : w.heap[b]? = some (.cells #[p, h, sv, mv, mc, ec] 73 (0, 0))) (hk : Kids w lo sv mv kids) :
    Calls Tryz.prog 53 #[.pointer (some ⟨b, 2, none⟩), .string key] w fun e w' => (∃ f : Bool, e = .returned (.tuple #[ptr (look kids key), .bool f])) ∧ Below w.heap.size w w' := by
  rcases hk with ⟨rfl, h8, A, c, rfl, ho⟩ | ⟨m, rfl, hm0, rfl, hm⟩
  · exact find_slice b w p h mc ec A c kids key hb (own_less ho (Nat.zero_le _)) h8
  · exact find_map b m w p h _ mc ec kids key hks hb hm
set_option maxHeartbeats 1000000 in
set_option maxRecDepth 100000 in
theorem findChild_any (b lo : Nat) (w : World) (p h sv mv mc : Value) (ec : Option Nat) (kids : List (ByteArray × Nat)) (key : ByteArray) (hks : key.size ≤ maxLen)
    (hb : w.heap[b]? = some (.cells #[p, h, sv, mv, mc, ptr ec] 73 (0, 0))) (hk : Kids w lo sv mv kids) :
    Calls Tryz.prog 37 #[.pointer (some ⟨b, 0, none⟩), .string key] w fun e w' => e = .returned (ptr (if key = ⟨#[]⟩ then ec else look kids key)) ∧ Below w.heap.size w w' := by
  have hc5 : w.cell? ⟨b, 5, none⟩ = some (ptr ec) := (blk_cell hb 5).trans rfl
  have HB := Aside0.mk hb
  have HK := Aside0.mk hk
  have HS := Aside0.mk hks
  clear hb hk hks
  by_cases he : key = ⟨#[]⟩
  · rw [if_pos he]
    have hl : key.toList.isEmpty = true := by rw [str_empty]; simpa using he
    clear he
    go_enter Tryz.func37, Tryz.ntmps37
    go_wp2_with fail
    go_ret
    exact ⟨rfl, Below.refl _ _⟩
  · rw [if_neg he]
    have hl : key.toList.isEmpty = false := by rw [str_empty]; simpa using he
    clear he
    go_enter Tryz.func37, Tryz.ntmps37
    go_wp2_with (go_at_call 53; refine (find_any b lo _ _ _ _ _ _ _ _ _ HS.out HB.out HK.out).mono ?_; rintro e w' ⟨⟨f, rfl⟩, hw⟩; have HW := Aside0.mk hw; clear hw)
    go_ret
    exact ⟨rfl, HW.out⟩
end Go.Proofs.YtcedefabmelogaaGreatDoor.H
/- Plain words for the routing tree, more: what a call may have written (Fr), a node's blocks (foot), maps that grow. -/
namespace Go.Proofs.YtcedefabmelogaaGreatDoor.H
open Go.RowKit Go.WideMaps Go.WideElems Go.Proofs.YtcedefabmelogaaGreatDoorW.PrintWords
set_option maxRecDepth 100000
/-- w' is w with new blocks, and writes to old blocks of S alone. -/
structure Fr (w w' : World) (S : Nat → Prop) : Prop where
  os : w'.os = w.os
  tape : w'.tape = w.tape
  output : w'.output = w.output
  size : w.heap.size ≤ w'.heap.size
  block : ∀ i, i < w.heap.size → ¬ S i → w'.heap[i]? = w.heap[i]?
theorem Fr.refl (w : World) (S : Nat → Prop) : Fr w w S := ⟨rfl, rfl, rfl, Nat.le_refl _, fun _ _ _ => rfl⟩
theorem Fr.of_below {w w' : World} (h : Below w.heap.size w w') (S : Nat → Prop) : Fr w w' S := ⟨h.os, h.tape, h.output, h.size, fun i hi _ => h.block i hi⟩
theorem Fr.of_grown {w w' : World} {row : Option Nat} (h : w.grownBy w' row) {S : Nat → Prop} (hr : ∀ k, row = some k → k < w.heap.size → S k) : Fr w w' S :=
  ⟨h.os, h.tape, h.output, h.size, fun i hi hn => h.block i hi (fun e => hn (hr i e.symm hi))⟩
theorem Fr.trans {a b c : World} {S T U : Nat → Prop} (h : Fr a b S) (k : Fr b c T) (hS : ∀ i, S i → U i) (hT : ∀ i, i < a.heap.size → T i → U i) : Fr a c U :=
  ⟨k.os.trans h.os, k.tape.trans h.tape, k.output.trans h.output, Nat.le_trans h.size k.size, fun i hi hn =>
    (k.block i (Nat.lt_of_lt_of_le hi h.size) (fun ht => hn (hT i hi ht))).trans (h.block i hi (fun hs => hn (hS i hs)))⟩
theorem Fr.mono {w w' : World} {S T : Nat → Prop} (h : Fr w w' S) (hS : ∀ i, i < w.heap.size → S i → T i) : Fr w w' T :=
  ⟨h.os, h.tape, h.output, h.size, fun i hi hn => h.block i hi (fun hs => hn (hS i hi hs))⟩
theorem Fr.below {w w' : World} {S : Nat → Prop} {B : Nat} (h : Fr w w' S) (hB : B ≤ w.heap.size) (hS : ∀ i, S i → B ≤ i) : Below B w w' :=
  ⟨h.os, h.tape, h.output, h.size, fun i hi => h.block i (by omega) (fun hs => by have := hS i hs; omega)⟩
theorem Fr.setCell {w w' : World} {S : Nat → Prop} (h : Fr w w' S) (a : Addr) (v : Value) (hS : S a.block ∨ w.heap.size ≤ a.block) : Fr w (w'.setCell a v) S :=
  ⟨h.os, h.tape, h.output, by simpa [World.setCell] using h.size, fun i hi hn => by
    rw [Below.heap_setCell _ _ _ _ (by rcases hS with hS | hS; · rintro rfl; exact hn hS
                                       · omega)]
    exact h.block i hi hn⟩
theorem Fr.alloc {w w' : World} {S : Nat → Prop} (h : Fr w w' S) (o : Obj) : Fr w (w'.alloc o) S :=
  ⟨h.os, h.tape, h.output, by have := h.size; simp; omega, fun i hi hn => by
    rw [Below.heap_alloc _ _ _ (by have := h.size; omega)]; exact h.block i hi hn⟩
theorem Fr.drewN {w w' : World} {S : Nat → Prop} (h : Fr w w' S) (n : Nat) : Fr w (w'.drewN n) S := ⟨h.os, h.tape, h.output, h.size, h.block⟩
theorem Fr.drew {w w' : World} {S : Nat → Prop} (h : Fr w w' S) : Fr w w'.drew S := ⟨h.os, h.tape, h.output, h.size, h.block⟩
theorem Fr.grown {w w' w2 : World} {S : Nat → Prop} {row : Option Nat} (h : Fr w w' S) (g : w'.grownBy w2 row) (hr : ∀ k, row = some k → S k ∨ w.heap.size ≤ k) : Fr w w2 S :=
  ⟨g.os.trans h.os, g.tape.trans h.tape, g.output.trans h.output, Nat.le_trans h.size g.size, fun i hi hn =>
    (g.block i (Nat.lt_of_lt_of_le hi h.size) (fun e => by rcases hr i e.symm with h1 | h1; · exact hn h1
                                                           · omega)).trans (h.block i hi hn)⟩
theorem Fr.blk {w w' : World} {S : Nat → Prop} {i : Nat} {o : Obj} (h : Fr w w' S) (hi : w.heap[i]? = some o) (hn : ¬ S i) : w'.heap[i]? = some o := (h.block i (blk_lt hi) hn).trans hi
def mblk : Value → Option Nat
  | .map o => o
  | _ => none
/-- The blocks of node b: its own, its row of entries, its map. -/
def foot (w : World) (b : Nat) (i : Nat) : Prop := i = b ∨ (w.cell? ⟨b, 2, none⟩).bind Value.ownBlock = some i ∨ (w.cell? ⟨b, 3, none⟩).bind mblk = some i
theorem foot_iff {w : World} {b : Nat} {p h sv mv mc ec : Value} (hb : w.heap[b]? = some (.cells #[p, h, sv, mv, mc, ec] 73 (0, 0))) (i : Nat) : foot w b i ↔ (i = b ∨ sv.ownBlock = some i ∨ mblk mv = some i) := by
  have hc2 : w.cell? ⟨b, 2, none⟩ = some sv := (blk_cell hb 2).trans rfl
  have hc3 : w.cell? ⟨b, 3, none⟩ = some mv := (blk_cell hb 3).trans rfl
  simp [foot, hc2, hc3]
/-- A node that lies at block b. -/
def NodeAt (w : World) (lo b : Nat) (p h : Value) (kids : List (ByteArray × Nat)) (mc ec : Option Nat) : Prop :=
  lo ≤ b ∧ ∃ sv mv, w.heap[b]? = some (.cells #[p, h, sv, mv, ptr mc, ptr ec] 73 (0, 0)) ∧ Kids w lo sv mv kids
theorem Kids.blocks {w : World} {lo : Nat} {sv mv : Value} {kids : List (ByteArray × Nat)} (h : Kids w lo sv mv kids) : (∀ i, sv.ownBlock = some i → lo ≤ i ∧ i < w.heap.size) ∧ (∀ i, mblk mv = some i → lo ≤ i ∧ i < w.heap.size) := by
  rcases h with ⟨rfl, _, A, c, rfl, ho⟩ | ⟨m, rfl, hlo, rfl, D, ho, _⟩
  · exact ⟨fun i hi => ⟨own_base ho i hi, own_lt ho i hi⟩, fun i hi => by simp [mblk] at hi⟩
  · exact ⟨fun i hi => by simp [Value.ownBlock] at hi, fun i hi => by simp [mblk] at hi; subst hi; exact ⟨hlo, ho.lt⟩⟩
theorem NodeAt.foot_bd {w : World} {lo b : Nat} {p h : Value} {kids : List (ByteArray × Nat)} {mc ec : Option Nat} (H : NodeAt w lo b p h kids mc ec) (i : Nat) (hi : foot w b i) : lo ≤ i ∧ i < w.heap.size := by
  obtain ⟨hlo, sv, mv, hb, hk⟩ := H
  rcases (foot_iff hb i).1 hi with rfl | h1 | h1
  · exact ⟨hlo, blk_lt hb⟩
  · exact hk.blocks.1 i h1
  · exact hk.blocks.2 i h1
theorem Kids.move {w w' : World} {lo : Nat} {sv mv : Value} {kids : List (ByteArray × Nat)} (h : Kids w lo sv mv kids) (h1 : ∀ i, sv.ownBlock = some i → w'.heap[i]? = w.heap[i]?) (h2 : ∀ i, mblk mv = some i → w'.heap[i]? = w.heap[i]?) : Kids w' lo sv mv kids := by
  rcases h with ⟨rfl, h8, A, c, rfl, ho⟩ | ⟨m, rfl, hlo, rfl, D, ho, hS⟩
  · exact .inl ⟨rfl, h8, A, c, rfl, own_move ho h1⟩
  · refine .inr ⟨m, rfl, hlo, rfl, D, ?_, hS⟩
    obtain ⟨es, clock, hb, r⟩ := ho
    exact ⟨es, clock, (h2 m rfl).trans hb, r⟩
/-- A node whose blocks have not been written lies there still, with the same blocks. -/
theorem NodeAt.move {w w' : World} {lo b : Nat} {p h : Value} {kids : List (ByteArray × Nat)} {mc ec : Option Nat} (H : NodeAt w lo b p h kids mc ec) (hm : ∀ i, foot w b i → w'.heap[i]? = w.heap[i]?) : NodeAt w' lo b p h kids mc ec ∧ ∀ i, foot w' b i ↔ foot w b i := by
  obtain ⟨hlo, sv, mv, hb, hk⟩ := H
  have hb' : w'.heap[b]? = some (.cells #[p, h, sv, mv, ptr mc, ptr ec] 73 (0, 0)) := (hm b (.inl rfl)).trans hb
  refine ⟨⟨hlo, sv, mv, hb', hk.move (fun i hi => hm i ((foot_iff hb i).2 (.inr (.inl hi)))) (fun i hi => hm i ((foot_iff hb i).2 (.inr (.inr hi))))⟩, fun i => ?_⟩
  rw [foot_iff hb, foot_iff hb']
theorem look_append (kids : List (ByteArray × Nat)) (k : ByteArray) (c : Nat) (h : look kids k = none) (k' : ByteArray) : look (kids ++ [(k, c)]) k' = if k' = k then some c else look kids k' := by
  induction kids with
  | nil =>
    by_cases e : k' = k
    · simp [look, e]
    · simp [look, e, Ne.symm e]
  | cons x l ih =>
    simp only [look] at h
    split at h
    · cases h
    · rename_i hx
      simp only [List.cons_append, look, ih h]
      by_cases e : x.1 = k'
      · rw [if_pos e, if_pos e, if_neg (by rintro rfl; exact hx e)]
      · rw [if_neg e, if_neg e]
theorem Says.empty : Says (.map []) [] := ⟨fun _ => rfl, fun _ _ h => by simp [look] at h⟩
theorem Says.put {D : DataW Unit} {kids : List (ByteArray × Nat)} (h : Says D kids) (hm : Maps.IsMap D) (k : ByteArray) (c : Nat) (hn : look kids k = none) : Says (D.put (kl k) (.lit (.int .i64 c))) (kids ++ [(k, c)]) := by
  refine ⟨fun k' => ?_, fun k' c' hl z => ?_⟩
  · rw [look_append kids k c hn]
    by_cases e : k' = k
    · subst e; rw [if_pos rfl, Maps.has_put_same hm (kl_key _)]; rfl
    · rw [if_neg e, Maps.has_put_other (fun x => e (kl_inj x)), h.has]
  · rw [look_append kids k c hn] at hl
    by_cases e : k' = k
    · subst e; rw [if_pos rfl] at hl; injection hl with hl; subst hl; rw [Maps.atKey_put_same hm (kl_key _)]
    · rw [if_neg e] at hl; rw [Maps.atKey_put_other (fun x => e (kl_inj x)), h.at_ k' c' hl]
theorem mapk_new (w : World) : MapK (w.alloc (.map #[] 0)) w.heap.size [] := ⟨.map [], World.ownsMap_made w _ _ _, Says.empty⟩
end Go.Proofs.YtcedefabmelogaaGreatDoor.H
/- The walk of (*mapping).add: a new key is added to a node's children. -/
namespace Go.Proofs.YtcedefabmelogaaGreatDoor.H
open Go.RowKit Go.WideMaps Go.WideElems Go.Proofs.YtcedefabmelogaaGreatDoorW.PrintWords Go.Proofs.YtcedefabmelogaaGreatDoorW.PrintLast Go.Proofs.YtcedefabmelogaaGreatDoorW.PrintMore
attribute [local go_sem] eqMap69 neqMap69
set_option linter.unusedVariables false
set_option linter.unusedSimpArgs false
theorem info124 : (Tryz.prog.info? 124).map (fun i => (i.zero, i.size, i.bytes)) = some (some (.agg #[.string ⟨#[]⟩, .pointer none]), 2, 24) := by kernel_rfl
/-- What add leaves: the node with one child more; nothing but the node's blocks has been written; its new blocks are new. -/
def AddPost (w w' : World) (lo b c : Nat) (p h : Value) (kids : List (ByteArray × Nat)) (k : ByteArray) (mc ec : Option Nat) : Prop :=
  NodeAt w' lo b p h (kids ++ [(k, c)]) mc ec ∧ Fr w w' (foot w b) ∧ ∀ i, foot w' b i → foot w b i ∨ w.heap.size ≤ i
theorem two_new (w : World) (x y : Value) (t : TypeId) : ∀ j u, [x, y][j]? = some u → (w.alloc (.cells #[x, y] t)).cell? ((⟨w.heap.size, 0, none⟩ : Addr).add j) = some u := by
  intro j u hj
  match j, hj with
  | 0, hj =>
    simp at hj
    subst hj
    simp [Addr.add]
  | 1, hj =>
    simp at hj
    subst hj
    simp [Addr.add]
set_option maxHeartbeats 1000000 in
set_option maxRecDepth 100000 in
theorem add_room (b c lo : Nat) (w : World) (p h : Value) (mc ec : Option Nat) (A : Option Addr) (cp : Nat) (kids : List (ByteArray × Nat)) (k : ByteArray) (hlo : lo ≤ b)
    (hb : w.heap[b]? = some (.cells #[p, h, .slice A kids.length cp, .map none, ptr mc, ptr ec] 73 (0, 0)))
    (ho : w.ownsRow lo 124 2 (.slice A kids.length cp) kids.length (flat kids)) (h8 : kids.length < 8) :
    Calls Tryz.prog 63 #[.pointer (some ⟨b, 2, none⟩), .string k, .pointer (some ⟨c, 0, none⟩)] w fun e w' => e = .returned (.tuple #[]) ∧ AddPost w w' lo b c p h kids k mc ec := by
  have hc2 : w.cell? ⟨b, 2, none⟩ = some (.slice A kids.length cp) := (blk_cell hb 2).trans rfl
  have hc3 : w.cell? ⟨b, 3, none⟩ = some (.map none) := (blk_cell hb 3).trans rfl
  have hbw := blk_lt hb
  have HB := Aside0.mk hb
  have HO := Aside0.mk ho
  have H8 := Aside0.mk h8
  have h8b : decide ((kids.length : Int) < 8) = true := decide_eq_true (by omega)
  have HL := Aside0.mk hlo
  have HW := Aside0.mk hbw
  obtain ⟨i0, hi, hzz⟩ := Option.map_eq_some_iff.1 info124
  simp only [Prod.mk.injEq] at hzz
  obtain ⟨hz0, hz1, hz2⟩ := hzz
  have HZ := Aside0.mk (And.intro hi (And.intro hz0 (And.intro hz1 hz2)))
  clear hb ho h8 hlo hbw hi hz0 hz1 hz2
  go_enter Tryz.func63, Tryz.ntmps63
  go_wp2_with (at_builtin; refine wpList_append_own_at _ rfl _ _ 68 rfl lo 124 i0 (.agg #[.string ⟨#[]⟩, .pointer none]) 2 24 Tryz.underlying68 HZ.out.1 HZ.out.2.1 HZ.out.2.2.1 HZ.out.2.2.2 rfl (by decide) (.slice A kids.length cp) kids.length (flat kids) rfl (HO.out.alloc _) ⟨w.heap.size, 0, none⟩ 1 1 [.string k, .pointer (some ⟨c, 0, none⟩)] rfl rfl ?c1 ?c2 ?c3 ?c4 ?c5 ?_; (case c1 => exact two_new _ _ _ _); (case c2 => intro u hu; simp at hu; rcases hu with rfl | rfl <;> rfl); (case c3 => have := H8.out; simp only [maxLen]; omega); (case c4 => have := H8.out; omega); (case c5 => have := HL.out; have := HW.out; simp; omega); intro v1 w1 hown hg hnil hat; clear hnil; obtain ⟨A1, c1, rfl⟩ := own_slice hown; have HA := Aside0.mk hown; have HG := Aside0.mk hg; have HT := Aside0.mk hat; have hne : some b ≠ (Value.slice A kids.length cp).ownBlock := (by intro e; obtain ⟨cells, hcells⟩ := own_typed HO.out b e.symm; rw [HB.out] at hcells; injection hcells with hcells; injection hcells with _ ht; cases ht); have hb1 := blk_grown (blk_alloc HB.out _) hg hne; have hd2 : w1.cell? ⟨b, 2, none⟩ = some (.slice A kids.length cp) := (blk_cell hb1 2).trans rfl; have hf2 := blk_frozen hb1 2; have HB1 := Aside0.mk hb1; clear hown hg hat hb1)
  go_end0
  have hb2 := blk_put HB1.out 2 (.slice A1 (kids.length + 1) c1) rfl
  refine ⟨rfl, ⟨HL.out, .slice A1 (kids.length + 1) c1, .map none, hb2, .inl ⟨rfl, by have := H8.out; simp; omega, A1, c1, by simp, ?_⟩⟩, ?_, ?_⟩
  · rw [flat_append]
    simp only [List.length_append, List.length_singleton]
    refine own_move HA.out (fun i hi => Below.heap_setCell _ _ _ _ ?_)
    rintro rfl
    obtain ⟨cells, hcells⟩ := own_typed HA.out _ hi
    rw [HB1.out] at hcells; injection hcells with hcells; injection hcells with _ ht; cases ht
  · refine Fr.setCell (Fr.grown ((Fr.refl w _).alloc _) HG.out (fun i hi => .inl ((foot_iff HB.out i).2 (.inr (.inl hi))))) _ _ (.inl ((foot_iff HB.out b).2 (.inl rfl)))
  · intro i hi
    rcases (foot_iff hb2 i).1 hi with rfl | h1 | h1
    · exact .inl ((foot_iff HB.out _).2 (.inl rfl))
    · rcases HT.out with ht | ht
      · rw [h1] at ht
        exact .inl ((foot_iff HB.out _).2 (.inr (.inl ht.symm)))
      · rw [h1] at ht
        injection ht with ht
        exact .inr (by subst ht; simp)
    · simp [mblk] at h1
set_option maxHeartbeats 1000000 in
set_option maxRecDepth 100000 in
theorem add_map (b c m lo : Nat) (w : World) (p h : Value) (mc ec : Option Nat) (kids : List (ByteArray × Nat)) (k : ByteArray) (hlo : lo ≤ b) (hlm : lo ≤ m)
    (hb : w.heap[b]? = some (.cells #[p, h, .slice none 0 0, .map (some m), ptr mc, ptr ec] 73 (0, 0)))
    (hm : MapK w m kids) (hn : look kids k = none) (hks : k.size ≤ maxLen) (hkl : kids.length < maxLen) :
    Calls Tryz.prog 63 #[.pointer (some ⟨b, 2, none⟩), .string k, .pointer (some ⟨c, 0, none⟩)] w fun e w' => e = .returned (.tuple #[]) ∧ AddPost w w' lo b c p h kids k mc ec := by
  have hc2 : w.cell? ⟨b, 2, none⟩ = some (.slice none 0 0) := (blk_cell hb 2).trans rfl
  have hc3 : w.cell? ⟨b, 3, none⟩ = some (.map (some m)) := (blk_cell hb 3).trans rfl
  obtain ⟨D, hown, hS⟩ := hm
  have HB := Aside0.mk hb
  have HO := Aside0.mk hown
  have HS := Aside0.mk hS
  have HL := Aside0.mk hlo
  have HM := Aside0.mk hlm
  have HN := Aside0.mk hn
  have HK := Aside0.mk hks
  have HC := Aside0.mk hkl
  clear hb hown hS hlo hlm hn hks hkl
  go_enter Tryz.func63, Tryz.ntmps63
  go_wp2_with (at_mapUpdate; refine wpList_mapUpdate_own _ rfl _ _ _ 69 rfl 9 57 K9 Tryz.underlying69 RP m kids.length D rfl HO.out HC.out _ _ (kl k) rfl rfl (key9 k HK.out) (.lit (.int .i64 c)) [] rfl ?_; intro w1 hown1 hgrow1; have HO1 := Aside0.mk hown1; have HG := Aside0.mk hgrow1; clear hown1 hgrow1)
  go_end0
  have hne : some b ≠ some m := by
    intro e
    injection e with e
    subst e
    obtain ⟨es, clock, hm', _⟩ := HO.out
    rw [HB.out] at hm'
    cases hm'
  have hb1 := blk_grown HB.out HG.out hne
  refine ⟨rfl, ⟨HL.out, _, _, hb1, .inr ⟨m, rfl, HM.out, rfl, _, by simpa using HO1.out, HS.out.put HO.out.isMap k c HN.out⟩⟩, Fr.of_grown HG.out (fun i hi _ => ?_), ?_⟩
  · injection hi with hi
    subst hi
    exact (foot_iff HB.out _).2 (.inr (.inr rfl))
  · intro i hi
    exact .inl ((foot_iff HB.out i).2 ((foot_iff hb1 i).1 hi))
set_option maxHeartbeats 2000000 in
set_option maxRecDepth 100000 in
theorem add_full (b c lo : Nat) (w : World) (p h : Value) (mc ec : Option Nat) (A : Option Addr) (cp : Nat) (kids : List (ByteArray × Nat)) (k : ByteArray) (hlo : lo ≤ b)
    (hb : w.heap[b]? = some (.cells #[p, h, .slice A kids.length cp, .map none, ptr mc, ptr ec] 73 (0, 0)))
    (ho : w.ownsRow lo 124 2 (.slice A kids.length cp) kids.length (flat kids)) (h8 : kids.length = 8)
    (hnd : ∀ i (hi : i < kids.length), look (kids.take i) (kids[i]).1 = none ∧ (kids[i]).1.size ≤ maxLen) (hn : look kids k = none) (hks : k.size ≤ maxLen) :
    Calls Tryz.prog 63 #[.pointer (some ⟨b, 2, none⟩), .string k, .pointer (some ⟨c, 0, none⟩)] w fun e w' => e = .returned (.tuple #[]) ∧ AddPost w w' lo b c p h kids k mc ec := by
  have hc2 : w.cell? ⟨b, 2, none⟩ = some (.slice A kids.length cp) := (blk_cell hb 2).trans rfl
  have hc3 : w.cell? ⟨b, 3, none⟩ = some (.map none) := (blk_cell hb 3).trans rfl
  have hbw := blk_lt hb
  have hb1 := blk_put (blk_alloc hb (.map #[] 0)) 3 (.map (some w.heap.size)) rfl
  have hMN : MapK ((w.alloc (.map #[] 0)).setCell ⟨b, 3, none⟩ (.map (some w.heap.size))) w.heap.size [] := by
    obtain ⟨D, hD, hS⟩ := mapk_new w
    exact ⟨D, hD.setCell (by simp; omega) _, hS⟩
  have hfr : Fr w ((w.alloc (.map #[] 0)).setCell ⟨b, 3, none⟩ (.map (some w.heap.size))) (fun i => i = b) := ((Fr.refl w _).alloc _).setCell _ _ (.inl rfl)
  have ha2 : ((w.alloc (.map #[] 0)).setCell ⟨b, 3, none⟩ (.map (some w.heap.size))).cell? ⟨b, 2, none⟩ = some (.slice A kids.length cp) := (blk_cell hb1 2).trans rfl
  have hc3' : (w.alloc (.map #[] 0)).cell? ⟨b, 3, none⟩ = some (.map none) := (blk_cell (blk_alloc hb _) 3).trans rfl
  have hf3' := blk_frozen (blk_alloc hb (.map #[] 0)) 3
  have hmm := @run_makeMap Tryz.prog
  have HB := Aside0.mk hb
  have HB1 := Aside0.mk hb1
  have HO := Aside0.mk ho
  have H8 := Aside0.mk h8
  have HMN := Aside0.mk hMN
  have HFR := Aside0.mk hfr
  have h8b : decide ((kids.length : Int) < 8) = false := decide_eq_false (by omega)
  have HL := Aside0.mk hlo
  have HW := Aside0.mk hbw
  have HND := Aside0.mk hnd
  have HN := Aside0.mk hn
  have HK := Aside0.mk hks
  clear hb hb1 ho h8 hlo hbw hMN hfr hnd hn hks
  go_enter Tryz.func63, Tryz.ntmps63
  go_wp2
  go_loopw [47] (fun v wr => ∃ i : Nat, i ≤ kids.length ∧ v = .int .i64 i ∧ Aside0 (MapK wr w.heap.size (kids.take i)) ∧ Aside0 (Fr w wr (fun i => i = b)) ∧ Aside0 (wr.heap[b]? = some (.cells #[p, h, .slice A kids.length cp, .map (some w.heap.size), ptr mc, ptr ec] 73 (0, 0)))) (fun v _ => kids.length - (intOf v).toNat)
  case atStart => exact ⟨0, Nat.zero_le _, rfl, ⟨HMN.out⟩, ⟨HFR.out⟩, ⟨HB1.out⟩⟩
  case round =>
    clear ha2 hc2 hc3 hc3' hf3'
    obtain ⟨i, hi, rfl, HM, HF, HBr⟩ := hrel
    have hd2 : wr.cell? ⟨b, 2, none⟩ = some (.slice A kids.length cp) := (blk_cell HBr.out 2).trans rfl
    have hd3 : wr.cell? ⟨b, 3, none⟩ = some (.map (some w.heap.size)) := (blk_cell HBr.out 3).trans rfl
    have hf2 := blk_frozen HBr.out 2
    have hbr := blk_lt HBr.out
    have h8i : kids.length ≤ 8 := by have := H8.out; omega
    by_cases hlt : i < kids.length
    · obtain ⟨g, rfl, k0, k1⟩ := own_kids HO.out i hlt
      have hgb : ¬ (g = b) := by
        rintro rfl
        obtain ⟨cells, hcells⟩ := own_typed HO.out g rfl
        rw [HB.out] at hcells; injection hcells with hcells; injection hcells with _ ht; cases ht
      replace k0 := (World.cell?_of_block (w := w) (HF.out.block g (World.block_lt_of_cell? w _ k0) hgb)).trans k0
      replace k1 := (World.cell?_of_block (w := w) (HF.out.block g (World.block_lt_of_cell? w _ k1) hgb)).trans k1
      go_wp2
      refine wp_region_still_tail 8 (by kernel_rfl) (by kernel_rfl) ?_
      simp only [List.take_succ_cons, List.take_zero, List.drop_succ_cons, List.drop_zero]
      change wpStill _ _ (World.drew (wr.alloc _)) _ _ _
      repeat still_step
      refine wpStill_nil ?_
      change wpList _ _ _ _ _ (World.drew (wr.alloc _))
      obtain ⟨D, hD, hS⟩ := HM.out
      have HD := Aside0.mk hD
      have HS := Aside0.mk hS
      clear hD hS
      refine wpList_mapUpdate_own _ rfl _ _ _ 69 rfl 9 57 K9 Tryz.underlying69 RP w.heap.size (kids.take i).length D rfl (HD.out.alloc _).drew (by have := H8.out; simp only [maxLen, List.length_take]; omega) (.string (kids[i]).1) (.pointer (some ⟨(kids[i]).2, 0, none⟩)) (kl (kids[i]).1) ?e1 ?e2 (key9 _ (HND.out i hlt).2) (.lit (.int .i64 (kids[i]).2)) [] rfl ?_
      (case e1 => rfl)
      (case e2 => rfl)
      intro w1 hown1 hgrow1
      have HO1 := Aside0.mk hown1
      have HG := Aside0.mk hgrow1
      clear hown1 hgrow1
      go_wp2
      go_roundw
      case rel =>
        refine ⟨i + 1, by omega, by go_num, ⟨_, by simpa [Nat.min_eq_left hi, Nat.min_eq_left hlt] using HO1.out, ?_⟩, ⟨?_⟩, ⟨?_⟩⟩
        · rw [← List.take_append_getElem hlt]
          exact HS.out.put HD.out.isMap _ _ (HND.out i hlt).1
        · exact Fr.grown ((HF.out.alloc _).drew) HG.out (fun j hj => .inr (by injection hj with hj; omega))
        · refine blk_grown (row := some w.heap.size) (w := (wr.alloc _).drew) (blk_alloc HBr.out _) HG.out ?_
          intro e
          injection e with e
          have := HW.out
          omega
      case measure => simp [intOf]; omega
    · obtain rfl : i = kids.length := by omega
      rw [List.take_length] at HM
      have hb3 := blk_put HBr.out 2 (.slice none 0 0) rfl
      have HB3 := Aside0.mk hb3
      clear hb3
      obtain ⟨D, hD, hS⟩ := HM.out
      have HD := Aside0.mk (hD.setCell (a := ⟨b, 2, none⟩) (by have := HW.out; simp; omega) (.slice none 0 0))
      have HI := Aside0.mk hD.isMap
      have HS := Aside0.mk hS
      clear hD hS
      go_wp2_with (at_mapUpdate; refine wpList_mapUpdate_own _ rfl _ _ _ 69 rfl 9 57 K9 Tryz.underlying69 RP w.heap.size kids.length D rfl HD.out (by have := H8.out; simp only [maxLen]; omega) _ _ (kl k) rfl rfl (key9 k HK.out) (.lit (.int .i64 c)) [] rfl ?_; intro w1 hown1 hgrow1; have HO1 := Aside0.mk hown1; have HG := Aside0.mk hgrow1; clear hown1 hgrow1)
      go_end0
      have hb4 := blk_grown HB3.out HG.out (by intro e; injection e with e; have := HW.out; omega)
      refine ⟨rfl, ⟨HL.out, _, _, hb4, .inr ⟨w.heap.size, rfl, by have := HL.out; have := HW.out; omega, rfl, _, by simpa using HO1.out, HS.out.put HI.out k c HN.out⟩⟩, ?_, ?_⟩
      · refine Fr.grown (Fr.setCell (HF.out.mono (fun j _ e => (foot_iff HB.out j).2 (.inl e))) _ _ (.inl ((foot_iff HB.out b).2 (.inl rfl)))) HG.out (fun j hj => .inr (by injection hj with hj; omega))
      · intro j hj
        rcases (foot_iff hb4 j).1 hj with rfl | h1 | h1
        · exact .inl ((foot_iff HB.out _).2 (.inl rfl))
        · simp [Value.ownBlock] at h1
        · simp [mblk] at h1
          exact .inr (by omega)
end Go.Proofs.YtcedefabmelogaaGreatDoor.H
