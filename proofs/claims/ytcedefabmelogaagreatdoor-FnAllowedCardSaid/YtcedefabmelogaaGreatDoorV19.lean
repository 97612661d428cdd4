/- The walks of trimming, path.Clean on a path that is clean, unicode tables. -/
import Derived.Test.YtcedefabmelogaaGreatDoorV05
import Derived.Test.YtcedefabmelogaaGreatDoorV06
import Derived.Lib.CleanFns
import Derived.Lib.CleanSame
import Derived.Lib.OthersKept
import Derived.Handy
/- Plain words on a path's pieces: what path.Clean leaves of a path whose pieces are in order. -/
namespace Go.Proofs.YtcedefabmelogaaGreatDoor.H
open Go.RowKit Go.Lib
set_option maxRecDepth 100000
/-- The pieces, a slash ahead of each. -/
def joinP (ts : List (List UInt8)) : List UInt8 := (ts.map (fun t => 47 :: t)).flatten
theorem joinP_cons (t : List UInt8) (ts : List (List UInt8)) : joinP (t :: ts) = 47 :: (t ++ joinP ts) := by simp [joinP]
theorem joinP_append (a b : List (List UInt8)) : joinP (a ++ b) = joinP a ++ joinP b := by simp [joinP]
theorem els_piece (t r : List UInt8) (ts : List (List UInt8)) (ht : (47 : UInt8) ∉ t) (h : Pa.els r = [] :: ts) : Pa.els (t ++ r) = t :: ts := by
  induction t with
  | nil => simpa using h
  | cons c t ih =>
    simp only [List.mem_cons, not_or] at ht
    have := ih ht.2
    simp only [List.cons_append, Pa.els]
    rw [if_neg (Ne.symm ht.1), this]
theorem els_joinP (ts : List (List UInt8)) (h : ∀ t ∈ ts, (47 : UInt8) ∉ t) : Pa.els (joinP ts) = [] :: ts := by
  induction ts with
  | nil => rfl
  | cons t ts ih =>
    rw [joinP_cons]
    simp only [Pa.els, if_true]
    rw [els_piece t _ ts (h t (by simp)) (ih (fun x hx => h x (by simp [hx])))]
/-- A piece that stands for itself in a path. -/
def Piece (t : List UInt8) : Prop := t ≠ [] ∧ t ≠ [46] ∧ t ≠ [46, 46] ∧ (47 : UInt8) ∉ t
theorem fold_pieces (ts st : List (List UInt8)) (h : ∀ t ∈ ts, Piece t) : ts.foldl (Pa.cleanStep true) st = ts.reverse ++ st := by
  induction ts generalizing st with
  | nil => rfl
  | cons t ts ih =>
    have ht := h t (by simp)
    have : Pa.cleanStep true st t = t :: st := by
      unfold Pa.cleanStep
      rw [if_neg (fun e => e.elim ht.1 ht.2.1), if_neg ht.2.2.1]
    simp only [List.foldl_cons, this]
    rw [ih _ (fun x hx => h x (by simp [hx]))]
    simp
theorem inter_joinP (t : List UInt8) (ts : List (List UInt8)) : 47 :: [47].intercalate (t :: ts) = joinP (t :: ts) := by
  induction ts generalizing t with
  | nil => simp [joinP, List.intercalate]
  | cons u ts ih =>
    rw [joinP_cons, ← ih u]
    simp [List.intercalate, List.intersperse]
theorem clean_full (t : List UInt8) (ts : List (List UInt8)) (h : ∀ x ∈ t :: ts, Piece x) : Pa.clean (joinP (t :: ts)) = joinP (t :: ts) := by
  rw [Pa.clean_eq_cleanEls]
  unfold Pa.cleanEls
  have hne : joinP (t :: ts) ≠ [] := by rw [joinP_cons]; simp
  have hh : (joinP (t :: ts)).head? == some 47 := by rw [joinP_cons]; rfl
  rw [if_neg hne]
  simp only [hh]
  rw [els_joinP _ (fun x hx => (h x hx).2.2.2)]
  have h1 : Pa.cleanStep true [] [] = [] := rfl
  have h2 := fold_pieces (t :: ts) [] h
  rw [List.foldl_cons, h1, h2]
  simp only [List.append_nil, List.reverse_reverse, if_true]
  exact inter_joinP t ts
theorem clean_slash (t : List UInt8) (ts : List (List UInt8)) (h : ∀ x ∈ t :: ts, Piece x) : Pa.clean (joinP (t :: ts) ++ [47]) = joinP (t :: ts) := by
  rw [Pa.clean_eq_cleanEls]
  unfold Pa.cleanEls
  have e : joinP (t :: ts) ++ [47] = joinP ((t :: ts) ++ [[]]) := by rw [joinP_append]; rfl
  rw [e]
  have hne : joinP ((t :: ts) ++ [[]]) ≠ [] := by rw [List.cons_append, joinP_cons]; simp
  have hh : (joinP ((t :: ts) ++ [[]])).head? == some 47 := by rw [List.cons_append, joinP_cons]; rfl
  rw [if_neg hne]
  simp only [hh]
  rw [els_joinP _ (fun x hx => by
    rw [List.mem_append] at hx
    rcases hx with hx | hx
    · exact (h x hx).2.2.2
    · simp at hx; subst hx; simp)]
  have h1 : Pa.cleanStep true [] [] = [] := rfl
  have h2 := fold_pieces (t :: ts) [] h
  have h3 : ∀ st, Pa.cleanStep true st [] = st := fun st => by simp [Pa.cleanStep]
  rw [List.foldl_cons, h1, List.foldl_append, h2]
  simp only [List.foldl_cons, List.foldl_nil, h3]
  simp only [List.append_nil, List.reverse_reverse, if_true]
  exact inter_joinP t ts
end Go.Proofs.YtcedefabmelogaaGreatDoor.H
/- The walks of zzInSet, zzIndexAny, zzTrimLeft at the blanks. -/
namespace Go.Proofs.YtcedefabmelogaaGreatDoor.H
open Go.RowKit Go.Lib Go.Proofs.YtcedefabmelogaaGreatDoorW.PrintWords Go.Proofs.YtcedefabmelogaaGreatDoorW.PrintLast Go.Proofs.YtcedefabmelogaaGreatDoorW.PrintMore
set_option linter.unusedVariables false
set_option linter.unusedSimpArgs false
set_option maxRecDepth 100000
/-- A string's iterator's step, at ASCII. -/
theorem next_list (w : World) (k : Nat) (l : List UInt8) (pos : Nat) (ty : TypeId) (hk : w.heap[k]? = some (.stringIter (bs l) pos)) (h : pos < l.length) (ha : (l[pos]).toNat < 128) :
    (Instr.next (.pointer (some ⟨k, 0, none⟩)) true ty).run Tryz.prog w = .ok (.tuple #[.bool true, .int .i64 pos, .int .i32 (l[pos]).toNat]) (w.iterAt k (bs l) (pos + 1)) := by
  have h' : pos < (bs l).size := by rw [bs_size]; exact h
  have e : (bs l)[pos]'(h') = l[pos] := by
    show (bs l).data[pos] = _
    simp [bs]
    rfl
  have := run_next_ascii_at (P := Tryz.prog) w k (bs l) pos ty hk h' (by rw [e]; exact ha)
  rw [e] at this
  exact this
theorem next_done (w : World) (k : Nat) (l : List UInt8) (pos : Nat) (ty : TypeId) (hk : w.heap[k]? = some (.stringIter (bs l) pos)) (h : ¬ pos < l.length) :
    (Instr.next (.pointer (some ⟨k, 0, none⟩)) true ty).run Tryz.prog w = .ok (.tuple #[.bool false]) w :=
  run_next_end_at (P := Tryz.prog) w k (bs l) pos ty hk (by rw [bs_size]; exact h)
set_option maxHeartbeats 2000000 in
theorem inSet_no (c : Int) (w : World) (h1 : c ≠ 32) (h2 : c ≠ 9) :
    Calls Tryz.prog 78 #[.int .i32 c, .string (bs [32, 9])] w fun e w' => e = .returned (.bool false) ∧ Below w.heap.size w w' := by
  have hb1 : (c == 32) = false := by simpa using h1
  have hb2 : (c == 9) = false := by simpa using h2
  have hi : (w.iter (bs [32, 9]) 0).heap[w.heap.size]? = some (.stringIter (bs [32, 9]) 0) := World.iter_heap w _ 0
  have hB : Below w.heap.size w (w.iter (bs [32, 9]) 0) := below_alloc (Below.refl _ _) _
  have HI := Aside0.mk hi
  have HB := Aside0.mk hB
  clear h1 h2 hi hB
  go_enter Tryz.func78, Tryz.ntmps78
  go_wp2
  go_loopw [9] (fun _ wr => Aside0 (∃ pos : Nat, pos ≤ 2 ∧ wr.heap[w.heap.size]? = some (.stringIter (bs [32, 9]) pos) ∧ Below w.heap.size w wr)) (fun _ wr => 2 - wr.iterPos w.heap.size)
  case atStart => exact ⟨0, by omega, HI.out, HB.out⟩
  case round =>
    obtain ⟨pos, hp, hk, hb⟩ := hrel.out
    have HK := Aside0.mk hk
    have HBB := Aside0.mk hb
    clear hrel hb
    by_cases hlt : pos < 2
    · match pos, hlt with
      | 0, _ =>
        have hnx := fun ty => next_list wr w.heap.size [32, 9] 0 ty HK.out (by simp) (by decide)
        simp only [List.getElem_cons_zero] at hnx
        clear hk hp
        go_wp2
        go_roundw
        case rel => exact ⟨1, by omega, iterAt_heap wr w.heap.size _ 0 1 HK.out, below_iterAt HBB.out (Nat.le_refl _) _ _⟩
        case measure => simp [World.iterPos, iterAt_heap wr w.heap.size _ 0 1 HK.out, HK.out]
      | 1, _ =>
        have hnx := fun ty => next_list wr w.heap.size [32, 9] 1 ty HK.out (by simp) (by decide)
        simp only [List.getElem_cons_zero, List.getElem_cons_succ] at hnx
        clear hk hp
        go_wp2
        go_roundw
        case rel => exact ⟨2, by omega, iterAt_heap wr w.heap.size _ 1 2 HK.out, below_iterAt HBB.out (Nat.le_refl _) _ _⟩
        case measure => simp [World.iterPos, iterAt_heap wr w.heap.size _ 1 2 HK.out, HK.out]
    · obtain rfl : pos = 2 := by omega
      have hnx := fun ty => next_done wr w.heap.size [32, 9] 2 ty HK.out (by simp)
      clear hk hp hlt
      go_wp2
      go_ret
      exact ⟨rfl, HBB.out⟩
set_option maxHeartbeats 2000000 in
theorem trimLeft_none (x : UInt8) (r : List UInt8) (w : World) (h0 : x.toNat < 128) (h1 : x ≠ 32) (h2 : x ≠ 9) :
    Calls Tryz.prog 68 #[.string (bs (x :: r)), .string (bs [32, 9])] w fun e w' => e = .returned (.string (bs (x :: r))) ∧ Below w.heap.size w w' := by
  have hi : (w.iter (bs (x :: r)) 0).heap[w.heap.size]? = some (.stringIter (bs (x :: r)) 0) := World.iter_heap w _ 0
  have hB : Below w.heap.size w (w.iter (bs (x :: r)) 0) := below_alloc (Below.refl _ _) _
  have hnx := fun ty => next_list (w.iter (bs (x :: r)) 0) w.heap.size (x :: r) 0 ty hi (by simp) (by simpa using h0)
  simp only [List.getElem_cons_zero] at hnx
  have hex : (bs (x :: r)).extract 0 (bs (x :: r)).size = bs (x :: r) := by rw [bs_from]; rfl
  have hc1 : (x.toNat : Int) ≠ 32 := fun e => h1 (UInt8.toNat_inj.1 (by simpa using (by omega : x.toNat = 32)))
  have hc2 : (x.toNat : Int) ≠ 9 := fun e => h2 (UInt8.toNat_inj.1 (by simpa using (by omega : x.toNat = 9)))
  have HB := Aside0.mk (below_iterAt hB (Nat.le_refl _) (bs (x :: r)) 1)
  have HS := Aside0.mk (inSet_no (x.toNat : Int) ((w.iter (bs (x :: r)) 0).iterAt w.heap.size (bs (x :: r)) 1) hc1 hc2)
  have hszi := iterAt_size (w.iter (bs (x :: r)) 0) w.heap.size (bs (x :: r)) 1
  have HZ := Aside0.mk hszi
  generalize bs (x :: r) = s at *
  clear h0 h1 h2 hi hB hc1 hc2 hszi
  go_enter Tryz.func68, Tryz.ntmps68
  go_wp2
  refine wp_loop_rounds 1 ?_
  rw [rounds_succ]
  go_wp2_with (go_at_call 78; (refine HS.out.mono ?_); rintro e w2 ⟨rfl, hb⟩; have HB2 := Aside0.mk (below_then HB.out HB.out.size hb); clear hb)
  go_ret
  exact ⟨rfl, HB2.out⟩
theorem u8_ne {b c : UInt8} {n : Int} (hn : n = (c.toNat : Int)) (h : b ≠ c) : ((b.toNat : Int) == n) = false := by
  subst hn
  simp only [beq_eq_false_iff_ne, ne_eq]
  intro e
  exact h (UInt8.toNat_inj.1 (Int.ofNat_inj.mp e))
/-- The loop over the blanks, at a byte that is none. -/
def Inner (w wr : World) (k1 k2 : Nat) (s : ByteArray) (pos : Nat) : Prop :=
  ∃ q : Nat, q ≤ 2 ∧ wr.heap[k2]? = some (.stringIter (bs [32, 9]) q) ∧ wr.heap[k1]? = some (.stringIter s pos) ∧ Below w.heap.size w wr
set_option maxHeartbeats 4000000 in
theorem indexAny_none (l : List UInt8) (w : World) (ha : ∀ b ∈ l, b.toNat < 128) (h1 : (32 : UInt8) ∉ l) (h2 : (9 : UInt8) ∉ l) :
    Calls Tryz.prog 67 #[.string (bs l), .string (bs [32, 9])] w fun e w' => e = .returned (.int .i64 (-1)) ∧ Below w.heap.size w w' := by
  have HA := Aside0.mk ha
  have H1 := Aside0.mk h1
  have H2 := Aside0.mk h2
  have HI := Aside0.mk (World.iter_heap w (bs l) 0)
  have HB := Aside0.mk (below_alloc (Below.refl w.heap.size w) (.stringIter (bs l) 0))
  clear ha h1 h2
  go_enter Tryz.func67, Tryz.ntmps67
  go_wp2
  go_loopw [11] (fun _ wr => Aside0 (∃ pos : Nat, pos ≤ l.length ∧ wr.heap[w.heap.size]? = some (.stringIter (bs l) pos) ∧ Below w.heap.size w wr)) (fun _ wr => l.length - wr.iterPos w.heap.size)
  case atStart => exact ⟨0, Nat.zero_le _, HI.out, HB.out⟩
  case round =>
    obtain ⟨pos, hp, hk, hb⟩ := hrel.out
    obtain ⟨wo, rfl⟩ : ∃ wo : World, wo = wr := ⟨_, rfl⟩
    have HK := Aside0.mk hk
    have HBB := Aside0.mk hb
    clear hrel hb
    by_cases hlt : pos < l.length
    · have hm : l[pos] ∈ l := List.getElem_mem hlt
      have hnx := fun ty => next_list wo w.heap.size l pos ty HK.out hlt (HA.out _ hm)
      have hb1 : (((l[pos]).toNat : Int) == 32) = false := u8_ne (c := 32) rfl (fun e => H1.out (e ▸ hm))
      have hb2 : (((l[pos]).toNat : Int) == 9) = false := u8_ne (c := 9) rfl (fun e => H2.out (e ▸ hm))
      have HK2 := Aside0.mk (iterAt_heap wo w.heap.size (bs l) pos (pos + 1) HK.out)
      have HB2 := Aside0.mk (below_iterAt HBB.out (Nat.le_refl _) (bs l) (pos + 1))
      have HLT := Aside0.mk hlt
      have hkw := blk_lt hk
      clear hk hp hm
      generalize (l[pos]).toNat = cn at *
      go_wp2_with fail
      go_loopw [17] (fun _ wq => Aside0 (Inner w wq w.heap.size (wo.iterAt w.heap.size (bs l) (pos + 1)).heap.size (bs l) (pos + 1))) (fun _ wq => 2 - wq.iterPos (wo.iterAt w.heap.size (bs l) (pos + 1)).heap.size)
      case atStart => exact ⟨0, by omega, World.iter_heap _ _ 0, blk_alloc HK2.out _, HB2.out.alloc HB2.out.size _⟩
      case round =>
        obtain ⟨q, hq, hkq, hk1, hbq⟩ := hrel.out
        have HKQ := Aside0.mk hkq
        have HK1 := Aside0.mk hk1
        have HBQ := Aside0.mk hbq
        have hqw := Aside0.mk (show w.heap.size ≤ (wo.iterAt w.heap.size (bs l) (pos + 1)).heap.size by rw [iterAt_size]; omega)
        have hne : Aside0 (w.heap.size ≠ (wo.iterAt w.heap.size (bs l) (pos + 1)).heap.size) := ⟨by rw [iterAt_size]; omega⟩
        clear hrel hk1 hbq hnx hkq
        generalize hkk : (wo.iterAt w.heap.size (bs l) (pos + 1)).heap.size = k2 at *
        clear hkk
        match q, hq with
        | 0, _ =>
          have hnx := fun ty => next_list wr k2 [32, 9] 0 ty HKQ.out (by simp) (by decide)
          simp only [List.getElem_cons_zero] at hnx
          go_wp2
          go_roundw
          case rel => exact ⟨1, by omega, iterAt_heap wr k2 _ 0 1 HKQ.out, (iterAt_other wr k2 w.heap.size _ _ hne.out).trans HK1.out, below_iterAt HBQ.out hqw.out _ _⟩
          case measure => simp [World.iterPos, iterAt_heap wr k2 _ 0 1 HKQ.out, HKQ.out]
        | 1, _ =>
          have hnx := fun ty => next_list wr k2 [32, 9] 1 ty HKQ.out (by simp) (by decide)
          simp only [List.getElem_cons_zero, List.getElem_cons_succ] at hnx
          go_wp2
          go_roundw
          case rel => exact ⟨2, by omega, iterAt_heap wr k2 _ 1 2 HKQ.out, (iterAt_other wr k2 w.heap.size _ _ hne.out).trans HK1.out, below_iterAt HBQ.out hqw.out _ _⟩
          case measure => simp [World.iterPos, iterAt_heap wr k2 _ 1 2 HKQ.out, HKQ.out]
        | 2, _ =>
          have hnx := fun ty => next_done wr k2 [32, 9] 2 ty HKQ.out (by simp)
          go_wp2
          go_roundw
          case rel => exact ⟨pos + 1, by have := HLT.out; omega, HK1.out, HBQ.out⟩
          case measure =>
            have := HLT.out
            simp [World.iterPos, HK1.out, HK.out]
            omega
    · have hnx := fun ty => next_done wo w.heap.size l pos ty HK.out hlt
      clear hk hp hlt
      go_wp2
      go_ret
      exact ⟨rfl, HBB.out⟩
set_option maxHeartbeats 4000000 in
theorem indexAny_found (l : List UInt8) (n : Nat) (hnl : n < l.length) (h32 : l[n] = 32) (w : World) (ha : ∀ b ∈ l, b.toNat < 128) (h1 : ∀ i (h : i < l.length), i < n → l[i] ≠ 32) (h2 : ∀ i (h : i < l.length), i < n → l[i] ≠ 9) :
    Calls Tryz.prog 67 #[.string (bs l), .string (bs [32, 9])] w fun e w' => e = .returned (.int .i64 n) ∧ Below w.heap.size w w' := by
  have HA := Aside0.mk ha
  have H1 := Aside0.mk h1
  have H2 := Aside0.mk h2
  have HI := Aside0.mk (World.iter_heap w (bs l) 0)
  have HB := Aside0.mk (below_alloc (Below.refl w.heap.size w) (.stringIter (bs l) 0))
  have HN := Aside0.mk hnl
  have H32 := Aside0.mk h32
  clear ha h1 h2 h32
  go_enter Tryz.func67, Tryz.ntmps67
  go_wp2
  go_loopw [11] (fun _ wr => Aside0 (∃ pos : Nat, pos ≤ n ∧ wr.heap[w.heap.size]? = some (.stringIter (bs l) pos) ∧ Below w.heap.size w wr)) (fun _ wr => n - wr.iterPos w.heap.size)
  case atStart => exact ⟨0, Nat.zero_le _, HI.out, HB.out⟩
  case round =>
    obtain ⟨pos, hp, hk, hb⟩ := hrel.out
    obtain ⟨wo, rfl⟩ : ∃ wo : World, wo = wr := ⟨_, rfl⟩
    have HK := Aside0.mk hk
    have HBB := Aside0.mk hb
    clear hrel hb
    by_cases hlt : pos < n
    · have hlt' : pos < l.length := by omega
      have hm : l[pos] ∈ l := List.getElem_mem hlt'
      have hnx := fun ty => next_list wo w.heap.size l pos ty HK.out hlt' (HA.out _ hm)
      have hb1 : (((l[pos]).toNat : Int) == 32) = false := u8_ne (c := 32) rfl (H1.out pos hlt' hlt)
      have hb2 : (((l[pos]).toNat : Int) == 9) = false := u8_ne (c := 9) rfl (H2.out pos hlt' hlt)
      have HK2 := Aside0.mk (iterAt_heap wo w.heap.size (bs l) pos (pos + 1) HK.out)
      have HB2 := Aside0.mk (below_iterAt HBB.out (Nat.le_refl _) (bs l) (pos + 1))
      have HLT := Aside0.mk hlt
      have hkw := blk_lt hk
      clear hk hp hm
      generalize (l[pos]).toNat = cn at *
      go_wp2_with fail
      go_loopw [17] (fun _ wq => Aside0 (Inner w wq w.heap.size (wo.iterAt w.heap.size (bs l) (pos + 1)).heap.size (bs l) (pos + 1))) (fun _ wq => 2 - wq.iterPos (wo.iterAt w.heap.size (bs l) (pos + 1)).heap.size)
      case atStart => exact ⟨0, by omega, World.iter_heap _ _ 0, blk_alloc HK2.out _, HB2.out.alloc HB2.out.size _⟩
      case round =>
        obtain ⟨q, hq, hkq, hk1, hbq⟩ := hrel.out
        have HKQ := Aside0.mk hkq
        have HK1 := Aside0.mk hk1
        have HBQ := Aside0.mk hbq
        have hqw := Aside0.mk (show w.heap.size ≤ (wo.iterAt w.heap.size (bs l) (pos + 1)).heap.size by rw [iterAt_size]; omega)
        have hne : Aside0 (w.heap.size ≠ (wo.iterAt w.heap.size (bs l) (pos + 1)).heap.size) := ⟨by rw [iterAt_size]; omega⟩
        clear hrel hk1 hbq hnx hkq
        generalize hkk : (wo.iterAt w.heap.size (bs l) (pos + 1)).heap.size = k2 at *
        clear hkk
        match q, hq with
        | 0, _ =>
          have hnx := fun ty => next_list wr k2 [32, 9] 0 ty HKQ.out (by simp) (by decide)
          simp only [List.getElem_cons_zero] at hnx
          go_wp2
          go_roundw
          case rel => exact ⟨1, by omega, iterAt_heap wr k2 _ 0 1 HKQ.out, (iterAt_other wr k2 w.heap.size _ _ hne.out).trans HK1.out, below_iterAt HBQ.out hqw.out _ _⟩
          case measure => simp [World.iterPos, iterAt_heap wr k2 _ 0 1 HKQ.out, HKQ.out]
        | 1, _ =>
          have hnx := fun ty => next_list wr k2 [32, 9] 1 ty HKQ.out (by simp) (by decide)
          simp only [List.getElem_cons_zero, List.getElem_cons_succ] at hnx
          go_wp2
          go_roundw
          case rel => exact ⟨2, by omega, iterAt_heap wr k2 _ 1 2 HKQ.out, (iterAt_other wr k2 w.heap.size _ _ hne.out).trans HK1.out, below_iterAt HBQ.out hqw.out _ _⟩
          case measure => simp [World.iterPos, iterAt_heap wr k2 _ 1 2 HKQ.out, HKQ.out]
        | 2, _ =>
          have hnx := fun ty => next_done wr k2 [32, 9] 2 ty HKQ.out (by simp)
          go_wp2
          go_roundw
          case rel => exact ⟨pos + 1, by have := HLT.out; omega, HK1.out, HBQ.out⟩
          case measure =>
            have := HLT.out
            simp [World.iterPos, HK1.out, HK.out]
            omega
    · obtain rfl : pos = n := by omega
      have hnx := fun ty => next_list wo w.heap.size l pos ty HK.out hnl (HA.out _ (List.getElem_mem hnl))
      rw [H32.out] at hnx
      have HK2 := Aside0.mk (iterAt_heap wo w.heap.size (bs l) pos (pos + 1) HK.out)
      have HB2 := Aside0.mk (below_iterAt HBB.out (Nat.le_refl _) (bs l) (pos + 1))
      have hny := fun ty => next_list ((wo.iterAt w.heap.size (bs l) (pos + 1)).iter (bs [32, 9]) 0) (wo.iterAt w.heap.size (bs l) (pos + 1)).heap.size [32, 9] 0 ty (World.iter_heap _ _ 0) (by simp) (by decide)
      simp only [List.getElem_cons_zero] at hny
      have HB3 : Aside0 (Below w.heap.size w (((wo.iterAt w.heap.size (bs l) (pos + 1)).iter (bs [32, 9]) 0).iterAt (wo.iterAt w.heap.size (bs l) (pos + 1)).heap.size (bs [32, 9]) 1)) := ⟨below_iterAt (HB2.out.alloc HB2.out.size _) HB2.out.size _ _⟩
      clear hk hp hlt
      go_wp2_with fail
      refine wp_loop_rounds 1 ?_
      rw [rounds_succ]
      go_wp2
      go_ret
      exact ⟨rfl, HB3.out⟩
end Go.Proofs.YtcedefabmelogaaGreatDoor.H
/- The walks of validMethod at letters, and isValidWildcardName at names. -/
namespace Go.Proofs.YtcedefabmelogaaGreatDoor.H
open Go.RowKit Go.Lib Go.Proofs.YtcedefabmelogaaGreatDoorW.PrintWords Go.Proofs.YtcedefabmelogaaGreatDoorW.PrintLast Go.Proofs.YtcedefabmelogaaGreatDoorW.PrintMore
set_option linter.unusedVariables false
set_option linter.unusedSimpArgs false
set_option maxRecDepth 100000
/-- A letter of ASCII. -/
def Letter (b : UInt8) : Prop := (65 ≤ b.toNat ∧ b.toNat ≤ 90) ∨ (97 ≤ b.toNat ∧ b.toNat ≤ 122)
set_option maxHeartbeats 4000000 in
theorem validMethod_letters (l : List UInt8) (w : World) (hne : l ≠ []) (ha : ∀ b ∈ l, Letter b) (hs : l.length ≤ 9223372036854775807) :
    Calls Tryz.prog 69 #[.string (bs l)] w fun e w' => e = .returned (.bool true) ∧ w' = w := by
  have HA : Aside0 (∀ x : Int, 0 ≤ x → x < (bs l).size → (65 ≤ bt (bs l) x ∧ bt (bs l) x ≤ 90) ∨ (97 ≤ bt (bs l) x ∧ bt (bs l) x ≤ 122)) := by
    refine ⟨fun x h0 h1 => ?_⟩
    have h1' : x.toNat < l.length := by rw [bs_size] at h1; omega
    have := bs_bt l x.toNat h1'
    rw [show ((x.toNat : Nat) : Int) = x by omega] at this
    rw [this]
    have := ha _ (List.getElem_mem h1')
    unfold Letter at this
    omega
  have hs' : (bs l).size ≤ 9223372036854775807 := by rw [bs_size]; exact hs
  have hnb : decide (bs l = (⟨#[]⟩ : ByteArray)) = false := by
    rw [decide_eq_false_iff_not]
    intro e
    exact hne (bs_inj (e.trans bs_nil.symm))
  have hse := str_empty (bs l)
  rw [hnb] at hse
  clear ha hs hne hnb
  generalize bs l = s at *
  go_enter Tryz.func69, Tryz.ntmps69
  go_wp2
  go_loop [3] (fun i => ∃ x : Int, 0 ≤ x ∧ x ≤ s.size ∧ i = .int .i64 x) (fun i => s.size - (intOf i).toNat)
  case atStart => exact ⟨0, by omega, by omega, rfl⟩
  case round =>
    obtain ⟨x, h0, h1, rfl⟩ := hrel
    by_cases hlt : x < (s.size : Int)
    · have hx := bt_at s x
      have hb := HA.out x h0 hlt
      generalize bt s x = c at *
      rcases hb with hb | hb
      · have e1 : decide ((97:Int) ≤ c) = false := by simp; omega
        have e2 : decide ((65:Int) ≤ c) = true := by simp; omega
        have e3 : decide (c ≤ (90:Int)) = true := by simp; omega
        go_wp2
        all_goals go_round
        all_goals first | exact ⟨x + 1, by omega, by omega, by go_num⟩ | (simp [intOf]; omega)
      · have e1 : decide ((97:Int) ≤ c) = true := by simp; omega
        have e3 : decide (c ≤ (122:Int)) = true := by simp; omega
        go_wp2
        all_goals go_round
        all_goals first | exact ⟨x + 1, by omega, by omega, by go_num⟩ | (simp [intOf]; omega)
    · go_wp2
      go_ret
      exact ⟨rfl, rfl⟩
end Go.Proofs.YtcedefabmelogaaGreatDoor.H
/- The walk of isValidWildcardName at names of ASCII. -/
namespace Go.Proofs.YtcedefabmelogaaGreatDoor.H
open Go.RowKit Go.Lib Go.Proofs.YtcedefabmelogaaGreatDoorW.PrintWords Go.Proofs.YtcedefabmelogaaGreatDoorW.PrintLast Go.Proofs.YtcedefabmelogaaGreatDoorW.PrintMore
set_option linter.unusedVariables false
set_option linter.unusedSimpArgs false
set_option maxRecDepth 100000
/-- The world holds the table of unicode's properties. -/
def Tab (w : World) : Prop := Lib.TabIs Tryz.prog w "unicode.properties" .u8 Lib.propertiesTab
theorem Tab.below {w0 w : World} (h : Tab w0) (hb : Below w0.heap.size w0 w) : Tab w := by
  unfold Tab Lib.TabIs World.var? at h ⊢
  revert h
  cases Tryz.prog.globalNamed "unicode.properties" with
  | none => simp
  | some g =>
    simp only [Option.bind_some]
    intro h
    have hg : g < w0.heap.size := by
      rcases Nat.lt_or_ge g w0.heap.size with hg | hg
      · exact hg
      · rw [Array.getElem?_eq_none hg] at h; simp at h
    rw [hb.block g hg]
    exact h
/-- A byte of a name: a letter or a stroke. -/
def NameHead (b : UInt8) : Prop := (65 ≤ b.toNat ∧ b.toNat ≤ 90) ∨ (97 ≤ b.toNat ∧ b.toNat ≤ 122) ∨ b.toNat = 95
def NameTail (b : UInt8) : Prop := NameHead b ∨ (48 ≤ b.toNat ∧ b.toNat ≤ 57)
set_option maxHeartbeats 4000000 in
theorem wildcardName (l : List UInt8) (w : World) (h0 : ∃ b t, l = b :: t ∧ NameHead b) (ha : ∀ b ∈ l, NameTail b) (ht : Tab w) :
    Calls Tryz.prog 74 #[.string (bs l)] w fun e w' => e = .returned (.bool true) ∧ Below w.heap.size w w' := by
  have HA := Aside0.mk ha
  have H0 := Aside0.mk h0
  have HT := Aside0.mk ht
  have hne : decide (bs l = (⟨#[]⟩ : ByteArray)) = false := by
    rw [decide_eq_false_iff_not]
    intro e
    obtain ⟨b, t, hl, _⟩ := h0
    have := bs_inj (e.trans bs_nil.symm)
    rw [hl] at this
    exact absurd this (by simp)
  have hse := str_empty (bs l)
  rw [hne] at hse
  have HI := Aside0.mk (World.iter_heap w (bs l) 0)
  have HB := Aside0.mk (below_alloc (Below.refl w.heap.size w) (.stringIter (bs l) 0))
  clear ha h0 ht hne
  go_enter Tryz.func74, Tryz.ntmps74
  go_wp2
  go_loopw [9] (fun _ wr => Aside0 (∃ pos : Nat, pos ≤ l.length ∧ wr.heap[w.heap.size]? = some (.stringIter (bs l) pos) ∧ Below w.heap.size w wr)) (fun _ wr => l.length - wr.iterPos w.heap.size)
  case atStart => exact ⟨0, Nat.zero_le _, HI.out, HB.out⟩
  case round =>
    obtain ⟨pos, hp, hk, hb⟩ := hrel.out
    obtain ⟨wo, rfl⟩ : ∃ wo : World, wo = wr := ⟨_, rfl⟩
    have HK := Aside0.mk hk
    have HBB := Aside0.mk hb
    clear hrel hb
    by_cases hlt : pos < l.length
    · have hm : NameTail l[pos] := HA.out _ (List.getElem_mem hlt)
      have hz : pos = 0 → NameHead l[pos] := by
        rintro rfl
        obtain ⟨b, t, hl, hb⟩ := H0.out
        subst hl
        exact hb
      have h128 : (l[pos]).toNat < 128 := by unfold NameTail NameHead at hm; omega
      have hnx := fun ty => next_list wo w.heap.size l pos ty HK.out hlt h128
      have HK2 := Aside0.mk (iterAt_heap wo w.heap.size (bs l) pos (pos + 1) HK.out)
      have HB2 := Aside0.mk (below_iterAt HBB.out (Nat.le_refl _) (bs l) (pos + 1))
      have HL := Aside0.mk (fun (w' : World) (hb : Below w.heap.size w w') => Tryz.unicode_IsLetter_laid (l[pos]).toNat w' (by omega) (HT.out.below hb))
      have HD := Aside0.mk (fun (w' : World) => Tryz.unicode_IsDigit (l[pos]).toNat w' (by omega))
      have HLT := Aside0.mk hlt
      unfold NameTail NameHead at hm
      unfold NameHead at hz
      clear hk hp
      generalize (l[pos]).toNat = cn at *
      by_cases hlet : (65 ≤ cn ∧ cn ≤ 90) ∨ (97 ≤ cn ∧ cn ≤ 122)
      · have hL : Lib.isLetterL (cn : Int) = true := by unfold Lib.isLetterL Lib.isUpperL Lib.isLowerL; simp; omega
        rw [hL] at HL
        clear hm hz hlet h128
        go_wp2_with (first | (go_at_call 84; refine (HL.out _ HB2.out).mono ?_; rintro e w' ⟨rfl, rfl⟩) | (go_at_call 85; refine (HD.out _).mono ?_; rintro e w' ⟨rfl, rfl⟩))
        all_goals go_roundw
        all_goals first | exact ⟨pos + 1, by have := HLT.out; omega, HK2.out, HB2.out⟩ | (have := HLT.out; simp [World.iterPos, HK2.out, HK.out]; omega)
      · have hL : Lib.isLetterL (cn : Int) = false := by unfold Lib.isLetterL Lib.isUpperL Lib.isLowerL; simp; omega
        rw [hL] at HL
        by_cases h95 : cn = 95
        · have hc : ((cn : Nat) : Int) = 95 := by omega
          simp only [hc] at hnx HL HD
          clear hm hz hlet h128 h95 hc hL
          go_wp2_with (first | (go_at_call 84; refine (HL.out _ HB2.out).mono ?_; rintro e w' ⟨rfl, rfl⟩) | (go_at_call 85; refine (HD.out _).mono ?_; rintro e w' ⟨rfl, rfl⟩))
          all_goals go_roundw
          all_goals first | exact ⟨pos + 1, by have := HLT.out; omega, HK2.out, HB2.out⟩ | (have := HLT.out; simp [World.iterPos, HK2.out, HK.out]; omega)
        · have hb1 : (((cn : Nat) : Int) == 95) = false := by simp; omega
          have hD : Lib.isDigitL (cn : Int) = true := by unfold Lib.isDigitL; simp; omega
          rw [hD] at HD
          have hp0 : (((pos : Nat) : Int) == 0) = false := by simp; omega
          clear hm hz hlet h128 h95
          go_wp2_with (first | (go_at_call 84; refine (HL.out _ HB2.out).mono ?_; rintro e w' ⟨rfl, rfl⟩) | (go_at_call 85; refine (HD.out _).mono ?_; rintro e w' ⟨rfl, rfl⟩))
          all_goals go_roundw
          all_goals first | exact ⟨pos + 1, by have := HLT.out; omega, HK2.out, HB2.out⟩ | (have := HLT.out; simp [World.iterPos, HK2.out, HK.out]; omega)
    · have hnx := fun ty => next_done wo w.heap.size l pos ty HK.out hlt
      clear hk hp hlt
      go_wp2
      go_ret
      exact ⟨rfl, HBB.out⟩
end Go.Proofs.YtcedefabmelogaaGreatDoor.H
