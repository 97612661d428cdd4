/- impl.Methods returns the methods told, each once; the plain law of the tree of patterns. -/
import Derived.Test.YtcedefabmelogaaGreatDoorV08
import Derived.Sort.OwnSorted
/- The walk of tree: all patterns are read and laid. -/
namespace Go.Proofs.YtcedefabmelogaaGreatDoor.H
open Go.RowKit Go.WideMaps Go.WideElems Go.Proofs.YtcedefabmelogaaGreatDoorW.PrintWords Go.Proofs.YtcedefabmelogaaGreatDoorW.PrintLast Go.Proofs.YtcedefabmelogaaGreatDoorW.PrintMore
open Go.Proofs.YtcedefabmelogaaGreatDoor.PFnAllowed
open Classical
set_option linter.unusedVariables false
set_option linter.unusedSimpArgs false
/-- 'must' reads the text t as the pattern p, in whatever world behind w00. -/
def MustOk (w00 : World) (t : ByteArray) (p : S35) : Prop := ∀ w, Below w00.heap.size w00 w →
  Calls Tryz.prog 36 #[.string t] w fun e w' => ∃ pb, e = .returned (.pointer (some ⟨pb, 0, none⟩)) ∧ PatAt w' pb p.f0 p.f1 p.f2 ∧ Below w.heap.size w w'
theorem addPattern_inv {w : World} {lo root : Nat} {ps : List S35} {S : TS} (I : TreeInv w lo root ps S) (p : S35) (pb : Nat) (ha : Addr) (hP : PatAt w pb p.f0 p.f1 p.f2) (hp : PatOk p) (hnew : ∀ p', p' ∈ ps → pth p' ≠ pth p) (hlo : lo ≤ w.heap.size) (h10 : ps.length ≤ 10) (hps : ∀ p, p ∈ ps → PatOk p) :
    Calls Tryz.prog 35 #[.pointer (some ⟨root, 0, none⟩), .pointer (some ⟨pb, 0, none⟩), .pointer (some ha)] w fun e w' => e = .returned (.tuple #[]) ∧ (∃ S', TreeInv w' lo root (ps ++ [p]) S') ∧ Below lo w w' := by
  have hpn : S.pat (pth p) = none := by
    cases h : S.pat (pth p) with
    | none => rfl
    | some x =>
      obtain ⟨p', h1, h2⟩ := (I.pat (pth p)).1 (by rw [h]; rfl)
      exact absurd h2.symm (hnew p' h1)
  have hlen := I.len
  have hl6 := hp.len
  have H := addPattern_any I.tree pb ha p.f0 p.f1 p.f2 hP hlo hp.m hp.h hp.seg hp.last hpn (fun r hr => by
    obtain ⟨p', h1, h2⟩ := I.mult hps r hr
    obtain ⟨pb', ha', h3, _⟩ := I.at_ p' h1
    rw [h2, h3]
    simp) (by simp only [maxLen]; omega)
  rw [I.rootl] at H
  refine H.mono ?_
  rintro e w' ⟨S', rfl, hL⟩
  exact ⟨rfl, ⟨S', I.step p pb ha hP hp hL hnew⟩, hL.1.fr.below hlo (fun i hi => (I.tree.foot_bd i hi).1)⟩
theorem str_cell {w : World} {A : Option Addr} {ts : List ByteArray} (h : Kd.C Kd.string w A ts.length ts) (i : Nat) (hi : i < ts.length) : ∃ ad, A = some ad ∧ w.cell? (ad.add i) = some (.string ts[i]) := by
  obtain ⟨ad, e, hc⟩ := Kd.at_string h (i : Int) (by omega) (by omega)
  refine ⟨ad, e, ?_⟩
  rw [Int.toNat_natCast] at hc
  rw [hc]
  simp [rdOf, hi]
set_option maxHeartbeats 2000000 in
set_option maxRecDepth 100000 in
theorem tree_any {w00 w : World} (hw : Below w00.heap.size w00 w) (ts : List ByteArray) (ps : List S35) (A : Option Addr) (c : Nat) (hC : Kd.C Kd.string w A ts.length ts) (hlen : ts.length = ps.length) (h10 : ps.length ≤ 10)
    (hmust : ∀ i (h1 : i < ts.length) (h2 : i < ps.length), MustOk w00 ts[i] ps[i]) (hok : ∀ p, p ∈ ps → PatOk p) (hdist : ∀ i (hi : i < ps.length), ∀ p', p' ∈ ps.take i → pth p' ≠ pth ps[i]) :
    Calls Tryz.prog 29 #[.slice A ts.length c] w fun e w' => ∃ S, e = .returned (.pointer (some ⟨w.heap.size, 0, none⟩)) ∧ TreeInv w' w.heap.size w.heap.size ps S ∧ Below w.heap.size w w' := by
  have HI0 := Aside0.mk (treeInv_new w w.heap.size (Nat.le_refl _))
  have HB0 : Aside0 (Below w.heap.size w (w.alloc (.cells #[.pointer none, .pointer none, .slice none 0 0, .map none, .pointer none, .pointer none] 73))) := ⟨below_alloc (Below.refl _ _) _⟩
  have HW := Aside0.mk hw
  have HC := Aside0.mk hC
  have HM := Aside0.mk hmust
  have HOK := Aside0.mk hok
  have HD := Aside0.mk hdist
  have H10 := Aside0.mk h10
  have HLE := Aside0.mk hlen
  have hts : ts.length ≤ 10 := by omega
  clear hw hC hmust hok hdist h10 hlen
  go_enter Tryz.func29, Tryz.ntmps29
  go_wp2
  go_loopw [11] (fun v wr => ∃ i : Nat, i ≤ ts.length ∧ v = .int .i64 i ∧ Aside0 (∃ S, TreeInv wr w.heap.size w.heap.size (ps.take i) S) ∧ Aside0 (Below w.heap.size w wr)) (fun v _ => ts.length - (intOf v).toNat)
  case atStart => exact ⟨0, Nat.zero_le _, rfl, ⟨_, HI0.out⟩, HB0⟩
  case round =>
    obtain ⟨i, hi, rfl, HI, HB⟩ := hrel
    by_cases hlt : i < ts.length
    · obtain ⟨ad, e, k0⟩ := str_cell HC.out i hlt
      subst e
      replace k0 := pw_cell_below HB.out k0
      have hlp : i < ps.length := by have := HLE.out; omega
      obtain ⟨S, hI⟩ := HI.out
      have HI := Aside0.mk hI
      clear hI
      have HLP := Aside0.mk hlp
      have HLT := Aside0.mk hlt
      have HT : Aside0 (ps.take (i + 1) = ps.take i ++ [ps[i]]) := ⟨(List.take_append_getElem hlp).symm⟩
      have HP := Aside0.mk (HOK.out _ (List.getElem_mem hlp))
      have HDI := Aside0.mk (HD.out i hlp)
      have HSZ := Aside0.mk (show (ps.take i).length ≤ 10 by have := H10.out; simp; omega)
      go_wp2_with (first
        | (go_at_call 36; refine (HM.out i HLT.out HLP.out _ ((HW.out.trans (HB.out.mono HW.out.size)).alloc (Nat.le_trans HW.out.size HB.out.size) _)).mono ?_; rintro e w2 ⟨pb, rfl, hpat, hb⟩; have HB2 := Aside0.mk (below_then (HB.out.alloc HB.out.size (.cells #[.int .i64 i] 3)) (by simp; exact Nat.le_succ_of_le HB.out.size) hb); have HI2 := Aside0.mk ((HI.out.below (below_alloc (Below.refl _ _) (.cells #[.int .i64 i] 3))).below hb); have HPA := Aside0.mk hpat; clear hb hpat)
        | (go_at_call 35; refine (addPattern_inv HI2.out ps[i] pb ⟨wr.heap.size, 0, none⟩ HPA.out HP.out HDI.out HB2.out.size HSZ.out (fun p hp => HOK.out p (List.mem_of_mem_take hp))).mono ?_; rintro e w3 ⟨rfl, hI3, hb3⟩; have HI3 := Aside0.mk hI3; have HB3 := Aside0.mk (HB2.out.trans hb3); clear hI3 hb3))
      go_roundw
      case rel => exact ⟨i + 1, by omega, by go_num, ⟨by rw [HT.out]; exact HI3.out⟩, HB3⟩
      case measure => simp [intOf]; omega
    · have hie : i = ts.length := by omega
      subst hie
      obtain ⟨S, hI⟩ := HI.out
      rw [List.take_of_length_le (by have := HLE.out; omega)] at hI
      have HI := Aside0.mk hI
      clear hI
      go_wp2
      go_ret
      exact ⟨S, rfl, HI.out, HB.out⟩
end Go.Proofs.YtcedefabmelogaaGreatDoor.H
/- The walks of MatchingMethods and Methods. -/
namespace Go.Proofs.YtcedefabmelogaaGreatDoor.H
open Go.RowKit Go.WideMaps Go.WideElems Go.Sort Go.Proofs.YtcedefabmelogaaGreatDoorW.PrintWords Go.Proofs.YtcedefabmelogaaGreatDoorW.PrintLast Go.Proofs.YtcedefabmelogaaGreatDoorW.PrintMore
open Go.Proofs.YtcedefabmelogaaGreatDoor.PFnAllowed
open Classical
set_option linter.unusedVariables false
set_option linter.unusedSimpArgs false
set_option maxRecDepth 100000
/-- What is known of the tree that was built. -/
def TreeSays (S : TS) (ps : List S35) : Prop :=
  (∀ r, r ∈ S.dom ↔ r = [] ∨ ∃ p, p ∈ ps ∧ ∃ j, j ≤ (pth p).length ∧ r = (pth p).take j) ∧ (∀ r, (S.pat r).isSome = true ↔ ∃ p, p ∈ ps ∧ r = pth p)
/-- What is asked of the patterns and their texts. -/
structure Given (w00 : World) (ts : List ByteArray) (ps : List S35) : Prop where
  len : ts.length = ps.length
  ten : ps.length ≤ 10
  must : ∀ i (h1 : i < ts.length) (h2 : i < ps.length), MustOk w00 ts[i] ps[i]
  ok : ∀ p, p ∈ ps → PatOk p
  dist : ∀ i (hi : i < ps.length), ∀ p', p' ∈ ps.take i → pth p' ≠ pth ps[i]
set_option maxHeartbeats 2000000 in
set_option maxRecDepth 100000 in
theorem matchingMethods_any {w00 w : World} (hw : Below w00.heap.size w00 w) (ts : List ByteArray) (ps : List S35) (G : Given w00 ts ps) (A : Option Addr) (c : Nat) (hC : Kd.C Kd.string w A ts.length ts) (host : ByteArray) (hh : host.size ≤ maxLen)
    (items : List (List UInt8)) (hi : ItemsOk items) (hl : (pathT items).length < 4294967296) (hn : items.length ≤ 900) :
    Calls Tryz.prog 19 #[.slice A ts.length c, .string host, .string (bs (pathT items))] w fun e w' => ∃ S, e = .returned (.map (some w.heap.size)) ∧ TreeSays S ps ∧ MapB w' w.heap.size 1000000 (allowedM S items host) ∧ Below w.heap.size w w' := by
  have hB1 := below_alloc (Below.refl w.heap.size w) (.map #[] 0)
  have hT := tree_any (w := w.alloc (.map #[] 0)) (hw.alloc hw.size _) ts ps A c (Kd.C_below hC hB1) G.len G.ten G.must G.ok G.dist
  have hsz : (w.alloc (.map #[] 0)).heap.size = w.heap.size + 1 := by simp
  rw [hsz] at hT
  have hM0 : MapB (w.alloc (.map #[] 0)) w.heap.size 0 (fun _ => false) := ⟨.map [], World.ownsMap_made w _ _ _, fun _ => rfl, by simp⟩
  have HT := Aside0.mk hT
  have HM := Aside0.mk hM0
  have HG := Aside0.mk G
  have HB := Aside0.mk hB1
  have HH := Aside0.mk hh
  have HI := Aside0.mk (And.intro hi (And.intro hl hn))
  have hmm := @run_makeMap Tryz.prog
  clear hT hM0 G hB1 hw hC hh hi hl hn hsz
  go_enter Tryz.func19, Tryz.ntmps19
  go_wp2_with (first
    | (go_at_call 29; refine HT.out.mono ?_; rintro e w1 ⟨S, rfl, hI, hb⟩; have HTI := Aside0.mk hI; have HB1 := Aside0.mk hb; clear hb hI)
    | (go_at_call 30; have HR := HTI.out.rootl; have HC := mm_any (HTI.out.stand HG.out.ok) host HH.out items HI.out.1 HI.out.2.1 HI.out.2.2 w.heap.size (HM.out.kept (row := none) ⟨HB1.out.os, HB1.out.tape, HB1.out.output, HB1.out.size, fun i hi _ => HB1.out.block i (by simp at hi; exact hi)⟩ (by simp)) (Nat.lt_succ_self _) (by have := HTI.out.len; have := HG.out.ten; omega); rw [HR] at HC; clear HR; (with_reducible refine HC.mono ?_); clear HC; rintro e w2 ⟨rfl, hg, hm⟩; have HM2 := Aside0.mk hm; have HB2 := Aside0.mk ((HB.out.trans (HB1.out.mono (Nat.le_succ _))).grown hg (by have := HB1.out.size; simp at this; omega) (fun k hk => by injection hk with hk; omega)); clear hg hm))
  go_ret
  exact ⟨S, rfl, ⟨HTI.out.dom, HTI.out.pat⟩, HM2.out, HB2.out⟩
/-- The step of a range over a set of texts. -/
theorem wpList_next_set (w : World) {ops : Array Oper} {rest : List Oper} {o : Oper} {a : Act} {Q : Exit → Act → World → Prop} (hg : o.guard = none) (it : Operand) (hop : o.op = Op.next it false) (b r n : Nat) (D : DataW Unit) (left : Lit → Bool) (cnt : Nat)
    (hit : a.eval it = .pointer (some ⟨r, 0, none⟩)) (h : w.ranges Tryz.prog 9 (plainElem Tryz.prog 4) b r n D left cnt) (ht : ∀ k, Maps.has D (kl k) = true → ∀ z, D.atKey (kl k) z = .lit (.bool true))
    (hDone : cnt = 0 → (∀ l, left l = false) → wpList Tryz.prog ops Q rest (a.put o.dst (.tuple #[.bool false])) w)
    (hMore : ∀ (x : ByteArray) (w' : World) (cnt' : Nat), x.size ≤ maxLen → Maps.has D (kl x) = true → left (kl x) = true → w'.ranges Tryz.prog 9 (plainElem Tryz.prog 4) b r n D (fun z => left z && !z.sameKey (kl x)) cnt' → cnt' < cnt →
      w.grownBy w' (some r) → w'.heap.size = w.heap.size → (Instr.entry (.pointer (some ⟨r, 0, none⟩))).run Tryz.prog w' = .ok (.tuple #[.string x, .bool true]) w' → wpList Tryz.prog ops Q rest (a.put o.dst (.tuple #[.bool true, .string x, .bool true])) w') :
    wpList Tryz.prog ops Q (o :: rest) a w :=
  wpList_next_ranges w hg it hop 9 K9 (plainElem Tryz.prog 4) Value.string Value.bool (fun key kl' hkey => by obtain ⟨s, h1, _⟩ := string_of_keyOf Tryz.underlying9 hkey; exact ⟨s, h1⟩) (fun v y hv => by obtain ⟨b, h1, _⟩ := plainElem_bool_inv hv; exact ⟨b, h1⟩)
    b r n D left cnt hit h hDone (fun x c kl' y w' cnt' hkey hlx hRv hat hrg hlt hgr hsz hen => by
      obtain ⟨x', hx', hkl, hxs⟩ := string_of_keyOf Tryz.underlying9 hkey
      injection hx' with hx'
      subst hx'
      have hkl' : kl' = kl x := hkl
      subst hkl'
      have hhas : Maps.has D (kl x) = true := Maps.has_true_of_atKey hat
      have hb : c = true := by
        have h1 := hat .nil
        rw [ht x hhas] at h1
        obtain ⟨b', hb1, hz⟩ := plainElem_bool_inv hRv
        injection hb1 with hb1
        rw [hz] at h1
        injection h1 with h1
        injection h1 with h1
        rw [hb1, ← h1]
      subst hb
      exact hMore x w' cnt' hxs hhas hlx hrg hlt hgr hsz hen)
/-- The loop that collects the methods, under way. -/
def Coll (w wr : World) (bm r : Nat) (D : DataW Unit) (v : Value) : Prop :=
  ∃ (left : Lit → Bool) (cnt : Nat) (ss : List (List UInt8)), wr.ranges Tryz.prog 9 (plainElem Tryz.prog 4) bm r 1000000 D left cnt ∧ wr.ownsRow w.heap.size 9 1 v ss.length (ss.map encStr) ∧ v ≠ .slice none 0 0 ∧ RowKit.Below w.heap.size w wr ∧
    ss.Nodup ∧ (∀ x, x ∈ ss ↔ (Maps.has D (kl (bs x)) = true ∧ left (kl (bs x)) = false)) ∧ ss.length + cnt ≤ 1000000
set_option maxHeartbeats 4000000 in
set_option maxRecDepth 100000 in
theorem methods_any {w00 w : World} (hw : RowKit.Below w00.heap.size w00 w) (ts : List ByteArray) (ps : List S35) (G : Given w00 ts ps) (A : Option Addr) (c : Nat) (hC : Kd.C Kd.string w A ts.length ts) (host : ByteArray) (hh : host.size ≤ maxLen)
    (items : List (List UInt8)) (hi : ItemsOk items) (hl : (pathT items).length < 4294967296) (hn : items.length ≤ 900) :
    Calls Tryz.prog 10 #[.slice A ts.length c, .string host, .string (bs (pathT items))] w fun e w' => ∃ (S : TS) (v : Value) (l : List ByteArray), e = .returned v ∧ TreeSays S ps ∧ w'.ownsRow w.heap.size 9 1 v l.length (l.map Value.string) ∧ l.Nodup ∧
      (∀ j, j ∈ l ↔ allowedM S items host j = true) ∧ RowKit.Below w.heap.size w w' := by
  have hB1 := below_alloc (RowKit.Below.refl w.heap.size w) (.cells #[] 9)
  have hsz : (w.alloc (.cells #[] 9)).heap.size = w.heap.size + 1 := by simp
  have hT := matchingMethods_any (w := w.alloc (.cells #[] 9)) (hw.alloc hw.size _) ts ps G A c (Kd.C_below hC hB1) host hh items hi hl hn
  rw [hsz] at hT
  have hO : (w.alloc (.cells #[] 9)).ownsRow w.heap.size 9 1 (.slice (some ⟨w.heap.size, 0, none⟩) 0 0) 0 [] := World.ownsRow_made w #[] 0 (Nat.le_refl _) (Nat.zero_le _) rfl
  have HT := Aside0.mk hT
  have HO := Aside0.mk hO
  have HB := Aside0.mk hB1
  clear hT hO hB1 hw hC hh hi hl hn hsz G
  go_enter Tryz.func10, Tryz.ntmps10
  go_wp2_with (first
    | (go_at_call 19; refine HT.out.mono ?_; rintro e w1 ⟨S, rfl, hS, hm, hb⟩; obtain ⟨D, hD, h1, h2⟩ := hm; have HS := Aside0.mk hS; have HD := Aside0.mk hD; have H1 := Aside0.mk h1; have H2 := Aside0.mk h2; have HB1 := Aside0.mk (below_then HB.out (by simp) (by simpa using hb)); have HO1 := Aside0.mk (pw_own_below HO.out (by simpa using hb)); clear hS hD h1 h2 hb)
    | (at_range; refine wpList_range_own _ rfl _ 47 rfl 9 4 K9 Tryz.underlying47 (plainElem Tryz.prog 4) (w.heap.size + 1) 1000000 D rfl HD.out ?_; intro w2 hrg0 hg0 hs0; have HR0 := Aside0.mk hrg0; have HG0 := Aside0.mk hg0; have HL0 := Aside0.mk HD.out.lt; clear hrg0 hg0 hs0))
  go_frame
  go_loopw [7] (fun v wr => Aside0 (Coll w wr (w.heap.size + 1) w1.heap.size D v)) (fun _ wr => wr.rangeLeft (w.heap.size + 1) w1.heap.size)
  case atStart =>
    exact ⟨_, _, [], HR0.out, HO1.out.kept HG0.out (by simp [Value.ownBlock]), by simp, HB1.out.grown HG0.out HB1.out.size (by simp), List.nodup_nil, by simp, by have := HD.out.size_le; simpa using this⟩
  case round =>
    obtain ⟨left, cnt, ss, hrg, hown, hne, hbe, hnd, hmem, hct⟩ := hrel.out
    have HRG := Aside0.mk hrg
    have HOW := Aside0.mk hown
    have HNE := Aside0.mk hne
    have HBE := Aside0.mk hbe
    have HND := Aside0.mk hnd
    have HME := Aside0.mk hmem
    have HCT := Aside0.mk hct
    clear hrel hrg hown hne hbe hnd hmem hct
    go_wp2_with (at_next; refine wpList_next_set _ rfl _ rfl (w.heap.size + 1) w1.heap.size 1000000 D left cnt rfl HRG.out (fun k hk => H2.out k (by rw [← H1.out]; exact hk)) ?_ ?_)
    · intro _ hl0
      rcases HOW.out.2 with ⟨hnil, _⟩ | ⟨g, cap, cur, rfl, hbase, hb, g1, g2, g3, g4⟩
      · exact absurd hnil HNE.out
      · have hH : Holds encStr wr g 0 ss.toArray := holds_of_block hb (by simpa using g4)
        have HSO := Aside0.mk (Tryz.slices_Sort_string g 0 cap ss wr hH (blk_lt hb) (by have := HCT.out; omega))
        have HBB := Aside0.mk (And.intro hbase (And.intro hb (And.intro g1 (And.intro g2 g3))))
        have HL := Aside0.mk hl0
        clear hl0 hbase hb g1 g2 g3 g4 hH
        go_wp2_with (go_at_call 20; (with_reducible refine HSO.out.mono ?_); rintro e w' ⟨rfl, nn, os, hw'⟩; have HW' := Aside0.mk hw'; clear hw')
        go_ret
        obtain ⟨hbase, hb, g1, g2, g3⟩ := HBB.out
        have hlen : (ss.mergeSort fun x y => decide (x ≤ y)).length = ss.length := by simp
        have hown := ownsRow_sorted (n := nn) (os := os) hlen hbase hb g1 g2 g3
        have hgr := grownBy_sorted (w := wr) (g := g) (n := nn) (os := os) (ss.mergeSort fun x y => decide (x ≤ y)).toArray
        rw [← HW'.out] at hown hgr
        refine ⟨S, _, (ss.mergeSort fun x y => decide (x ≤ y)).map bs, rfl, HS.out, ?_, ?_, ?_, HBE.out.grown hgr HBE.out.size (fun k hk => by injection hk with hk; omega)⟩
        · have e1 : ((ss.mergeSort fun x y => decide (x ≤ y)).map bs).map Value.string = (ss.mergeSort fun x y => decide (x ≤ y)).map encStr := by
            rw [List.map_map]; rfl
          rw [e1, List.length_map, hlen]
          exact hown
        · have hp := List.mergeSort_perm ss (fun x y => decide (x ≤ y))
          exact ((hp.nodup_iff).2 HND.out).map _ (fun a b hab h => hab (bs_inj h))
        · intro j
          have hp := List.mergeSort_perm ss (fun x y => decide (x ≤ y))
          rw [← H1.out]
          constructor
          · intro hj
            obtain ⟨x, hx, rfl⟩ := List.mem_map.1 hj
            exact ((HME.out x).1 ((hp.mem_iff).1 hx)).1
          · intro hj
            refine List.mem_map.2 ⟨j.data.toList, (hp.mem_iff).2 ((HME.out _).2 ?_), bs_of j⟩
            rw [bs_of]
            exact ⟨hj, HL.out _⟩
    · intro x w3 cnt1 hxs hhas hlx hrg1 hlt hg1 hs1 hen
      have hne2 := row_ne_iter HOW.out HRG.out
      have HO3 := Aside0.mk (HOW.out.kept hg1 (.inr (Ne.symm hne2)))
      have HB3 := Aside0.mk (HBE.out.grown hg1 HBE.out.size (fun k hk => by injection hk with hk; have := HB1.out.size; omega))
      have HX := Aside0.mk (And.intro hhas (And.intro hxs hlx))
      have HRG1 := Aside0.mk hrg1
      have HLT := Aside0.mk hlt
      clear hlx hrg1 hlt hg1 hs1 hhas hne2 hxs
      go_wp2_with (at_builtin; refine wpList_append_keep _ rfl _ _ 26 rfl w.heap.size 9 (.string ⟨#[]⟩) 16 Tryz.underlying26 info9 rfl u7 ss.length (ss.map encStr) rfl (HO3.out.alloc _) ⟨w3.heap.size, 0, none⟩ 1 (.string x) rfl ?c1 rfl ?c2 ?c3 ?c4 ?_; (case c1 => simp); (case c2 => have := HCT.out; simp only [maxLen]; omega); (case c3 => have := HCT.out; omega); (case c4 => have := HB3.out.size; simp; omega); intro v8 w8 hown8 hkeep8 hg8 hblk8; have HO8 := Aside0.mk hown8; have HG8 := Aside0.mk hg8; have HK8 := Aside0.mk hblk8; clear hown8 hkeep8 hg8 hblk8)
      go_roundw
      case rel =>
        obtain ⟨hhas, hxs, hlx⟩ := HX.out
        have hr1 := (HRG1.out.alloc (.cells #[.string x] 9)).kept HG8.out (by
            intro e
            obtain ⟨cells, hcells⟩ := own_typed HO3.out _ e.symm
            obtain ⟨es, clock, hb, _⟩ := HRG1.out.owns
            rw [hb] at hcells
            cases hcells) (row_ne_iter HO3.out HRG1.out)
        refine ⟨_, cnt1, ss ++ [x.data.toList], hr1, ?_, ?_, (HB3.out.alloc HB3.out.size _).grown HG8.out (by have := HB3.out.size; simp; omega) (fun k hk => own_base HO3.out k hk), ?_, fun y => ?_, by have := HCT.out; have := HLT.out; simp; omega⟩
        · have e1 : (ss ++ [x.data.toList]).map encStr = ss.map encStr ++ [.string x] := by
            rw [List.map_append]
            show ss.map encStr ++ [Value.string (bs x.data.toList)] = _
            rw [bs_of]
          rw [e1, List.length_append]
          exact HO8.out
        · intro e
          have h8 := HO8.out
          rw [e] at h8
          rcases h8.2 with ⟨_, h0⟩ | ⟨g, cap, cur, hv, _⟩
          · omega
          · cases hv
        · refine List.nodup_append.2 ⟨HND.out, by simp, fun y hy z hz => ?_⟩
          simp at hz
          subst hz
          rintro rfl
          have := ((HME.out _).1 hy).2
          rw [bs_of, hlx] at this
          cases this
        · rw [List.mem_append, HME.out, List.mem_singleton]
          constructor
          · rintro (⟨h1, h2⟩ | rfl)
            · exact ⟨h1, by rw [h2]; rfl⟩
            · rw [bs_of]
              exact ⟨hhas, by rw [WideAt.sameKey_self (kl_key x)]; simp⟩
          · rintro ⟨h1, h2⟩
            by_cases e : bs y = x
            · right
              rw [← e, bs_data]
            · left
              have e' : (kl (bs y)).sameKey (kl x) = false := Maps.sameKey_ne (fun h => e (kl_inj h))
              rw [e'] at h2
              exact ⟨h1, by simpa using h2⟩
      case measure =>
        have hr1 := (HRG1.out.alloc (.cells #[.string x] 9)).kept HG8.out (by
            intro e
            obtain ⟨cells, hcells⟩ := own_typed HO3.out _ e.symm
            obtain ⟨es, clock, hb, _⟩ := HRG1.out.owns
            rw [hb] at hcells
            cases hcells) (row_ne_iter HO3.out HRG1.out)
        rw [hr1.left_eq, HRG.out.left_eq]
        exact HLT.out
end Go.Proofs.YtcedefabmelogaaGreatDoor.H
/- What the tree of patterns tells: the methods of the patterns that match. -/
namespace Go.Proofs.YtcedefabmelogaaGreatDoor.H
open Go.RowKit Go.WideMaps Go.WideElems Go.Proofs.YtcedefabmelogaaGreatDoorW.PrintWords
open Go.Proofs.YtcedefabmelogaaGreatDoor.PFnAllowed
open Classical
/-- Do pieces of a pattern match pieces of a path? -/
def matchB : List S52 → List ByteArray → Bool
  | [], its => its.isEmpty
  | _ :: _, [] => false
  | s :: l, x :: r => if s.f2 = true then true else if s.f1 = true then !decide (x = bs [47]) && matchB l r else decide (s.f0 = x) && matchB l r
/-- What is asked of a pattern here. -/
structure PatKey (p : S35) : Prop where
  lit : ∀ i (hi : i < p.f2.length), (p.f2[i]).f2 = false → (p.f2[i]).f1 = false → (p.f2[i]).f0 ≠ ⟨#[]⟩
theorem bsn_ne {x : List UInt8} (h : x ≠ []) : bs x ≠ ⟨#[]⟩ := by
  intro e
  apply h
  unfold bs at e
  injection e with e
  simpa using e
theorem itemn_ne : ∀ {its : List (List UInt8)}, ItemsOk its → ∀ x ∈ its, x ≠ []
  | [], _, _, h => by cases h
  | y :: r, hi, x, h => by
    rcases List.mem_cons.1 h with rfl | h
    · rcases hi.1 with ⟨rfl, _⟩ | ⟨h1, _⟩
      · simp
      · exact h1
    · exact itemn_ne hi.2 x h
theorem pthn_len (p : S35) : (pth p).length = p.f2.length + 2 := by simp [pth, pathOf, keysOf]
theorem pth_take (p : S35) (n : Nat) : (pth p).take (n + 2) = some p.f1 :: some p.f0 :: (keysOf p.f2).take n := rfl
theorem pth_take_succ (p : S35) (n : Nat) (hn : n < p.f2.length) : (pth p).take (n + 1 + 2) = (pth p).take (n + 2) ++ [segKey (p.f2[n])] := by
  rw [pth_take, pth_take, List.take_add_one]
  have : (keysOf p.f2)[n]? = some (segKey p.f2[n]) := by simp [keysOf, hn]
  rw [this]
  rfl
theorem taken_inj {p : S35} {q : Path} {k : Key} {n : Nat} (hn : n ≤ p.f2.length) (hq : 2 ≤ q.length) (h : q ++ [k] = (pth p).take (n + 2)) : ∃ m, ∃ hm : m < p.f2.length, n = m + 1 ∧ q = (pth p).take (m + 2) ∧ segKey (p.f2[m]) = k := by
  have hl := congrArg List.length h
  rw [List.length_take, pthn_len, Nat.min_eq_left (by omega)] at hl
  simp only [List.length_append, List.length_singleton] at hl
  obtain ⟨m, rfl⟩ : ∃ m, n = m + 1 := ⟨n - 1, by omega⟩
  refine ⟨m, by omega, rfl, ?_⟩
  rw [pth_take_succ p m (by omega)] at h
  obtain ⟨h1, h2⟩ := List.append_inj' h rfl
  exact ⟨h1, by injection h2 with h2; exact h2.symm⟩
theorem matchB_cons (s : S52) (l : List S52) (x : ByteArray) (r : List ByteArray) : matchB (s :: l) (x :: r) = if s.f2 = true then true else if s.f1 = true then !decide (x = bs [47]) && matchB l r else decide (s.f0 = x) && matchB l r := rfl
theorem matchB_drop (l : List S52) (n : Nat) (hn : n < l.length) (x : ByteArray) (r : List ByteArray) : matchB (l.drop n) (x :: r) = if (l[n]).f2 = true then true else if (l[n]).f1 = true then !decide (x = bs [47]) && matchB (l.drop (n + 1)) r else decide ((l[n]).f0 = x) && matchB (l.drop (n + 1)) r := by
  rw [List.drop_eq_getElem_cons hn, matchB_cons]
theorem bsn_inj {x y : List UInt8} (h : bs x = bs y) : x = y := by
  unfold bs at h
  injection h with h
  simpa using h
theorem memn_dom {S : TS} {ps : List S35} (T : TreeSays S ps) {p : S35} (hp : p ∈ ps) (n : Nat) (hn : n ≤ p.f2.length) : (pth p).take (n + 2) ∈ S.dom :=
  (T.1 _).2 (.inr ⟨p, hp, n + 2, by rw [pthn_len]; omega, rfl⟩)
theorem mt_says {S : TS} {ps : List S35} (T : TreeSays S ps) (hps : ∀ p, p ∈ ps → PatKey p) : ∀ (its : List (List UInt8)), (∀ x ∈ its, x ≠ []) → ∀ (q : Path), 2 ≤ q.length →
    (mt S its q = true ↔ ∃ p, p ∈ ps ∧ ∃ n, n ≤ p.f2.length ∧ q = (pth p).take (n + 2) ∧ matchB (p.f2.drop n) (its.map bs) = true)
  | [], _, q, hq => by
    unfold mt
    rw [T.2]
    constructor
    · rintro ⟨p, hp, rfl⟩
      refine ⟨p, hp, p.f2.length, Nat.le_refl _, ?_, ?_⟩
      · rw [List.take_of_length_le (by rw [pthn_len]; omega)]
      · rw [List.drop_length]; rfl
    · rintro ⟨p, hp, n, hn, h, hm⟩
      refine ⟨p, hp, ?_⟩
      by_cases e : n < p.f2.length
      · rw [List.drop_eq_getElem_cons e] at hm
        cases hm
      · rw [h, List.take_of_length_le (by rw [pthn_len]; omega)]
  | x :: r, hi, q, hq => by
    have hx : x ≠ [] := hi x (by simp)
    have ih := fun q => mt_says T hps r (fun y hy => hi y (by simp [hy])) q
    have hq1 : ∀ k, 2 ≤ (q ++ [k]).length := by intro k; simp; omega
    unfold mt
    simp only [Bool.or_eq_true, Bool.and_eq_true, decide_eq_true_eq, ih _ (hq1 _), List.map_cons]
    constructor
    · rintro ((⟨_, p, hp, n, hn, h, hm⟩ | ⟨hs, _, p, hp, n, hn, h, hm⟩) | h)
      · obtain ⟨m, hml, rfl, h1, h2⟩ := taken_inj hn hq h
        refine ⟨p, hp, m, by omega, h1, ?_⟩
        rw [matchB_drop _ _ hml]
        unfold segKey at h2
        split at h2
        · cases h2
        · split at h2
          · injection h2 with h2
            exact absurd h2.symm (bsn_ne hx)
          · injection h2 with h2
            rename_i e1 e2
            rw [if_neg e1, if_neg e2, hm, decide_eq_true h2]
            rfl
      · obtain ⟨m, hml, rfl, h1, h2⟩ := taken_inj hn hq h
        refine ⟨p, hp, m, by omega, h1, ?_⟩
        rw [matchB_drop _ _ hml]
        unfold segKey at h2
        split at h2
        · cases h2
        · split at h2
          · rename_i e1 e2
            have e3 : ¬ bs x = bs [47] := fun e => hs (bsn_inj e)
            rw [if_neg e1, if_pos e2, hm, decide_eq_false e3]
            rfl
          · injection h2 with h2
            rename_i e1 e2
            exact absurd h2 ((hps p hp).lit m hml (by simpa using e1) (by simpa using e2))
      · rcases (T.1 _).1 h with h | ⟨p, hp, j, hj, h⟩
        · simp at h
        · have hl := congrArg List.length h
          rw [List.length_take, Nat.min_eq_left hj] at hl
          simp only [List.length_append, List.length_singleton] at hl
          rw [pthn_len] at hj
          obtain ⟨n, rfl⟩ : ∃ n, j = n + 2 := ⟨j - 2, by omega⟩
          obtain ⟨m, hml, rfl, h1, h2⟩ := taken_inj (by omega) hq h
          refine ⟨p, hp, m, by omega, h1, ?_⟩
          rw [matchB_drop _ _ hml]
          unfold segKey at h2
          split at h2
          · rename_i e1
            rw [if_pos e1]
          · split at h2 <;> cases h2
    · rintro ⟨p, hp, n, hn, h, hm⟩
      by_cases e : n < p.f2.length
      · rw [matchB_drop _ _ e] at hm
        have hk := pth_take_succ p n e
        rw [← h] at hk
        have hd := memn_dom T hp (n + 1) (by omega)
        rw [hk] at hd
        split at hm
        · rename_i e1
          right
          have : segKey (p.f2[n]) = none := by unfold segKey; rw [if_pos e1]
          rw [this] at hd
          exact hd
        · split at hm
          · rename_i e1 e2
            have hk2 : segKey (p.f2[n]) = eK := by unfold segKey; rw [if_neg e1, if_pos e2]
            simp only [Bool.and_eq_true, Bool.not_eq_true', decide_eq_false_iff_not] at hm
            left; right
            rw [hk2] at hd hk
            exact ⟨fun ex => hm.1 (by rw [ex]), hd, p, hp, n + 1, by omega, hk.symm, hm.2⟩
          · rename_i e1 e2
            simp only [Bool.and_eq_true, decide_eq_true_eq] at hm
            have hk2 : segKey (p.f2[n]) = some (bs x) := by unfold segKey; rw [if_neg e1, if_neg e2, hm.1]
            left; left
            rw [hk2] at hd hk
            exact ⟨hd, p, hp, n + 1, by omega, hk.symm, hm.2⟩
      · rw [List.drop_eq_nil_of_le (by omega)] at hm
        cases hm
/-- The patterns that a host and a path ask for with method j. -/
def Wants (ps : List S35) (items : List (List UInt8)) (host j : ByteArray) : Prop :=
  ∃ p, p ∈ ps ∧ p.f0 = j ∧ j ≠ ⟨#[]⟩ ∧ (p.f1 = host ∨ p.f1 = ⟨#[]⟩) ∧ matchB p.f2 (items.map bs) = true
theorem told_says {S : TS} {ps : List S35} (T : TreeSays S ps) (hps : ∀ p, p ∈ ps → PatKey p) (its : List (List UInt8)) (hi : ∀ x ∈ its, x ≠ []) (h j : ByteArray) :
    told S its [] (some h) j = true ↔ ∃ p, p ∈ ps ∧ p.f0 = j ∧ j ≠ ⟨#[]⟩ ∧ p.f1 = h ∧ matchB p.f2 (its.map bs) = true := by
  unfold told hit
  simp only [List.nil_append, List.cons_append, Bool.and_eq_true, decide_eq_true_eq, mt_says T hps its hi [some h, some j] (by simp)]
  constructor
  · rintro ⟨_, hj, _, p, hp, n, hn, he, hm⟩
    have hl := congrArg List.length he
    rw [List.length_take, pthn_len, Nat.min_eq_left (by omega)] at hl
    simp only [List.length_cons, List.length_nil] at hl
    obtain rfl : n = 0 := by omega
    rw [pth_take] at he
    simp only [List.take_zero, List.cons.injEq, Option.some.injEq, and_true] at he
    exact ⟨p, hp, he.2.symm, hj, he.1.symm, hm⟩
  · rintro ⟨p, hp, rfl, hj, rfl, hm⟩
    have h2 := memn_dom T hp 0 (Nat.zero_le _)
    refine ⟨(T.1 _).2 (.inr ⟨p, hp, 1, by rw [pthn_len]; omega, rfl⟩), hj, h2, p, hp, 0, Nat.zero_le _, rfl, hm⟩
theorem allowed0_says {S : TS} {ps : List S35} (T : TreeSays S ps) (hps : ∀ p, p ∈ ps → PatKey p) (its : List (List UInt8)) (hi : ItemsOk its) (h j : ByteArray) : allowed0 S its h j = true ↔ Wants ps its h j := by
  unfold allowed0 Wants
  simp only [Bool.or_eq_true, Bool.and_eq_true, decide_eq_true_eq, told_says T hps its (itemn_ne hi)]
  constructor
  · rintro (⟨_, p, h1, h2, h3, h4, h5⟩ | ⟨p, h1, h2, h3, h4, h5⟩)
    · exact ⟨p, h1, h2, h3, .inl h4, h5⟩
    · exact ⟨p, h1, h2, h3, .inr h4, h5⟩
  · rintro ⟨p, h1, h2, h3, h4, h5⟩
    by_cases e : p.f1 = ⟨#[]⟩
    · exact .inr ⟨p, h1, h2, h3, e, h5⟩
    · have h4 := h4.resolve_right e
      exact .inl ⟨fun e2 => e (h4.trans e2), p, h1, h2, h3, h4, h5⟩
theorem allowedM_says {S : TS} {ps : List S35} (T : TreeSays S ps) (hps : ∀ p, p ∈ ps → PatKey p) (its : List (List UInt8)) (hi : ItemsOk its) (h j : ByteArray) :
    allowedM S its h j = true ↔ Wants ps its h j ∨ (j = HEADb ∧ Wants ps its h GETb) := by
  unfold allowedM
  simp only [Bool.or_eq_true, Bool.and_eq_true, decide_eq_true_eq, allowed0_says T hps its hi]
end Go.Proofs.YtcedefabmelogaaGreatDoor.H
