/- matchMethodAndPath and matchingMethods: the methods that the tree tells; what a list of patterns lays. -/
import Derived.Test.YtcedefabmelogaaGreatDoorV07
/- The walk of (*mapping).eachPair with matchingMethodsPath's closure. -/
namespace Go.Proofs.YtcedefabmelogaaGreatDoor.H
open Go.RowKit Go.WideMaps Go.WideElems Go.Proofs.YtcedefabmelogaaGreatDoorW.PrintWords Go.Proofs.YtcedefabmelogaaGreatDoorW.PrintLast Go.Proofs.YtcedefabmelogaaGreatDoorW.PrintMore
open Classical
attribute [local go_sem] eqMap69 neqMap69
set_option linter.unusedVariables false
set_option linter.unusedSimpArgs false
/-- Is there a child of q by the key j that matches? -/
noncomputable def hit (S : TS) (items : List (List UInt8)) (q : Path) (j : ByteArray) : Bool := decide (q ++ [some j] ∈ S.dom) && mt S items (q ++ [some j])
/-- The closure's calls, in whatever world behind w0 in which the map alone has turned. -/
def ClosAt (w0 : World) (S : TS) (items : List (List UInt8)) (q : Path) (pk sk : Addr) (bm : Nat) : Prop :=
  ∀ (w : World) (N : Nat) (M : ByteArray → Bool) (j : ByteArray) (c : Nat), w0.grownBy w (some bm) → MapB w bm N M → N < maxLen → j ≠ ⟨#[]⟩ → j.size ≤ maxLen → S.ch q (some j) = some c →
    Calls Tryz.prog 55 #[.string j, .pointer (some ⟨c, 0, none⟩), .pointer (some pk), .pointer (some sk)] w fun e w' => e = .returned (.bool true) ∧ w.grownBy w' (some bm) ∧ MapB w' bm (N + 1) (fun i => M i || (decide (i = j) && hit S items q j))
theorem closAt_of {w0 : World} {lo : Nat} {S : TS} (st : Stand w0 lo S) (q : Path) (items : List (List UInt8)) (hi : ItemsOk items) (hl : (pathT items).length < 4294967296) (hn : items.length ≤ 900) (pk sk : Addr) (bm N : Nat) (M : ByteArray → Bool)
    (hpk : w0.cell? pk = some (.string (bs (pathT items)))) (hsk : w0.cell? sk = some (.map (some bm))) (hM : MapB w0 bm N M) (hbm : bm < lo) : ClosAt w0 S items q pk sk bm := by
  intro w N' M' j c hg hM' hN' hj hjs hc
  unfold TS.ch at hc
  split at hc
  · rename_i hin
    injection hc with hc
    subst hc
    refine (clos_any (st.move hg hbm hM.map) (q ++ [some j]) hin items hi hl hn pk sk bm N' M' (hg.cell hpk (by intro e; injection e with e; exact hM.ne hpk e)) (hg.cell hsk (by intro e; injection e with e; exact hM.ne hsk e)) hM' hN' j hjs).mono ?_
    rintro e w' ⟨rfl, h1, h2⟩
    refine ⟨rfl, h1, h2.ext (fun i => ?_)⟩
    simp [hit, hin]
  · cases hc
/-- The children met so far. -/
noncomputable def met (S : TS) (items : List (List UInt8)) (q : Path) (M : ByteArray → Bool) (l : List (ByteArray × Nat)) (j : ByteArray) : Bool := M j || (l.any (fun x => decide (x.1 = j)) && hit S items q j)
set_option maxHeartbeats 2000000 in
set_option maxRecDepth 100000 in
theorem each_slice {w0 : World} {S : TS} {items : List (List UInt8)} {q : Path} {pk sk : Addr} {bm : Nat} (C : ClosAt w0 S items q pk sk bm) (N : Nat) (M : ByteArray → Bool) (hM : MapB w0 bm N M) (b : Nat) (p h mc ec : Value) (A : Option Addr) (cp : Nat) (kids : List (ByteArray × Nat))
    (hb : w0.heap[b]? = some (.cells #[p, h, .slice A kids.length cp, .map none, mc, ec] 73 (0, 0))) (ho : w0.ownsRow 0 124 2 (.slice A kids.length cp) kids.length (flat kids)) (h8 : kids.length ≤ 8) (hN : N + 8 < maxLen)
    (hks : ∀ x ∈ kids, x.1 ≠ ⟨#[]⟩ ∧ x.1.size ≤ maxLen ∧ S.ch q (some x.1) = some x.2) :
    Calls Tryz.prog 54 #[.pointer (some ⟨b, 2, none⟩), .func (.func 55) #[] #[.pointer (some pk), .pointer (some sk)]] w0 fun e w' => e = .returned (.tuple #[]) ∧ w0.grownBy w' (some bm) ∧ MapB w' bm (N + kids.length) (met S items q M kids) := by
  have hc2 : w0.cell? ⟨b, 2, none⟩ = some (.slice A kids.length cp) := (blk_cell hb 2).trans rfl
  have hc3 : w0.cell? ⟨b, 3, none⟩ = some (.map none) := (blk_cell hb 3).trans rfl
  have HC := Aside0.mk C
  have HM := Aside0.mk hM
  have HB := Aside0.mk hb
  have HO := Aside0.mk ho
  have HN := Aside0.mk hN
  have HK := Aside0.mk hks
  clear C hM hb ho hN hks
  go_enter Tryz.func54, Tryz.ntmps54
  go_wp2
  go_loopw [35] (fun v wr => ∃ i : Nat, i ≤ kids.length ∧ v = .int .i64 i ∧ Aside0 (w0.grownBy wr (some bm)) ∧ Aside0 (MapB wr bm (N + i) (met S items q M (kids.take i)))) (fun v _ => kids.length - (intOf v).toNat)
  case atStart => exact ⟨0, Nat.zero_le _, rfl, ⟨g_refl _ _⟩, ⟨HM.out.ext (fun j => by simp [met])⟩⟩
  case round =>
    obtain ⟨i, hi, rfl, HG, HMi⟩ := hrel
    by_cases hlt : i < kids.length
    · obtain ⟨g, rfl, k0, k1⟩ := own_kids HO.out i hlt
      replace k0 := HG.out.cell k0 (by intro e; injection e with e; exact HM.out.ne k0 e)
      replace k1 := HG.out.cell k1 (by intro e; injection e with e; exact HM.out.ne k1 e)
      have hmem : kids[i] ∈ kids := List.getElem_mem _
      have HX := Aside0.mk (HK.out _ hmem)
      clear hmem
      have HT : Aside0 (kids.take (i + 1) = kids.take i ++ [kids[i]]) := ⟨(List.take_append_getElem hlt).symm⟩
      go_wp2_with (go_at_call 55; refine (HC.out _ (N + i) _ _ _ (g_alloc HG.out _) (HMi.out.kept (World.grownBy_alloc _ _ none) (by simp)) (by have := HN.out; omega) HX.out.1 HX.out.2.1 HX.out.2.2).mono ?_; rintro e w2 ⟨rfl, hg, hm⟩; have HG2 := Aside0.mk ((g_alloc HG.out _).trans hg); have HM2 := Aside0.mk hm; clear hg hm)
      go_roundw
      case rel =>
        refine ⟨i + 1, by omega, by go_num, HG2, ⟨HM2.out.ext (fun j => ?_)⟩⟩
        rw [HT.out]
        simp only [met, List.any_append, List.any_cons, List.any_nil, Bool.or_false]
        by_cases e : j = (kids[i]).1
        · subst e
          cases M (kids[i]).1 <;> cases (kids.take i).any (fun x => decide (x.1 = (kids[i]).1)) <;> simp
        · have e' : ¬ ((kids[i]).1 = j) := fun x => e x.symm
          simp [e, e']
      case measure => simp [intOf]; omega
    · have hie : i = kids.length := by omega
      subst hie
      go_wp2
      go_end0
      exact ⟨rfl, HG.out, by have := HMi.out; rwa [List.take_length] at this⟩
theorem ranges_kept2 {w w' : World} {m r n : Nat} {D : DataW Unit} {left : Lit → Bool} {cnt : Nat} (h : w.ranges Tryz.prog 9 RP m r n D left cnt) {bm : Nat} (hg : w.grownBy w' (some bm)) (h1 : m ≠ bm) (h2 : r ≠ bm) : w'.ranges Tryz.prog 9 RP m r n D left cnt :=
  h.kept hg (by simpa using h1) (by simpa using h2)
set_option maxHeartbeats 2000000 in
set_option maxRecDepth 100000 in
theorem each_map {w0 : World} {S : TS} {items : List (List UInt8)} {q : Path} {pk sk : Addr} {bm : Nat} (C : ClosAt w0 S items q pk sk bm) (N : Nat) (M : ByteArray → Bool) (hM : MapB w0 bm N M) (b m : Nat) (p h sv mc ec : Value) (kids : List (ByteArray × Nat)) (hmb : m ≠ bm)
    (hb : w0.heap[b]? = some (.cells #[p, h, sv, .map (some m), mc, ec] 73 (0, 0))) (hmk : MapK w0 m kids) (hN : N + kids.length < maxLen)
    (hks : ∀ j c, look kids j = some c → j ≠ ⟨#[]⟩ ∧ S.ch q (some j) = some c) :
    Calls Tryz.prog 54 #[.pointer (some ⟨b, 2, none⟩), .func (.func 55) #[] #[.pointer (some pk), .pointer (some sk)]] w0 fun e w' => e = .returned (.tuple #[]) ∧ w0.grownBy w' (some bm) ∧ MapB w' bm (N + kids.length) (fun j => M j || ((look kids j).isSome && hit S items q j)) := by
  have hc2 : w0.cell? ⟨b, 2, none⟩ = some sv := (blk_cell hb 2).trans rfl
  have hc3 : w0.cell? ⟨b, 3, none⟩ = some (.map (some m)) := (blk_cell hb 3).trans rfl
  obtain ⟨D, hD, hS⟩ := hmk
  have hszD := hD.size_le
  have hmlt := hD.lt
  have hbmlt := hM.lt
  have HC := Aside0.mk C
  have HM := Aside0.mk hM
  have HD := Aside0.mk hD
  have HS := Aside0.mk hS
  have HN := Aside0.mk hN
  have HZ := Aside0.mk hszD
  have HL := Aside0.mk (And.intro hmlt hbmlt)
  have HK := Aside0.mk hks
  have HMB := Aside0.mk hmb
  clear C hM hb hD hS hN hks hszD hmlt hbmlt hmb
  go_enter Tryz.func54, Tryz.ntmps54
  go_wp2_with (at_range; refine wpList_range_own _ rfl _ 69 rfl 9 57 K9 Tryz.underlying69 RP m kids.length D rfl HD.out ?_; intro wx hrg0 hg0 hs0; have HR0 := Aside0.mk hrg0; have HG0 := Aside0.mk hg0; clear hrg0 hg0 hs0)
  go_frame
  go_loopw [20] (fun _ wr => Aside0 (∃ (left : Lit → Bool) (cnt : Nat), wr.ranges Tryz.prog 9 RP m w0.heap.size kids.length D left cnt ∧ w0.grownBy wr (some bm) ∧ ∃ N', N' + cnt ≤ N + kids.length ∧ MapB wr bm N' (fun j => M j || (Maps.has D (kl j) && !left (kl j) && hit S items q j))))
    (fun _ wr => wr.rangeLeft m w0.heap.size)
  case atStart =>
    exact ⟨_, _, HR0.out, HG0.out.but _, N, by have := HZ.out; omega, (HM.out.kept HG0.out (by simp)).ext (fun j => by cases Maps.has D (kl j) <;> simp)⟩
  case round =>
    obtain ⟨left, cnt, hrg, hgw, N', hN', hMr⟩ := hrel.out
    have HRG := Aside0.mk hrg
    have HGW := Aside0.mk hgw
    have HN2 := Aside0.mk hN'
    have HMR := Aside0.mk hMr
    clear hrel hrg hgw hN' hMr
    go_wp2_with (at_next; refine wpList_next_ranges _ rfl _ rfl 9 K9 RP Value.string ptr (fun key kl' hkey => by obtain ⟨s, h1, _⟩ := string_of_keyOf Tryz.underlying9 hkey; exact ⟨s, h1⟩) (fun v y hv => RP_inv hv) m w0.heap.size kids.length D left cnt rfl HRG.out ?_ ?_)
    · intro _ hl0
      have HL0 := Aside0.mk hl0
      clear hl0
      go_wp2
      go_end0
      refine ⟨rfl, HGW.out, (HMR.out.mono (by have := HN2.out; omega)).ext (fun j => ?_)⟩
      rw [HL0.out, HS.out.has]
      simp
    · intro x c kl' y y2 w1 cnt1 hkey hlx hRv hat hrg1 hlt hg1 hs1 hen
      obtain ⟨x', hx', hkl, hxs⟩ := string_of_keyOf Tryz.underlying9 hkey
      injection hx' with hx'
      subst hx'
      have hkl' : kl' = kl x := hkl
      subst hkl'
      clear hkl
      have hhas : Maps.has D (kl x) = true := Maps.has_true_of_atKey hat
      have hlook : ∃ c0, look kids x = some c0 := by
        have := HS.out.has x
        rw [hhas] at this
        exact Option.isSome_iff_exists.1 this.symm
      obtain ⟨c0, hc0⟩ := hlook
      have hc : c = some c0 := by
        have h1 := hat .nil
        rw [HS.out.at_ x c0 hc0] at h1
        rw [RP_ptr] at hRv
        injection hRv with hRv
        injection hRv with hRv _
        cases c with
        | none => rw [← h1] at hRv; simp at hRv
        | some c1 =>
          rw [← h1] at hRv
          simp at hRv
          rw [Int.ofNat_inj.mp hRv]
      subst hc
      have hm1 := HMR.out.kept hg1 (by intro e; injection e with e; have := HL.out.2; omega)
      have hgw1 := g_then HGW.out hg1 (fun j hj => by injection hj with hj; exact .inl (by omega))
      have HX := Aside0.mk (And.intro hhas (And.intro hxs (HK.out x c0 hc0)))
      have HLX := Aside0.mk hlx
      have HRG1 := Aside0.mk hrg1
      have HGW1 := Aside0.mk hgw1
      have HM1 := Aside0.mk hm1
      have HLT := Aside0.mk hlt
      clear hkey hlx hRv hat hrg1 hlt hg1 hs1 hhas hc0 hm1 hgw1 hxs
      simp only [ptr_some] at hen ⊢
      go_wp2_with (go_at_call 55; refine (HC.out _ N' _ _ _ HGW1.out HM1.out (by have := HN.out; have := HN2.out; omega) HX.out.2.2.1 HX.out.2.1 HX.out.2.2.2).mono ?_; rintro e w2 ⟨rfl, hg, hm⟩; have HG2 := Aside0.mk hg; have HM2 := Aside0.mk hm; clear hg hm)
      go_roundw
      case rel =>
        refine ⟨_, cnt1, ranges_kept2 HRG1.out HG2.out HMB.out (by have := HL.out.2; omega), HGW1.out.trans HG2.out, N' + 1, by have := HLT.out; have := HN2.out; omega, HM2.out.ext (fun j => ?_)⟩
        by_cases e : j = x
        · subst e
          rw [WideAt.sameKey_self (kl_key j), HX.out.1, HLX.out]
          simp
        · have e' : (kl j).sameKey (kl x) = false := Maps.sameKey_ne (fun h => e (kl_inj h))
          rw [e']
          simp [e]
      case measure =>
        rw [(ranges_kept2 HRG1.out HG2.out HMB.out (by have := HL.out.2; omega)).left_eq, HRG.out.left_eq]
        exact HLT.out
end Go.Proofs.YtcedefabmelogaaGreatDoor.H
/- The walks of matchingMethodsPath and matchingMethods. -/
namespace Go.Proofs.YtcedefabmelogaaGreatDoor.H
open Go.RowKit Go.WideMaps Go.WideElems Go.Proofs.YtcedefabmelogaaGreatDoorW.PrintWords Go.Proofs.YtcedefabmelogaaGreatDoorW.PrintLast Go.Proofs.YtcedefabmelogaaGreatDoorW.PrintMore
open Classical
set_option linter.unusedVariables false
set_option linter.unusedSimpArgs false
set_option maxRecDepth 100000
theorem look_any {kids : List (ByteArray × Nat)} {j : ByteArray} : kids.any (fun x => decide (x.1 = j)) = (look kids j).isSome := by
  induction kids with
  | nil => rfl
  | cons x l ih =>
    simp only [List.any_cons, look, ih]
    by_cases e : x.1 = j <;> simp [e]
theorem look_self {kids : List (ByteArray × Nat)} (h : KeysOk kids) : ∀ x ∈ kids, look kids x.1 = some x.2 ∧ x.1.size ≤ maxLen := by
  intro x hx
  obtain ⟨i, hi, rfl⟩ := List.getElem_of_mem hx
  exact ⟨look_hit kids _ i hi (h i hi).1 rfl, (h i hi).2⟩
theorem each_any {w : World} {lo : Nat} {S : TS} (st : Stand w lo S) (q : Path) (hq : q ∈ S.dom) (items : List (List UInt8)) (hi : ItemsOk items) (hl : (pathT items).length < 4294967296) (hn : items.length ≤ 900) (pk sk : Addr) (bm N : Nat) (M : ByteArray → Bool)
    (hpk : w.cell? pk = some (.string (bs (pathT items)))) (hsk : w.cell? sk = some (.map (some bm))) (hM : MapB w bm N M) (hbm : bm < lo) (hN : N + S.dom.length + 8 < maxLen) :
    Calls Tryz.prog 54 #[.pointer (some ⟨S.loc q, 2, none⟩), .func (.func 55) #[] #[.pointer (some pk), .pointer (some sk)]] w fun e w' => e = .returned (.tuple #[]) ∧ w.grownBy w' (some bm) ∧ MapB w' bm (N + S.dom.length) (fun j => M j || (decide (j ≠ ⟨#[]⟩) && hit S items q j)) := by
  have C := closAt_of st q items hi hl hn pk sk bm N M hpk hsk hM hbm
  obtain ⟨k1, k2, k3, k4⟩ := st.tree.keys q hq
  obtain ⟨hlb, sv, mv, hb, hk⟩ := st.tree.node q hq
  have key : ∀ j, ((look (S.kids q) j).isSome && hit S items q j) = (decide (j ≠ ⟨#[]⟩) && hit S items q j) := by
    intro j
    by_cases e : j = ⟨#[]⟩
    · subst e
      have : look (S.kids q) ⟨#[]⟩ = none := by
        cases hl : look (S.kids q) ⟨#[]⟩ with
        | none => rfl
        | some c => exact absurd rfl (k4 _ (look_mem hl))
      rw [this]
      simp
    · rw [k3 j e]
      unfold TS.ch hit
      by_cases hin : q ++ [some j] ∈ S.dom <;> simp [hin, e]
  rcases hk with ⟨rfl, h8, A, c, rfl, ho⟩ | ⟨m, rfl, hlm, rfl, hm⟩
  · refine (each_slice C N M hM (S.loc q) _ _ _ _ A c (S.kids q) hb (own_less ho (Nat.zero_le _)) h8 (by omega) (fun x hx => ?_)).mono ?_
    · have h1 := look_self k1 x hx
      exact ⟨k4 x hx, h1.2, by rw [← k3 x.1 (k4 x hx)]; exact h1.1⟩
    · rintro e w' ⟨rfl, h1, h2⟩
      refine ⟨rfl, h1, (h2.mono (by omega)).ext (fun j => ?_)⟩
      rw [← key j, ← look_any]
      rfl
  · refine (each_map C N M hM (S.loc q) m _ _ _ _ _ (S.kids q) (by omega) hb hm (by omega) (fun j c hj => ?_)).mono ?_
    · have hj0 := k4 _ (look_mem hj)
      exact ⟨hj0, by rw [← k3 j hj0]; exact hj⟩
    · rintro e w' ⟨rfl, h1, h2⟩
      refine ⟨rfl, h1, (h2.mono (by omega)).ext (fun j => ?_)⟩
      rw [key j]
theorem Stand.below {w w' : World} {lo : Nat} {S : TS} (st : Stand w lo S) (h : Below w.heap.size w w') : Stand w' lo S :=
  ⟨(st.tree.below h).1, fun q hq => by
    obtain ⟨pb, ha, m, hh, l, hp, hP, hne⟩ := st.mult q hq
    exact ⟨pb, ha, m, hh, l, hp, hP.below h, hne⟩⟩
set_option maxHeartbeats 2000000 in
set_option maxRecDepth 100000 in
theorem mmp_nil (p : ByteArray) (bm : Nat) (w : World) : Calls Tryz.prog 38 #[.pointer none, .string p, .map (some bm)] w fun e w' => e = .returned (.tuple #[]) ∧ w' = (w.alloc (.cells #[.string p] 9)).alloc (.cells #[.map (some bm)] 47) := by
  go_enter Tryz.func38, Tryz.ntmps38
  go_wp2_with fail
  go_returns
  exact ⟨rfl, rfl⟩
set_option maxHeartbeats 2000000 in
set_option maxRecDepth 100000 in
theorem mmp_node {w : World} {lo : Nat} {S : TS} (st : Stand w lo S) (q : Path) (hq : q ∈ S.dom) (items : List (List UInt8)) (hi : ItemsOk items) (hl : (pathT items).length < 4294967296) (hn : items.length ≤ 900) (bm N : Nat) (M : ByteArray → Bool)
    (hM : MapB w bm N M) (hbm : bm < lo) (hN : N + S.dom.length + 8 < maxLen) :
    Calls Tryz.prog 38 #[.pointer (some ⟨S.loc q, 0, none⟩), .string (bs (pathT items)), .map (some bm)] w fun e w' => e = .returned (.tuple #[]) ∧ w.grownBy w' (some bm) ∧ MapB w' bm (N + S.dom.length) (fun j => M j || (decide (j ≠ ⟨#[]⟩) && hit S items q j)) := by
  have B2 : Below w.heap.size w ((w.alloc (.cells #[.string (bs (pathT items))] 9)).alloc (.cells #[.map (some bm)] 47)) := ((Below.refl _ _).alloc (Nat.le_refl _) _).alloc (by simp) _
  have G2 : w.grownBy ((w.alloc (.cells #[.string (bs (pathT items))] 9)).alloc (.cells #[.map (some bm)] 47)) (some bm) := g_alloc (g_alloc (g_refl _ _) _) _
  have HE := Aside0.mk (each_any (st.below B2) q hq items hi hl hn ⟨w.heap.size, 0, none⟩ ⟨w.heap.size + 1, 0, none⟩ bm N M (by rw [World.cell?_alloc_past _ _ _ (by simp), World.cell?_alloc_at _ _ _ _ rfl]; rfl) (by rw [World.cell?_alloc_at _ _ _ _ (by simp)]; rfl)
    ((hM.kept (World.grownBy_alloc w (.cells #[.string (bs (pathT items))] 9) none) (by simp)).kept (World.grownBy_alloc _ (.cells #[.map (some bm)] 47) none) (by simp)) hbm hN)
  have HG := Aside0.mk G2
  have hmf : ∀ (fn : Fn) (first cap : Array Value) (w : World), (Instr.makeFunc fn first cap).run Tryz.prog w = .ok (.func fn first cap) w := fun _ _ _ _ => rfl
  clear st hq hi hl hn hM B2 G2 hN
  go_enter Tryz.func38, Tryz.ntmps38
  go_wp2_with (go_at_call 54; refine HE.out.mono ?_; rintro e w2 ⟨rfl, hg, hm⟩; have HG2 := Aside0.mk hg; have HM2 := Aside0.mk hm; clear hg hm)
  go_returns
  exact ⟨rfl, HG.out.trans HG2.out, HM2.out⟩
/-- The methods told at the child of q by the key x, if there is one. -/
noncomputable def told (S : TS) (items : List (List UInt8)) (q : Path) (x : Key) (j : ByteArray) : Bool := decide (q ++ [x] ∈ S.dom) && (decide (j ≠ ⟨#[]⟩) && hit S items (q ++ [x]) j)
theorem mmp_child {w : World} {lo : Nat} {S : TS} (st : Stand w lo S) (q : Path) (x : Key) (items : List (List UInt8)) (hi : ItemsOk items) (hl : (pathT items).length < 4294967296) (hn : items.length ≤ 900) (bm N : Nat) (M : ByteArray → Bool)
    (hM : MapB w bm N M) (hbm : bm < lo) (hN : N + S.dom.length + 8 < maxLen) :
    Calls Tryz.prog 38 #[ptr (S.ch q x), .string (bs (pathT items)), .map (some bm)] w fun e w' => e = .returned (.tuple #[]) ∧ w.grownBy w' (some bm) ∧ MapB w' bm (N + S.dom.length) (fun j => M j || told S items q x j) := by
  by_cases hx : q ++ [x] ∈ S.dom
  · have e : S.ch q x = some (S.loc (q ++ [x])) := by unfold TS.ch; rw [if_pos hx]
    rw [e, ptr_some]
    refine (mmp_node st (q ++ [x]) hx items hi hl hn bm N M hM hbm hN).mono ?_
    rintro e w' ⟨rfl, h1, h2⟩
    exact ⟨rfl, h1, h2.ext (fun j => by simp [told, hx])⟩
  · have e : S.ch q x = none := by unfold TS.ch; rw [if_neg hx]
    rw [e, ptr_none]
    refine (mmp_nil (bs (pathT items)) bm w).mono ?_
    rintro e w' ⟨rfl, rfl⟩
    have G2 : w.grownBy ((w.alloc (.cells #[.string (bs (pathT items))] 9)).alloc (.cells #[.map (some bm)] 47)) none := g_alloc (g_alloc (g_refl _ _) _) _
    exact ⟨rfl, G2.but _, ((hM.kept G2 (by simp)).mono (by omega)).ext (fun j => by simp [told, hx])⟩
theorem zero4 (w : World) : (zeroValue 4).run Tryz.prog w = .ok (.bool false) w := by kernel_rfl
theorem plainElem_bool_inv {v : Value} {z : DataW Unit × List MemPlace} (h : plainElem Tryz.prog 4 v = some z) : ∃ b, v = .bool b ∧ z = (.lit (.bool b), []) := by
  unfold plainElem at h
  rw [Tryz.underlying4] at h
  cases v <;> simp at h
  exact ⟨_, rfl, h.symm⟩
theorem MapB.look {w : World} {bm N : Nat} {M : ByteArray → Bool} (h : MapB w bm N M) (k : ByteArray) (hk : k.size ≤ maxLen) : (Instr.lookup 47 (.map (some bm)) (.string k) false).run Tryz.prog w = .ok (.bool (M k)) w := by
  obtain ⟨D, hD, h1, h2⟩ := h
  obtain ⟨v, ps, hrun, hv⟩ := hD.lookup K9 Tryz.underlying47 (zero4 w) (plainElem_bool Tryz.underlying4 false) (key9 k hk)
  rw [hrun]
  obtain ⟨b, rfl, hz⟩ := plainElem_bool_inv hv
  injection hz with hz _
  cases hM : M k with
  | true =>
    rw [h2 k hM] at hz
    injection hz with hz
    injection hz with hz
    rw [← hz]
  | false =>
    have := h1 k
    rw [hM] at this
    rw [Maps.atKey_of_not_has this] at hz
    injection hz with hz
    injection hz with hz
    rw [← hz]
abbrev GETb : ByteArray := ⟨#[71, 69, 84]⟩
abbrev HEADb : ByteArray := ⟨#[72, 69, 65, 68]⟩
/-- The methods that the tree tells for a host and a path. -/
noncomputable def allowed0 (S : TS) (items : List (List UInt8)) (host : ByteArray) (j : ByteArray) : Bool :=
  (decide (host ≠ ⟨#[]⟩) && told S items [] (some host) j) || told S items [] eK j
noncomputable def allowedM (S : TS) (items : List (List UInt8)) (host : ByteArray) (j : ByteArray) : Bool :=
  allowed0 S items host j || (decide (j = HEADb) && allowed0 S items host GETb)
set_option maxHeartbeats 4000000 in
set_option maxRecDepth 100000 in
theorem mm_any {w : World} {lo : Nat} {S : TS} (st : Stand w lo S) (host : ByteArray) (hh : host.size ≤ maxLen) (items : List (List UInt8)) (hi : ItemsOk items) (hl : (pathT items).length < 4294967296) (hn : items.length ≤ 900) (bm : Nat)
    (hM : MapB w bm 0 (fun _ => false)) (hbm : bm < lo) (hN : 2 * S.dom.length + 8 < 1000000) :
    Calls Tryz.prog 30 #[.pointer (some ⟨S.loc [], 0, none⟩), .string host, .string (bs (pathT items)), .map (some bm)] w fun e w' => e = .returned (.tuple #[]) ∧ w.grownBy w' (some bm) ∧ MapB w' bm 1000000 (allowedM S items host) := by
  -- what the second half does, from whatever has been told so far
  have half : ∀ (w1 : World) (M : ByteArray → Bool), w.grownBy w1 (some bm) → MapB w1 bm S.dom.length M →
      Calls Tryz.prog 38 #[ptr (S.ch [] eK), .string (bs (pathT items)), .map (some bm)] w1 fun e w' => e = .returned (.tuple #[]) ∧ w1.grownBy w' (some bm) ∧ MapB w' bm (S.dom.length + S.dom.length) (fun j => M j || told S items [] eK j) := by
    intro w1 M hg h1
    exact mmp_child (st.move hg hbm hM.map) [] eK items hi hl hn bm _ M h1 hbm (by simp only [maxLen]; omega)
  have hcell : ∀ w1 : World, w.grownBy w1 (some bm) → w1.cell? ⟨S.loc [], 4 + 1, none⟩ = some (ptr (S.ch [] eK)) := by
    intro w1 hg
    exact ((st.move hg hbm hM.map).cells [] (st.move hg hbm hM.map).tree.root (Below.refl _ _)).2
  have HH := Aside0.mk half
  have HM := Aside0.mk hM
  have HC := Aside0.mk hcell
  have HN := Aside0.mk hN
  by_cases he : host = ⟨#[]⟩
  · have hle : host.toList.isEmpty = true := by rw [str_empty]; simpa using he
    have HE := Aside0.mk he
    have hc5 := HC.out w (g_refl _ _)
    simp only [Nat.reduceAdd] at hc5
    have HX := Aside0.mk (HH.out w (fun _ => false) (g_refl _ _) (hM.mono (Nat.zero_le _)))
    clear st hh hi hl hn hM hbm hN he half hcell
    go_enter Tryz.func30, Tryz.ntmps30
    go_wp2_with (first
      | (go_at_call 38; refine HX.out.mono ?_; rintro e w2 ⟨rfl, hg, hm⟩; have HG2 := Aside0.mk (hg); have HM2 := Aside0.mk hm; have hlook := hm.look GETb (by decide); clear hg hm)
      | (at_mapUpdate; obtain ⟨D, hD, h1, h2⟩ := HM2.out; have HP := Aside0.mk (mapB_put hD.isMap h1 h2 HEADb); refine wpList_mapUpdate_own _ rfl _ _ _ 47 rfl 9 4 K9 Tryz.underlying47 (plainElem Tryz.prog 4) bm _ D rfl hD (by have := HN.out; simp only [maxLen]; omega) _ _ (kl HEADb) rfl rfl (key9 HEADb (by decide)) (.lit (.bool true)) [] (plainElem_bool Tryz.underlying4 true) ?_; intro w3 hown3 hgrow3; have HO3 := Aside0.mk hown3; have HG3 := Aside0.mk hgrow3; clear hown3 hgrow3 hD h1 h2))
    · go_end0
      refine ⟨rfl, HG2.out.trans HG3.out, (MapB.ext (M := fun j => (false || told S items [] eK j) || decide (j = HEADb)) ⟨_, HO3.out, HP.out.1, HP.out.2⟩ (fun j => ?_)).mono (by have := HN.out; omega)⟩
      have ht : told S items [] eK GETb = true := by assumption
      simp [allowedM, allowed0, HE.out, ht]
    · go_end0
      refine ⟨rfl, HG2.out, (HM2.out.ext (fun j => ?_)).mono (by have := HN.out; omega)⟩
      have ht : told S items [] eK GETb = false := by assumption
      simp [allowedM, allowed0, HE.out, ht]
  · have hle : host.toList.isEmpty = false := by rw [str_empty]; simpa using he
    have HE := Aside0.mk he
    have HFI := Aside0.mk (st.find [] st.tree.root host he hh (Below.refl _ _))
    have HCH := Aside0.mk (fun w1 (h : Below w.heap.size w w1) => mmp_child (st.below h) [] (some host) items hi hl hn bm 0 (fun _ => false) (hM.kept (row := none) ⟨h.os, h.tape, h.output, h.size, fun i hi _ => h.block i hi⟩ (by simp)) hbm (by simp only [maxLen]; omega))
    clear st hh hi hl hn hM hbm hN he half hcell
    have tok1 : True := trivial
    go_enter Tryz.func30, Tryz.ntmps30
    go_wp2_with (first
      | (go_at_call 37; refine HFI.out.mono ?_; rintro e w0 ⟨rfl, hb⟩; have HB0 := Aside0.mk hb; clear hb)
      | (go_at_call 38; have _t := tok1; (with_reducible refine (HCH.out w0 HB0.out).mono ?_); clear _t tok1; rintro e w1 ⟨rfl, hg, hm⟩; have HG1 := Aside0.mk (g_then (row := some bm) (g_below (g_refl w (some bm)) HB0.out) hg (fun j hj => .inr hj)); have HX := Aside0.mk (HH.out w1 _ HG1.out (hm.mono (by omega))); have hc5 := HC.out w1 HG1.out; simp only [Nat.reduceAdd] at hc5; clear hg hm)
      | (go_at_call 38; refine HX.out.mono ?_; rintro e w2 ⟨rfl, hg, hm⟩; have HG2 := Aside0.mk (HG1.out.trans hg); have HM2 := Aside0.mk hm; have hlook := hm.look GETb (by decide); clear hg hm)
      | (at_mapUpdate; obtain ⟨D, hD, h1, h2⟩ := HM2.out; have HP := Aside0.mk (mapB_put hD.isMap h1 h2 HEADb); refine wpList_mapUpdate_own _ rfl _ _ _ 47 rfl 9 4 K9 Tryz.underlying47 (plainElem Tryz.prog 4) bm _ D rfl hD (by have := HN.out; simp only [maxLen]; omega) _ _ (kl HEADb) rfl rfl (key9 HEADb (by decide)) (.lit (.bool true)) [] (plainElem_bool Tryz.underlying4 true) ?_; intro w3 hown3 hgrow3; have HO3 := Aside0.mk hown3; have HG3 := Aside0.mk hgrow3; clear hown3 hgrow3 hD h1 h2))
    · go_end0
      refine ⟨rfl, HG2.out.trans HG3.out, (MapB.ext (M := fun j => ((false || told S items [] (some host) j) || told S items [] eK j) || decide (j = HEADb)) ⟨_, HO3.out, HP.out.1, HP.out.2⟩ (fun j => ?_)).mono (by have := HN.out; omega)⟩
      have ht : (told S items [] (some host) GETb || told S items [] eK GETb) = true := by first | assumption | (simp only [Bool.or_eq_true]; assumption)
      simp only [allowedM, allowed0, ne_eq, HE.out, not_false_eq_true, decide_true, Bool.true_and, ht, Bool.and_true, Bool.false_or]
    · go_end0
      refine ⟨rfl, HG2.out, (HM2.out.ext (fun j => ?_)).mono (by have := HN.out; omega)⟩
      have ht : (told S items [] (some host) GETb || told S items [] eK GETb) = false := by first | assumption | (simp only [Bool.or_eq_false_iff]; assumption)
      simp only [allowedM, allowed0, ne_eq, HE.out, not_false_eq_true, decide_true, Bool.true_and, ht, Bool.and_false, Bool.or_false, Bool.false_or]
end Go.Proofs.YtcedefabmelogaaGreatDoor.H
/- The tree of a list of patterns: what it holds, and that one pattern more is laid. -/
namespace Go.Proofs.YtcedefabmelogaaGreatDoor.H
open Go.RowKit Go.WideMaps Go.WideElems Go.Proofs.YtcedefabmelogaaGreatDoorW.PrintWords
open Go.Proofs.YtcedefabmelogaaGreatDoor.PFnAllowed
open Classical
set_option maxRecDepth 100000
def pth (p : S35) : Path := pathOf p.f0 p.f1 p.f2
/-- What the tree asks of a pattern. -/
structure PatOk (p : S35) : Prop where
  ne : p.f2 ≠ []
  len : p.f2.length ≤ 6
  m : p.f0.size ≤ maxLen
  h : p.f1.size ≤ maxLen
  seg : ∀ s ∈ p.f2, s.f0.size ≤ maxLen
  last : ∀ i (hi : i < p.f2.length), (p.f2[i]).f2 = true → i + 1 = p.f2.length
theorem segKey_none {s : S52} (h : segKey s = none) : s.f2 = true := by
  unfold segKey at h
  split at h
  · assumption
  · split at h <;> cases h
theorem pth_length (p : S35) : (pth p).length = p.f2.length + 2 := by simp [pth, pathOf, keysOf]
/-- A way that ends in 'none' and opens a pattern's path is the whole of it. -/
theorem take_none {p : S35} (hp : PatOk p) {q : Path} {j : Nat} (h : q ++ [none] = (pth p).take j) (hj : j ≤ (pth p).length) : q ++ [none] = pth p := by
  have hl := congrArg List.length h
  rw [List.length_take, Nat.min_eq_left hj] at hl
  simp only [List.length_append, List.length_singleton] at hl
  have hlast : (pth p)[q.length]? = some none := by
    have : (q ++ [none])[q.length]? = some none := by simp
    rw [h, List.getElem?_take] at this
    split at this
    · exact this
    · cases this
  rw [pth_length] at hj
  have : q.length + 1 = p.f2.length + 2 := by
    match hq : q.length, hlast with
    | 0, hlast => simp [pth, pathOf] at hlast
    | 1, hlast => simp [pth, pathOf] at hlast
    | k + 2, hlast =>
      have hk : (keysOf p.f2)[k]? = some none := by simpa [pth, pathOf] using hlast
      unfold keysOf at hk
      rw [List.getElem?_map] at hk
      obtain ⟨s, hs, hsk⟩ := Option.map_eq_some_iff.1 hk
      obtain ⟨hki, rfl⟩ := List.getElem?_eq_some_iff.1 hs
      have := hp.last k hki (segKey_none hsk)
      omega
  rw [h, List.take_of_length_le (by rw [pth_length]; omega)]
structure TreeInv (w : World) (lo root : Nat) (ps : List S35) (S : TS) : Prop where
  tree : Tree w lo S
  rootl : S.loc [] = root
  dom : ∀ r, r ∈ S.dom ↔ r = [] ∨ ∃ p, p ∈ ps ∧ ∃ j, j ≤ (pth p).length ∧ r = (pth p).take j
  pat : ∀ r, (S.pat r).isSome = true ↔ ∃ p, p ∈ ps ∧ r = pth p
  at_ : ∀ p, p ∈ ps → ∃ pb ha, S.pat (pth p) = some (⟨pb, 0, none⟩, ha) ∧ PatAt w pb p.f0 p.f1 p.f2
  len : S.dom.length ≤ 1 + 8 * ps.length
theorem TreeInv.mult {w : World} {lo root : Nat} {ps : List S35} {S : TS} (I : TreeInv w lo root ps S) (hps : ∀ p, p ∈ ps → PatOk p) (q : Path) (hq : q ++ [none] ∈ S.dom) : ∃ p, p ∈ ps ∧ q ++ [none] = pth p := by
  rcases (I.dom _).1 hq with h | ⟨p, hp, j, hj, h⟩
  · simp at h
  · exact ⟨p, hp, take_none (hps p hp) h hj⟩
theorem TreeInv.stand {w : World} {lo root : Nat} {ps : List S35} {S : TS} (I : TreeInv w lo root ps S) (hps : ∀ p, p ∈ ps → PatOk p) : Stand w lo S :=
  ⟨I.tree, fun q hq => by
    obtain ⟨p, hp, h⟩ := I.mult hps q hq
    obtain ⟨pb, ha, h1, h2⟩ := I.at_ p hp
    exact ⟨pb, ha, _, _, _, by rw [h]; exact h1, h2, (hps p hp).ne⟩⟩
theorem TreeInv.below {w w' : World} {lo root : Nat} {ps : List S35} {S : TS} (I : TreeInv w lo root ps S) (hb : Below w.heap.size w w') : TreeInv w' lo root ps S :=
  ⟨(I.tree.below hb).1, I.rootl, I.dom, I.pat, fun p hp => by
    obtain ⟨pb, ha, h1, h2⟩ := I.at_ p hp
    exact ⟨pb, ha, h1, h2.below hb⟩, I.len⟩
theorem treeInv_new (w : World) (lo : Nat) (hlo : lo ≤ w.heap.size) : TreeInv (w.alloc (.cells #[.pointer none, .pointer none, .slice none 0 0, .map none, .pointer none, .pointer none] 73)) lo w.heap.size [] { dom := [[]], loc := fun _ => w.heap.size, kids := fun _ => [], pat := fun _ => none } := by
  have N := new_node w lo hlo
  have hch : ∀ q x, TS.ch { dom := [[]], loc := fun _ => w.heap.size, kids := fun _ => [], pat := fun _ => none } q x = none := by
    intro q x
    unfold TS.ch
    rw [if_neg (by simp)]
  refine ⟨⟨by simp, by intro q x h; simp at h, ?_, ?_, ?_, by simp⟩, rfl, by simp, by simp, by simp, by simp⟩
  · intro q hq
    rw [hch, hch]
    exact N.1
  · intro q hq
    refine ⟨fun i hi => by simp at hi, by simp, fun k hk => by rw [hch]; rfl, by simp⟩
  · intro q hq q' hq' i _ _
    simp at hq hq'
    rw [hq, hq']
/-- One pattern more. -/
theorem TreeInv.step {w w' : World} {lo root : Nat} {ps : List S35} {S S' : TS} (I : TreeInv w lo root ps S) (p : S35) (pb : Nat) (ha : Addr) (hP : PatAt w pb p.f0 p.f1 p.f2) (hp : PatOk p) (L : Laid w w' lo S S' [] (pth p) ⟨pb, 0, none⟩ ha) (hnew : ∀ p', p' ∈ ps → pth p' ≠ pth p) :
    TreeInv w' lo root (ps ++ [p]) S' := by
  obtain ⟨G, hd, hpat, hlen⟩ := L
  refine ⟨G.tree, (G.loc [] I.tree.root).trans I.rootl, ?_, ?_, ?_, ?_⟩
  · intro r
    rw [hd, I.dom]
    constructor
    · rintro ((h | ⟨p', h1, j, h2, h3⟩) | ⟨j, h1, h2, h3⟩)
      · exact .inl h
      · exact .inr ⟨p', by simp [h1], j, h2, h3⟩
      · exact .inr ⟨p, by simp, j, h2, by simpa using h3⟩
    · rintro (h | ⟨p', h1, j, h2, h3⟩)
      · exact .inl (.inl h)
      · rcases List.mem_append.1 h1 with h1 | h1
        · exact .inl (.inr ⟨p', h1, j, h2, h3⟩)
        · simp at h1
          subst h1
          rcases Nat.eq_zero_or_pos j with h0 | h0
          · subst h0
            exact .inl (.inl (by simpa using h3))
          · exact .inr ⟨j, h0, h2, by simpa using h3⟩
  · intro r
    rw [hpat]
    by_cases e : r = pth p
    · subst e
      simp only [List.nil_append, up_same, Option.isSome_some, true_iff]
      exact ⟨p, by simp, rfl⟩
    · rw [up_other _ _ (by simpa using e), I.pat]
      constructor
      · rintro ⟨p', h1, h2⟩
        exact ⟨p', by simp [h1], h2⟩
      · rintro ⟨p', h1, h2⟩
        rcases List.mem_append.1 h1 with h1 | h1
        · exact ⟨p', h1, h2⟩
        · simp at h1; subst h1; exact absurd h2 e
  · intro p' h1
    rw [hpat]
    rcases List.mem_append.1 h1 with h1 | h1
    · obtain ⟨pb', ha', h2, h3⟩ := I.at_ p' h1
      exact ⟨pb', ha', by rw [up_other _ _ (by simpa using hnew p' h1)]; exact h2, h3.fr I.tree G.fr⟩
    · simp at h1
      subst h1
      exact ⟨pb, ha, by simp [up_same], hP.fr I.tree G.fr⟩
  · rw [pth_length] at hlen
    have := I.len
    have := hp.len
    simp only [List.length_append, List.length_singleton]
    omega
end Go.Proofs.YtcedefabmelogaaGreatDoor.H
