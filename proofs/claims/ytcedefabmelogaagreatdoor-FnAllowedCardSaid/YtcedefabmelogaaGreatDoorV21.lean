/- The walk of parsePattern at texts that were written: up to the loop. -/
import Derived.Test.YtcedefabmelogaaGreatDoorV20
import Derived.Test.YtcedefabmelogaaGreatDoorV19
import Derived.Test.YtcedefabmelogaaGreatDoorV05
import Derived.Test.YtcedefabmelogaaGreatDoorV06
import Derived.Deep.CutBlock
import Derived.StillTailTactics
import Derived.BigQuiet
import Derived.Deep.RegionHeld3
namespace Go.Proofs.YtcedefabmelogaaGreatDoor.H
open Go.RowKit Go.WideMaps Go.WideElems Go.Proofs.YtcedefabmelogaaGreatDoorW.PrintWords Go.Proofs.YtcedefabmelogaaGreatDoorW.PrintLast Go.Proofs.YtcedefabmelogaaGreatDoorW.PrintMore
open Go.Proofs.YtcedefabmelogaaGreatDoor.PFnAllowed
attribute [local go_sem] eqMap69 neqMap69
set_option linter.unusedVariables false
set_option linter.unusedSimpArgs false
set_option maxRecDepth 100000
/-- What the head of parsePattern finds: texts cut as they were joined. -/
structure HeadOk (s mb r hb P : ByteArray) (iv : Int) : Prop where
  any : ∀ w, Calls Tryz.prog 67 #[.string s, .string (bs [32, 9])] w fun e w' => e = .returned (.int .i64 iv) ∧ Below w.heap.size w w'
  none : mb = ⟨#[]⟩ → iv = -1 ∧ r = s
  some : mb ≠ ⟨#[]⟩ → iv = mb.size ∧ s.extract 0 mb.size = mb ∧ s.extract (mb.size + 1) s.size = r ∧ mb.size + 1 ≤ s.size ∧ (∀ w, Calls Tryz.prog 68 #[.string r, .string (bs [32, 9])] w fun e w' => e = .returned (.string r) ∧ Below w.heap.size w w') ∧ ∀ w, Calls Tryz.prog 69 #[.string mb] w fun e w' => e = .returned (.bool true) ∧ w' = w
  slash : ∀ w, Calls Tryz.prog 70 #[.string r, .int .u8 47] w fun e w' => e = .returned (.int .i64 hb.size) ∧ w' = w
  brace : ∀ w, Calls Tryz.prog 70 #[.string hb, .int .u8 123] w fun e w' => e = .returned (.int .i64 (-1)) ∧ w' = w
  host : r.extract 0 hb.size = hb
  path : r.extract hb.size r.size = P
  hle : hb.size ≤ r.size
  clean : ∀ w, Calls Tryz.prog 71 #[.string P] w fun e w' => e = .returned (.string P) ∧ Below w.heap.size w w'
  sle : s.size ≤ 9223372036854775806
  sne : 0 < s.size
  rle : r.size ≤ 9223372036854775806
/-- The world at parsePattern's head. -/
structure HeadW (w wx : World) : Prop where
  below : Below w.heap.size w wx
  err : wx.heap[w.heap.size]? = some (.cells #[.nilIface] 96 (0, 0))
theorem HeadW.up {w wx w2 : World} (H : HeadW w wx) (h : Below wx.heap.size wx w2) : HeadW w w2 :=
  ⟨below_then H.below H.below.size h, blk_below H.err h⟩
theorem HeadW.drew {w wx : World} (H : HeadW w wx) : HeadW w wx.drew := H.up (Below.refl _ _).drew
theorem HeadW.drewN {w wx : World} (H : HeadW w wx) (n : Nat) : HeadW w (wx.drewN n) := H.up (pw_below_drewN (Below.refl _ _) n)
/-- The names of pieces. -/
def seen (l : List Sg) (j : ByteArray) : Bool := (l.filterMap Sg.name).any (fun n => decide (bs n = j))
theorem seen_snoc (l : List Sg) (g : Sg) (j : ByteArray) : seen (l ++ [g]) j = (seen l j || (match g.name with | some n => decide (bs n = j) | none => false)) := by
  unfold seen
  rw [List.filterMap_append, List.any_append]
  cases h : g.name with
  | none => simp [List.filterMap, h]
  | some n => simp [List.filterMap, h]
theorem seen_not {dn td : List Sg} {g : Sg} {n : List UInt8} (h : SgsOk (dn ++ g :: td)) (hn : g.name = some n) : seen dn (bs n) = false := by
  have := h.names
  rw [List.filterMap_append, List.filterMap_cons, hn] at this
  simp only [List.nodup_append] at this
  unfold seen
  rw [List.any_eq_false]
  intro m hm e
  have e' := bs_inj (of_decide_eq_true e)
  exact this.2.2 m hm n (by simp) e'
def strLen : Value → Nat
  | .string s => s.size
  | _ => 0
theorem mapB_new (w : World) : MapB (w.alloc (.map #[] 0)) w.heap.size 0 (fun _ => false) := by
  refine ⟨.map [], World.ownsMap_made w _ _ _, fun k => ?_, fun k h => by cases h⟩
  rfl
theorem rest_name (n : List UInt8) : List.take ((n ++ [46,46,46]).length + 1 - 1) (List.drop 1 (123 :: (n ++ [46, 46, 46, 125]))) = n ++ [46,46,46] := by
  have e : n ++ [46, 46, 46, 125] = (n ++ [46, 46, 46]) ++ [125] := by simp
  rw [e, List.drop_succ_cons, List.drop_zero, Nat.add_sub_cancel, List.take_left]
theorem hasSuffix_dots {n : List UInt8} (h : ∀ b ∈ n, NameTail b) : Lib.hasSuffix n [46, 46, 46] = false := by
  unfold Lib.hasSuffix
  rw [Bool.eq_false_iff]
  intro e
  have e' := List.isSuffixOf_iff_suffix.1 e
  obtain ⟨t, ht⟩ := e'
  exact (name_byte (h 46 (by rw [← ht]; simp))).2.2.2.2.2.1 rfl
set_option maxHeartbeats 1000000 in
theorem parse_any {s mb r hb P : ByteArray} {iv : Int} (H : HeadOk s mb r hb P iv) {l : List Sg} (hl : SgsOk l) (hP : P = bs (sgT l)) (w : World) (ht : Tab w) :
    Calls Tryz.prog 52 #[.string s] w fun e w' => ∃ pb, e = .returned (.tuple #[.pointer (some ⟨pb, 0, none⟩), .nilIface]) ∧ PatAt w' pb mb hb (l.map Sg.seg) ∧ Below w.heap.size w w' := by
  have HL := Aside0.mk hl
  have HT := Aside0.mk ht
  have HPP := Aside0.mk hP
  clear hl ht hP
  have hmf : ∀ (fn : Fn) (first cap : Array Value) (w : World), (Instr.makeFunc fn first cap).run Tryz.prog w = .ok (.func fn first cap) w := fun _ _ _ _ => rfl
  have HH := Aside0.mk H
  have HA := Aside0.mk H.any
  have h32 : bs [32, 9] = ⟨#[32, 9]⟩ := rfl
  rw [h32] at HA
  have hs0 : decide ((s.size : Int) = 0) = false := by have := H.sne; simp; intro e; rw [e] at this; exact absurd this (by simp)
  have hs0' : ((s.size : Int) == 0) = false := by have := H.sne; rw [beq_eq_false_iff_ne]; omega
  clear H h32
  go_enter_defers Tryz.func52, Tryz.ntmps52
  go_upto_if 27 with (go_at_call 67; refine (HA.out _).mono ?_; rintro e w1 ⟨rfl, hb1⟩; have HB1 := Aside0.mk hb1; clear hb1)
  have hE1 := blk_below (heap_alloc_new w (.cells #[.nilIface] 96)) HB1.out
  have HE1 : Aside0 (HeadW w w1) := ⟨⟨below_then (below_alloc (Below.refl _ _) _) (by simp) HB1.out, hE1⟩⟩
  clear hE1
  go_cut [5, 6, 7] from 28 to 35 (fun v5 v6 v7 wx => ∃ b : Bool, v7 = .bool b ∧ (b = false → v5 = .string s ∧ v6 = .string ⟨#[]⟩ ∧ mb = ⟨#[]⟩ ∧ r = s) ∧ (b = true → v5 = .string mb ∧ v6 = .string r) ∧ HeadW w wx)
  case first =>
    by_cases hm : mb = ⟨#[]⟩
    · obtain ⟨rfl, hr⟩ := HH.out.none hm
      go_wp2_with fail
      go_meet
      case rel => exact ⟨false, rfl, fun _ => ⟨rfl, rfl, hm, hr⟩, nofun, HE1.out⟩
    · obtain ⟨rfl, h1, h2, h3, h4, _⟩ := HH.out.some hm
      have H4 := Aside0.mk h4
      have hle := HH.out.sle
      have hwr : IntKind.i64.wrap ((mb.size : Int) + 1) = (mb.size : Int) + 1 := IntWalk.i64_in _ (by constructor <;> omega)
      have hle1 : mb.size ≤ s.size := by omega
      have hi0 : (0 : Int) ≤ (mb.size : Int) + 1 := by omega
      have hi1 : (mb.size : Int) + 1 ≤ (s.size : Int) := by omega
      have htn : ((mb.size : Int) + 1).toNat = mb.size + 1 := by omega
      clear h4 hm
      go_wp2_with fail
      refine wp_region_noPanic ?_
      go_region_with (go_at_call 68; refine (H4.out _).mono ?_; rintro e w2 ⟨rfl, hb2⟩; have HB2 := Aside0.mk hb2; clear hb2)
      all_goals refine NoPanic.normal ?_
      all_goals go_wp2_with fail
      all_goals go_meet
      all_goals first
        | exact ⟨true, rfl, nofun, fun _ => ⟨rfl, rfl⟩, HE1.out.drew.up HB2.out⟩
        | exact ⟨true, rfl, nofun, fun _ => ⟨rfl, rfl⟩, HE1.out.up HB2.out⟩
        | exact ⟨true, rfl, nofun, fun _ => ⟨rfl, rfl⟩, (HE1.out.up HB2.out).drew⟩
  case rest =>
    obtain ⟨b, rfl, hcf, hct, hw⟩ := hcut
    have HF := Aside0.mk hcf
    have HT := Aside0.mk hct
    have HW := Aside0.mk hw
    clear hcf hct hw HB1 HE1 HA
    go_upto_if 37 with fail
    go_cut [5, 6] from 38 to 38 (fun v5 v6 wx => v5 = .string mb ∧ v6 = .string r ∧ wx = wc)
    case first =>
      cases b with
      | false =>
        obtain ⟨rfl, rfl, rfl, rfl⟩ := HF.out rfl
        go_wp2_with fail
        go_meet
        case rel => exact ⟨rfl, rfl, rfl⟩
      | true =>
        obtain ⟨rfl, rfl⟩ := HT.out rfl
        go_wp2_with fail
        go_meet
        case rel => exact ⟨rfl, rfl, rfl⟩
    case rest =>
      obtain ⟨rfl, rfl, rfl⟩ := hcut
      clear HF HT
      go_upto_region 12 with fail
      go_cut [45] from 39 to 45 (fun v45 wx => v45 = .bool false ∧ wx = wc)
      case first =>
        by_cases hm : mb = ⟨#[]⟩
        · have hme := str_empty mb
          rw [decide_eq_true hm] at hme
          clear hm
          go_wp2_with fail
          go_meet
          case rel => exact ⟨rfl, rfl⟩
        · have hme := str_empty mb
          rw [decide_eq_false hm] at hme
          have HV := Aside0.mk (HH.out.some hm).2.2.2.2.2
          clear hm
          go_wp2_with (go_at_call 69; refine (HV.out _).mono ?_; rintro e w2 ⟨rfl, rfl⟩)
          go_meet
          case rel => exact ⟨rfl, rfl⟩
      case rest =>
        obtain ⟨rfl, rfl⟩ := hcut
        go_upto_if 51 with fail
        go_cut [4] from 52 to 54 (fun v4 wx => (∃ z : Int, v4 = .int .i64 z) ∧ wx = wc.alloc (.cells #[.string s, .string mb, .string ⟨#[]⟩, .slice none 0 0, .string ⟨#[]⟩] 93))
        case first =>
          cases b with
          | false =>
            go_wp2_with fail
            go_meet
            case rel => exact ⟨⟨_, rfl⟩, rfl⟩
          | true =>
            go_wp2_with fail
            go_meet
            case rel => exact ⟨⟨_, rfl⟩, rfl⟩
        case rest =>
          obtain ⟨⟨z4, rfl⟩, rfl⟩ := hcut
          have HI := Aside0.mk HH.out.slash
          have HBR := Aside0.mk HH.out.brace
          have hx1 := HH.out.host
          have hx2 := HH.out.path
          have hx3 := HH.out.hle
          clear hs0 hs0'
          go_upto_region 27 with (first | (go_at_call 70; refine (HI.out _).mono ?_; rintro e w2 ⟨rfl, rfl⟩) | (go_at_call 70; refine (HBR.out _).mono ?_; rintro e w2 ⟨rfl, rfl⟩))
          obtain ⟨wa, rfl⟩ : ∃ x : World, x = wc := ⟨_, rfl⟩
          have hpb := Aside0.mk (heap_alloc_new wa (.cells #[.string s, .string mb, .string hb, .slice none 0 0, .string ⟨#[]⟩] 93))
          go_cut [94] from 83 to 94 (fun v94 wx => v94 = .bool false ∧ HeadW w wx ∧ wx.heap[wa.heap.size]? = some (.cells #[.string s, .string mb, .string hb, .slice none 0 0, .string ⟨#[]⟩] 93 (0, 0)))
          case first =>
            have HW2 := Aside0.mk (HW.out.up (below_alloc (Below.refl _ _) (.cells #[.string s, .string mb, .string hb, .slice none 0 0, .string ⟨#[]⟩] 93)))
            have HC := Aside0.mk (HH.out.clean (wa.alloc (.cells #[.string s, .string mb, .string hb, .slice none 0 0, .string ⟨#[]⟩] 93)))
            have hme := str_empty mb
            have hco : (mb.toList == [67, 79, 78, 78, 69, 67, 84]) = decide (mb = bs [67, 79, 78, 78, 69, 67, 84]) := by
              have := str_eq mb (bs [67, 79, 78, 78, 69, 67, 84])
              rw [bs_toList] at this
              exact this
            by_cases hm : mb = ⟨#[]⟩
            · rw [decide_eq_true hm] at hme
              clear hm hco
              go_wp2_with fail
              go_meet
              case rel => exact ⟨rfl, HW2.out, hpb.out⟩
            · rw [decide_eq_false hm] at hme
              clear hm
              by_cases hc : mb = bs [67, 79, 78, 78, 69, 67, 84]
              · rw [decide_eq_true hc] at hco
                have hcb : (mb.toList != [67, 79, 78, 78, 69, 67, 84]) = false := by rw [bne, hco]; rfl
                clear hc
                go_wp2_with fail
                go_meet
                case rel => exact ⟨rfl, HW2.out, hpb.out⟩
              · rw [decide_eq_false hc] at hco
                have hcb : (mb.toList != [67, 79, 78, 78, 69, 67, 84]) = true := by rw [bne, hco]; rfl
                clear hc
                go_wp2_with (go_at_call 71; refine HC.out.mono ?_; rintro e w3 ⟨rfl, hb3⟩; have HB3 := Aside0.mk hb3; clear hb3)
                go_meet
                case rel => exact ⟨rfl, HW2.out.up HB3.out, blk_below hpb.out HB3.out⟩
          case rest =>
            obtain ⟨rfl, hw4, hp4⟩ := hcut
            have hpe := HW.out.below.size
            generalize wa.heap.size = pb at *
            have hPI := Aside0.mk (PInv.mk (A := none) (c := 0) (l := []) (N := 0) (M := seen []) (below_alloc hw4.below (.map #[] 0)) (Nat.le_refl _) hpe hw4.below.size (blk_alloc hw4.err _) (blk_alloc hp4 _) (own_nil _ _ _ _) (mapB_new wc))
            clear hw4 hp4 HW hpb HI HBR hx1 hx2 hx3 HH
            have hmm := @run_makeMap Tryz.prog
            rw [HPP.out]
            go_wp2_with fail
            clear hmm hmf
            go_loopw [6] (fun v6 wr => ∃ (dn td : List Sg), v6 = .string (bs (sgT td)) ∧ Aside0 (l = dn ++ td) ∧ Aside0 (∃ A c, PInv w wr w.heap.size pb wc.heap.size s mb hb (.string ⟨#[]⟩) A c (dn.map Sg.seg) dn.length (seen dn))) (fun v6 _ => strLen v6)
            case atStart => exact ⟨[], l, rfl, ⟨rfl⟩, ⟨_, _, hPI.out⟩⟩
            case round =>
              obtain ⟨dn, td, rfl, hdt, HP⟩ := hrel
              obtain ⟨A, c, hP⟩ := HP.out
              obtain ⟨wo, rfl⟩ : ∃ x : World, x = wr := ⟨_, rfl⟩
              clear HP
              cases td with
              | nil =>
                rw [sgT_nil]
                have hz : (bs []).size = 0 := rfl
                generalize bs [] = R at *
                have HPI := Aside0.mk hP
                have hce : wo.cell? ⟨w.heap.size, 0, none⟩ = some .nilIface := (blk_cell hP.err 0).trans rfl
                have hfe := blk_frozen hP.err 0
                have hbe := blk_lt hP.err
                have hput := Aside0.mk (blk_put hP.err 0 .nilIface rfl)
                clear hP
                go_wp2_with fail
                refine leave52 _ _ _ _ _ rfl rfl hput.out ⟨pb, rfl, ?_, ?_⟩
                · have := HPI.out.errSet.patAt
                  rw [hdt.out, List.append_nil]
                  exact this
                · exact HPI.out.errSet.below
              | cons g td =>
                have hl := HL.out
                rw [hdt.out] at hl
                have hg : g.ok := hl.ok g (by simp)
                have htd : ∀ x ∈ td, x.ok := fun x hx => hl.ok x (by simp [hx])
                have hlen : (sgT (g :: td)).length ≤ 132 := by
                  have h1 := sgT_len (g :: td) (fun x hx => hl.ok x (by simp [List.mem_append]; right; simpa using hx))
                  have h2 := hl.len
                  simp at h1 h2
                  omega
                have hR1 : (bs (sgT (g :: td))).extract 1 (bs (sgT (g :: td))).size = bs (g.txt ++ sgT td) := by rw [bs_from, sgT_cons]; rfl
                have hRs : (bs (sgT (g :: td))).size = (bs (g.txt ++ sgT td)).size + 1 := by rw [bs_size, bs_size, sgT_cons]; rfl
                have hG : (bs (g.txt ++ sgT td)).extract 0 g.txt.length = bs g.txt := by rw [bs_upto]; simp
                have hR2 : (bs (g.txt ++ sgT td)).extract g.txt.length (bs (g.txt ++ sgT td)).size = bs (sgT td) := by rw [bs_from]; simp
                have hRl : (bs (g.txt ++ sgT td)).size = g.txt.length + (bs (sgT td)).size := by rw [bs_size, bs_size, List.length_append]
                have hRb : (bs (sgT (g :: td))).size ≤ 132 := by rw [bs_size]; exact hlen
                have hGs : (bs g.txt).size = g.txt.length := bs_size _
                have hI : Aside0 (∃ iv : Int, (iv = g.txt.length ∨ (iv = -1 ∧ (bs (sgT td)).size = 0)) ∧ ∀ w, Calls Tryz.prog 70 #[.string (bs (g.txt ++ sgT td)), .int .u8 47] w fun e w' => e = .returned (.int .i64 iv) ∧ w' = w) := by
                  refine ⟨?_⟩
                  have hI := fun w => Tryz.strings_IndexByte (bs (g.txt ++ sgT td)) 47 w
                  rw [bs_data] at hI
                  cases td with
                  | nil =>
                    refine ⟨-1, .inr ⟨rfl, rfl⟩, fun w => ?_⟩
                    have e : Lib.indexByte (g.txt ++ sgT []) (47 : Int).toNat.toUInt8 = -1 := by
                      rw [sgT_nil, List.append_nil]
                      exact indexByte_not (Sg.noSlash hg)
                    rw [e] at hI
                    exact hI w
                  | cons x td =>
                    refine ⟨_, .inl rfl, fun w => ?_⟩
                    have e : Lib.indexByte (g.txt ++ sgT (x :: td)) (47 : Int).toNat.toUInt8 = g.txt.length := by
                      rw [sgT_cons]
                      exact indexByte_at (Sg.noSlash hg)
                    rw [e] at hI
                    exact hI w
                have hHP := Aside0.mk hP
                have hGO := Aside0.mk hg
                have hLO := Aside0.mk hl
                clear hP hlen htd
                cases g with
                | any =>
                  have htd : td = [] := by
                    have h1 : dn.length < (dn ++ Sg.any :: td).length := by simp
                    have h2 := hLO.out.last dn.length h1 (by simp [Sg.last])
                    have h3 : (dn ++ Sg.any :: td).length = dn.length + (td.length + 1) := by simp
                    exact List.length_eq_zero_iff.1 (by omega)
                  subst htd
                  simp only [Sg.txt] at hR1 hRs hRl
                  have hz : ((bs ([] ++ sgT [])).size : Int) = 0 := rfl
                  have hce : wo.cell? ⟨pb, 3, none⟩ = some (.slice A (dn.map Sg.seg).length c) := (blk_cell hHP.out.pat 3).trans rfl
                  have hfe := blk_frozen hHP.out.pat 3
                  have hbe := blk_lt hHP.out.pat
                  have hdl : Aside0 ((dn.map Sg.seg).length ≤ 6 ∧ dn.length ≤ 6) := ⟨by have := hLO.out.len; simp at this ⊢; omega⟩
                  clear hG hR2 hRl hGs hI hl hg
                  generalize hRR : bs (sgT [Sg.any]) = R at *
                  generalize hRR1 : bs ([] ++ sgT []) = R1 at *
                  clear hRR hRR1
                  have h1R : 1 ≤ R.size := by omega
                  have hn0 : ((R1.size : Int) == 0) = true := by rw [hz]; rfl
                  clear hRs hz
                  go_upto_region 34 with fail
                  obtain ⟨i0, hi, hzz⟩ := Option.map_eq_some_iff.1 info112
                  simp only [Prod.mk.injEq] at hzz
                  obtain ⟨hz0, hz1, hz2⟩ := hzz
                  have HZ := Aside0.mk (And.intro hi (And.intro hz0 (And.intro hz1 hz2)))
                  clear hi hz0 hz1 hz2
                  generalize hll : dn.map Sg.seg = ll at *
                  have HLL := Aside0.mk hll
                  clear hll
                  go_upto_region 64 with (at_builtin; go_must (refine wpList_append_own_at _ rfl _ _ 91 rfl w.heap.size 112 i0 (.agg #[.string ⟨#[]⟩, .bool false, .bool false]) 3 24 Tryz.underlying91 HZ.out.1 HZ.out.2.1 HZ.out.2.2.1 HZ.out.2.2.2 rfl (by decide) (.slice A ll.length c) ll.length (flat3 ll) rfl (hHP.out.alloc (.cells #[.string ⟨#[]⟩, .bool true, .bool true] 112)).own ⟨wo.heap.size, 0, none⟩ 1 1 [.string ⟨#[]⟩, .bool true, .bool true] rfl rfl ?c1 ?c2 ?c3 ?c4 ?c5 ?_); go_must ((case c1 => exact three_new _ _ _ _ _)); go_must ((case c2 => intro u hu; simp at hu; rcases hu with rfl | rfl <;> rfl)); go_must ((case c3 => have := hdl.out; simp only [maxLen]; omega)); go_must ((case c4 => have := hdl.out; omega)); go_must ((case c5 => have := hHP.out.size; simp; omega)); go_must (intro v1 w1 hown hg hnil hat); clear hnil hat; obtain ⟨A1, c1, rfl⟩ := own_slice hown; go_must (have HM := Aside0.mk (hHP.out.more (O := .cells #[.string ⟨#[]⟩, .bool true, .bool true] 112) (x := ⟨bs [], true, true⟩) hown hg)); go_must (have hp1 := blk_grown (blk_alloc hHP.out.pat (.cells #[.string ⟨#[]⟩, .bool true, .bool true] 112)) hg (hHP.out.rowKind hHP.out.pat (by decide))); go_must (have hd2 : w1.cell? ⟨pb, 3, none⟩ = some (.slice A ll.length c) := (blk_cell hp1 3).trans rfl); have hf2 := blk_frozen hp1 3; have hb2 := blk_lt hp1; clear hown hg hp1)
                  have he : Aside0 (l.map Sg.seg = ll ++ [(⟨bs [], true, true⟩ : S52)]) := by
                    refine ⟨?_⟩
                    rw [hdt.out, List.map_append, HLL.out]
                    rfl
                  clear hd2 hf2 hb2
                  generalize w1.setCell ⟨pb, 3, none⟩ (.slice A1 (ll.length + 1) c1) = w9 at *
                  have hce : w9.cell? ⟨w.heap.size, 0, none⟩ = some .nilIface := (blk_cell HM.out.err 0).trans rfl
                  have hfe := blk_frozen HM.out.err 0
                  have hbe := blk_lt HM.out.err
                  have hput := Aside0.mk (blk_put HM.out.err 0 .nilIface rfl)
                  go_wp2_with fail
                  refine leave52 _ _ _ _ _ rfl rfl hput.out ⟨pb, rfl, ?_, ?_⟩
                  · have := HM.out.errSet.patAt
                    rw [he.out]
                    exact this
                  · exact HM.out.errSet.below
                | lit t =>
                  simp only [Sg.txt] at hR1 hRs hG hR2 hRl hGs hI
                  have hB : Aside0 (∀ w, Calls Tryz.prog 70 #[.string (bs t), .int .u8 123] w fun e w' => e = .returned (.int .i64 (-1)) ∧ w' = w) := ⟨fun w => by
                    have hI := Tryz.strings_IndexByte (bs t) 123 w
                    rw [bs_data] at hI
                    have e : Lib.indexByte t (123 : Int).toNat.toUInt8 = -1 := indexByte_not (fun h => (hGO.out.2.2.2.2 _ h).2.2.2.2.1 rfl)
                    rw [e] at hI
                    exact hI⟩
                  have hU : Aside0 (∀ w, Calls Tryz.prog 72 #[.string (bs t)] w fun e w' => e = .returned (.string (bs t)) ∧ w' = w) := ⟨fun w => pathUnescape_plain _ w (noByte_bs _ (fun h => (hGO.out.2.2.2.2 _ h).2.2.2.1 rfl)) (by rw [bs_size]; have := hGO.out.2.2.2.1; omega)⟩
                  have hne : 1 ≤ (bs (t ++ sgT td)).size := by
                    have := hGO.out.1
                    rw [bs_size, List.length_append]
                    have := List.length_pos_iff.2 this
                    omega
                  have hdl : Aside0 ((dn.map Sg.seg).length ≤ 6 ∧ dn.length ≤ 6) := ⟨by have := hLO.out.len; simp at this ⊢; omega⟩
                  obtain ⟨iv, hiv, hIC⟩ := hI.out
                  have HIC := Aside0.mk hIC
                  have HIV := Aside0.mk hiv
                  have hce : wo.cell? ⟨pb, 3, none⟩ = some (.slice A (dn.map Sg.seg).length c) := (blk_cell hHP.out.pat 3).trans rfl
                  have hfe := blk_frozen hHP.out.pat 3
                  have hbe := blk_lt hHP.out.pat
                  clear hI hIC hiv hl hg
                  generalize hRR : bs (sgT (Sg.lit t :: td)) = R at *
                  generalize hRR1 : bs (t ++ sgT td) = R1 at *
                  generalize hRR2 : bs (sgT td) = R2 at *
                  generalize hGG : bs t = G at *
                  generalize hgn : (t : List UInt8).length = gn at *
                  have HRR2 := Aside0.mk hRR2
                  clear hRR hRR1 hRR2
                  have HGG := Aside0.mk hGG
                  clear hGG
                  have HGN := Aside0.mk hgn
                  clear hgn
                  subst hGs
                  have hGle : G.size ≤ R1.size := by omega
                  have h1R : 1 ≤ R.size := by omega
                  have hRb1 : R1.size ≤ 131 := by omega
                  have hn0 : ((R1.size : Int) == 0) = false := by rw [beq_eq_false_iff_ne]; omega
                  have HRs := Aside0.mk hRs
                  have HRl := Aside0.mk hRl
                  clear hRs hRl
                  go_upto_if 123 with (go_at_call 70; refine (HIC.out _).mono ?_; rintro e w2 ⟨rfl, hww⟩; obtain rfl := hww.symm)
                  go_cut [13] from 124 to 125 (fun v13 wx => v13 = .int .i64 G.size ∧ wx = wo)
                  case first =>
                    rcases HIV.out with rfl | ⟨rfl, hz⟩
                    · go_wp2_with fail
                      go_meet
                      case rel => exact ⟨rfl, rfl⟩
                    · have hzz := Aside0.mk (show R1.size = G.size by have := HRl.out; omega)
                      clear hz
                      go_wp2_with fail
                      go_meet
                      case rel => exact ⟨by rw [hzz.out], rfl⟩
                  case rest =>
                    obtain ⟨rfl, hww⟩ := hcut
                    obtain rfl := hww.symm
                    clear hn0
                    go_upto_region 39 with fail
                    refine wp_region_noPanic ?_
                    go_quiet (fail)
                    refine NoPanic.normal ?_
                    have HPn := Aside0.mk (hHP.out.drewN nq)
                    clear hce hfe hbe
                    generalize wo.drewN nq = wd at *
                    have hce : wd.cell? ⟨pb, 3, none⟩ = some (.slice A (dn.map Sg.seg).length c) := (blk_cell HPn.out.pat 3).trans rfl
                    have hfe := blk_frozen HPn.out.pat 3
                    have hbe := blk_lt HPn.out.pat
                    go_upto_region 43 with (first | (go_at_call 70; refine (hB.out _).mono ?_; rintro e w2 ⟨rfl, hww⟩; obtain rfl := hww.symm) | (go_at_call 72; refine (hU.out _).mono ?_; rintro e w2 ⟨rfl, hww⟩; obtain rfl := hww.symm))
                    obtain ⟨i0, hi, hzz⟩ := Option.map_eq_some_iff.1 info112
                    simp only [Prod.mk.injEq] at hzz
                    obtain ⟨hz0, hz1, hz2⟩ := hzz
                    have HZ := Aside0.mk (And.intro hi (And.intro hz0 (And.intro hz1 hz2)))
                    clear hi hz0 hz1 hz2
                    generalize hll : dn.map Sg.seg = ll at *
                    have HLL := Aside0.mk hll
                    clear hll
                    go_wp2_with (at_builtin; go_must (refine wpList_append_own_at _ rfl _ _ 91 rfl w.heap.size 112 i0 (.agg #[.string ⟨#[]⟩, .bool false, .bool false]) 3 24 Tryz.underlying91 HZ.out.1 HZ.out.2.1 HZ.out.2.2.1 HZ.out.2.2.2 rfl (by decide) (.slice A ll.length c) ll.length (flat3 ll) rfl (HPn.out.alloc (.cells #[.string G, .bool false, .bool false] 112)).own ⟨wd.heap.size, 0, none⟩ 1 1 [.string G, .bool false, .bool false] rfl rfl ?c1 ?c2 ?c3 ?c4 ?c5 ?_); go_must ((case c1 => exact three_new _ _ _ _ _)); go_must ((case c2 => intro u hu; simp at hu; rcases hu with rfl | rfl <;> rfl)); go_must ((case c3 => have := hdl.out; simp only [maxLen]; omega)); go_must ((case c4 => have := hdl.out; omega)); go_must ((case c5 => have := HPn.out.size; simp; omega)); go_must (intro v1 w1 hown hg hnil hat); clear hnil hat; obtain ⟨A1, c1, rfl⟩ := own_slice hown; go_must (have HM := Aside0.mk (HPn.out.more (O := .cells #[.string G, .bool false, .bool false] 112) (x := ⟨G, false, false⟩) hown hg)); go_must (have hp1 := blk_grown (blk_alloc HPn.out.pat (.cells #[.string G, .bool false, .bool false] 112)) hg (HPn.out.rowKind HPn.out.pat (by decide))); go_must (have hd2 : w1.cell? ⟨pb, 3, none⟩ = some (.slice A ll.length c) := (blk_cell hp1 3).trans rfl); have hf2 := blk_frozen hp1 3; have hb2 := blk_lt hp1; clear hown hg hp1)
                    go_roundw
                    case rel =>
                      have e : List.map Sg.seg (dn ++ [Sg.lit t]) = ll ++ [⟨G, false, false⟩] := by rw [List.map_append, HLL.out, ← HGG.out]; rfl
                      refine ⟨dn ++ [Sg.lit t], td, by rw [HRR2.out], ⟨by rw [hdt.out]; simp⟩, ⟨A1, c1, ?_⟩⟩
                      rw [e]
                      exact HM.out.mapTo ((HM.out.map.mono (by simp)).ext (fun j => by rw [seen_snoc]; simp [Sg.name]))
                    case measure =>
                      have h1 := HRs.out
                      have h2 := HRl.out
                      simp only [strLen]
                      omega
                | wild n =>
                  simp only [Sg.txt] at hR1 hRs hG hR2 hRl hGs hI
                  have hB : Aside0 (∀ w, Calls Tryz.prog 70 #[.string (bs (123 :: (n ++ [125]))), .int .u8 123] w fun e w' => e = .returned (.int .i64 0) ∧ w' = w) := ⟨fun w => by
                    have hI := Tryz.strings_IndexByte (bs (123 :: (n ++ [125]))) 123 w
                    rw [bs_data] at hI
                    exact hI⟩
                  obtain ⟨gk, hgk⟩ : ∃ gk : Nat, gk = (n : List UInt8).length + 1 := ⟨_, rfl⟩
                  have hGk : (bs (123 :: (n ++ [125]))).size = gk + 1 := by simp [bs_size, hgk]
                  have hxk : ∀ h : gk < (bs (123 :: (n ++ [125]))).size, (((bs (123 :: (n ++ [125])))[gk]'h).toNat : Int) = 125 := fun h => by
                    have h1 := bt_at (bs (123 :: (n ++ [125]))) (gk : Int) h
                    have h2 := bt_getElem (123 :: (n ++ [125])) gk 125 (by rw [hgk]; simp)
                    exact h1.trans h2
                  have hN : (bs (123 :: (n ++ [125]))).extract 1 gk = bs (n) := by
                    rw [bs_extract, hgk]
                    congr 1; simp
                  have hgk1 : 1 ≤ gk := by omega
                  have hgkb : gk ≤ 21 := by
                    have := Sg.len hg
                    rw [bs_size] at hGk
                    simp only [Sg.txt] at this
                    omega
                  have HGk := Aside0.mk hGk
                  clear hGk
                  have hne : 1 ≤ (bs ((123 :: (n ++ [125])) ++ sgT td)).size := by rw [bs_size]; simp
                  have hn36 : ((bs (n)).toList == [36]) = false := by
                    rw [bs_toList]
                    obtain ⟨b, t, hb, hh⟩ := hGO.out.1
                    rw [beq_eq_false_iff_ne]
                    intro e
                    rw [hb] at e
                    have h36 : b = 36 := by simp at e; exact e.1
                    subst h36
                    unfold NameHead at hh
                    revert hh
                    decide
                  have hCS : Aside0 (∀ w, Calls Tryz.prog 73 #[.string (bs (n)), .string ⟨#[46, 46, 46]⟩] w fun e w' => e = .returned (.tuple #[.string (bs n), .bool false]) ∧ w' = w) := ⟨fun w => by
                    have h := Tryz.strings_CutSuffix (bs (n)) (bs [46, 46, 46]) w (by rw [bs_size]; have := hgk; omega)
                    rw [bs_data, bs_data] at h
                    have h46 := hGO.out.2.1
                    have e1 : Lib.hasSuffix (n) [46, 46, 46] = false := hasSuffix_dots h46
                    have e2 : Lib.trimSuffix (n) [46, 46, 46] = n := by unfold Lib.trimSuffix; rw [hasSuffix_dots h46]; rfl
                    rw [e1, e2] at h
                    exact h⟩
                  have hsn : (bs n).toList.isEmpty = false := by
                    rw [bs_toList]
                    obtain ⟨b, t, hb, _⟩ := hGO.out.1
                    rw [hb]; rfl
                  have hnl : (bs n).size ≤ 16 := by rw [bs_size]; exact hGO.out.2.2
                  have hWC : Aside0 (∀ w', Tab w' → Calls Tryz.prog 74 #[.string (bs n)] w' fun e w'' => e = .returned (.bool true) ∧ Below w'.heap.size w' w'') := ⟨fun w' hw => wildcardName n w' hGO.out.1 hGO.out.2.1 hw⟩
                  have hsee : Aside0 (seen dn (bs n) = false) := ⟨seen_not hLO.out rfl⟩
                  clear hgk
                  generalize hNM : bs n = NM at *
                  have HNM := Aside0.mk hNM
                  clear hNM
                  have hdl : Aside0 ((dn.map Sg.seg).length ≤ 6 ∧ dn.length ≤ 6) := ⟨by have := hLO.out.len; simp at this ⊢; omega⟩
                  obtain ⟨iv, hiv, hIC⟩ := hI.out
                  have HIC := Aside0.mk hIC
                  have HIV := Aside0.mk hiv
                  have hce : wo.cell? ⟨pb, 3, none⟩ = some (.slice A (dn.map Sg.seg).length c) := (blk_cell hHP.out.pat 3).trans rfl
                  have hfe := blk_frozen hHP.out.pat 3
                  have hbe := blk_lt hHP.out.pat
                  clear hI hIC hiv hl hg
                  generalize hRR : bs (sgT (Sg.wild n :: td)) = R at *
                  generalize hRR1 : bs ((123 :: (n ++ [125])) ++ sgT td) = R1 at *
                  generalize hRR2 : bs (sgT td) = R2 at *
                  generalize hGG : bs (123 :: (n ++ [125])) = G at *
                  generalize hgn : ((123 :: (n ++ [125])) : List UInt8).length = gn at *
                  have HRR2 := Aside0.mk hRR2
                  clear hRR hRR1 hRR2
                  have HGG := Aside0.mk hGG
                  clear hGG
                  have HGN := Aside0.mk hgn
                  clear hgn
                  subst hGs
                  have hGle : G.size ≤ R1.size := by omega
                  have h1R : 1 ≤ R.size := by omega
                  have hRb1 : R1.size ≤ 131 := by omega
                  have hn0 : ((R1.size : Int) == 0) = false := by rw [beq_eq_false_iff_ne]; omega
                  have HRs := Aside0.mk hRs
                  have HRl := Aside0.mk hRl
                  clear hRs hRl
                  go_upto_if 123 with (go_at_call 70; refine (HIC.out _).mono ?_; rintro e w2 ⟨rfl, hww⟩; obtain rfl := hww.symm)
                  go_cut [13] from 124 to 125 (fun v13 wx => v13 = .int .i64 G.size ∧ wx = wo)
                  case first =>
                    rcases HIV.out with rfl | ⟨rfl, hz⟩
                    · go_wp2_with fail
                      go_meet
                      case rel => exact ⟨rfl, rfl⟩
                    · have hzz := Aside0.mk (show R1.size = G.size by have := HRl.out; omega)
                      clear hz
                      go_wp2_with fail
                      go_meet
                      case rel => exact ⟨by rw [hzz.out], rfl⟩
                  case rest =>
                    obtain ⟨rfl, hww⟩ := hcut
                    obtain rfl := hww.symm
                    clear hn0
                    go_upto_region 39 with fail
                    refine wp_region_noPanic ?_
                    go_quiet (fail)
                    refine NoPanic.normal ?_
                    have HPn := Aside0.mk (hHP.out.drewN nq)
                    clear hce hfe hbe
                    generalize wo.drewN nq = wd at *
                    have hce : wd.cell? ⟨pb, 3, none⟩ = some (.slice A (dn.map Sg.seg).length c) := (blk_cell HPn.out.pat 3).trans rfl
                    have hfe := blk_frozen HPn.out.pat 3
                    have hbe := blk_lt HPn.out.pat
                    have hGk := HGk.out
                    have hwr : IntKind.i64.wrap (gk : Int) = gk := IntWalk.i64_in _ (by constructor <;> omega)
                    have hpk : (gk : Int) < (gk : Int) + 1 := by omega
                    have hp1 : (1 : Int) ≤ (gk : Int) := by omega
                    go_upto_region 62 with (first
                      | (go_at_call 70; refine (hB.out _).mono ?_; rintro e w2 ⟨rfl, hww⟩; obtain rfl := hww.symm)
                      | (go_at_call 73; refine (hCS.out _).mono ?_; rintro e w2 ⟨rfl, hww⟩; obtain rfl := hww.symm)
                      | (go_at_call 74; go_must (refine (hWC.out wd (HT.out.below HPn.out.below)).mono ?_); rintro e w4 ⟨rfl, hb4⟩; go_must (have HP4 := Aside0.mk (HPn.out.up hb4)); go_must (have hlk := HP4.out.map.look NM (by simp only [maxLen]; omega)); go_must (rw [hsee.out] at hlk); clear hb4))
                    clear hlk hce hfe hbe
                    go_upto_region 63 with (at_mapUpdate; obtain ⟨D, hD, h1, h2⟩ := HP4.out.map; go_must (have HMP := Aside0.mk (mapB_put hD.isMap h1 h2 NM)); go_must (refine wpList_mapUpdate_own _ rfl _ _ _ 47 rfl 9 4 K9 Tryz.underlying47 (plainElem Tryz.prog 4) wc.heap.size dn.length D rfl hD (by have := hdl.out; simp only [maxLen]; omega) _ _ (kl NM) rfl rfl (key9 NM (by simp only [maxLen]; omega)) (.lit (.bool true)) [] (plainElem_bool Tryz.underlying4 true) ?_); intro w5 hown5 hgrow5; go_must (have HP5 := Aside0.mk (HP4.out.note hgrow5 ⟨_, hown5, HMP.out.1, HMP.out.2⟩)); clear hown5 hgrow5 hD h1 h2)
                    have hce : w5.cell? ⟨pb, 3, none⟩ = some (.slice A (dn.map Sg.seg).length c) := (blk_cell HP5.out.pat 3).trans rfl
                    have hfe := blk_frozen HP5.out.pat 3
                    have hbe := blk_lt HP5.out.pat
                    obtain ⟨i0, hi, hzz⟩ := Option.map_eq_some_iff.1 info112
                    simp only [Prod.mk.injEq] at hzz
                    obtain ⟨hz0, hz1, hz2⟩ := hzz
                    have HZ := Aside0.mk (And.intro hi (And.intro hz0 (And.intro hz1 hz2)))
                    clear hi hz0 hz1 hz2
                    generalize hll : dn.map Sg.seg = ll at *
                    have HLL := Aside0.mk hll
                    clear hll
                    go_wp2_with (at_builtin; go_must (refine wpList_append_own_at _ rfl _ _ 91 rfl w.heap.size 112 i0 (.agg #[.string ⟨#[]⟩, .bool false, .bool false]) 3 24 Tryz.underlying91 HZ.out.1 HZ.out.2.1 HZ.out.2.2.1 HZ.out.2.2.2 rfl (by decide) (.slice A ll.length c) ll.length (flat3 ll) rfl (HP5.out.alloc (.cells #[.string NM, .bool true, .bool false] 112)).own ⟨w5.heap.size, 0, none⟩ 1 1 [.string NM, .bool true, .bool false] rfl rfl ?c1 ?c2 ?c3 ?c4 ?c5 ?_); go_must ((case c1 => exact three_new _ _ _ _ _)); go_must ((case c2 => intro u hu; simp at hu; rcases hu with rfl | rfl | rfl <;> rfl)); go_must ((case c3 => have := hdl.out; simp only [maxLen]; omega)); go_must ((case c4 => have := hdl.out; omega)); go_must ((case c5 => have := HP5.out.size; simp; omega)); go_must (intro v1 w1 hown hg hnil hat); clear hnil hat; obtain ⟨A1, c1, rfl⟩ := own_slice hown; go_must (have HM := Aside0.mk (HP5.out.more (O := .cells #[.string NM, .bool true, .bool false] 112) (x := ⟨NM, true, false⟩) hown hg)); go_must (have hp1 := blk_grown (blk_alloc HP5.out.pat (.cells #[.string NM, .bool true, .bool false] 112)) hg (HP5.out.rowKind HP5.out.pat (by decide))); go_must (have hd2 : w1.cell? ⟨pb, 3, none⟩ = some (.slice A ll.length c) := (blk_cell hp1 3).trans rfl); have hf2 := blk_frozen hp1 3; have hb2 := blk_lt hp1; clear hown hg hp1)
                    go_roundw
                    case rel =>
                      have e : List.map Sg.seg (dn ++ [Sg.wild n]) = ll ++ [⟨NM, true, false⟩] := by rw [List.map_append, HLL.out, ← HNM.out]; rfl
                      refine ⟨dn ++ [Sg.wild n], td, by rw [HRR2.out], ⟨by rw [hdt.out]; simp⟩, ⟨A1, c1, ?_⟩⟩
                      rw [e]
                      exact HM.out.mapTo ((HM.out.map.mono (by simp)).ext (fun j => by rw [seen_snoc, ← HNM.out]; simp [Sg.name, eq_comm]))
                    case measure =>
                      have h1 := HRs.out
                      have h2 := HRl.out
                      simp only [strLen]
                      omega
                | rest n =>
                  simp only [Sg.txt] at hR1 hRs hG hR2 hRl hGs hI
                  have htd : td = [] := by
                    have h1 : dn.length < (dn ++ Sg.rest n :: td).length := by simp
                    have h2 := hLO.out.last dn.length h1 (by simp [Sg.last])
                    have h3 : (dn ++ Sg.rest n :: td).length = dn.length + (td.length + 1) := by simp
                    exact List.length_eq_zero_iff.1 (by omega)
                  subst htd
                  have hB : Aside0 (∀ w, Calls Tryz.prog 70 #[.string (bs (123 :: (n ++ [46, 46, 46, 125]))), .int .u8 123] w fun e w' => e = .returned (.int .i64 0) ∧ w' = w) := ⟨fun w => by
                    have hI := Tryz.strings_IndexByte (bs (123 :: (n ++ [46, 46, 46, 125]))) 123 w
                    rw [bs_data] at hI
                    exact hI⟩
                  obtain ⟨gk, hgk⟩ : ∃ gk : Nat, gk = (n ++ [46, 46, 46] : List UInt8).length + 1 := ⟨_, rfl⟩
                  have hGk : (bs (123 :: (n ++ [46, 46, 46, 125]))).size = gk + 1 := by simp [bs_size, hgk]
                  have hxk : ∀ h : gk < (bs (123 :: (n ++ [46, 46, 46, 125]))).size, (((bs (123 :: (n ++ [46, 46, 46, 125])))[gk]'h).toNat : Int) = 125 := fun h => by
                    have h1 := bt_at (bs (123 :: (n ++ [46, 46, 46, 125]))) (gk : Int) h
                    have h2 := bt_getElem (123 :: (n ++ [46, 46, 46, 125])) gk 125 (by rw [hgk]; simp)
                    exact h1.trans h2
                  have hN : (bs (123 :: (n ++ [46, 46, 46, 125]))).extract 1 gk = bs (n ++ [46, 46, 46]) := by
                    rw [bs_extract, hgk]
                    exact congrArg bs (rest_name n)
                  have hgk1 : 1 ≤ gk := by omega
                  have hgkb : gk ≤ 21 := by
                    have := Sg.len hg
                    rw [bs_size] at hGk
                    simp only [Sg.txt] at this
                    omega
                  have HGk := Aside0.mk hGk
                  clear hGk
                  have hne : 1 ≤ (bs ((123 :: (n ++ [46, 46, 46, 125])) ++ sgT [])).size := by rw [bs_size]; simp
                  have hn36 : ((bs (n ++ [46, 46, 46])).toList == [36]) = false := by
                    rw [bs_toList]
                    obtain ⟨b, t, hb, _⟩ := hGO.out.1
                    rw [hb]
                    simp
                  have hCS : Aside0 (∀ w, Calls Tryz.prog 73 #[.string (bs (n ++ [46, 46, 46])), .string ⟨#[46, 46, 46]⟩] w fun e w' => e = .returned (.tuple #[.string (bs n), .bool true]) ∧ w' = w) := ⟨fun w => by
                    have h := Tryz.strings_CutSuffix (bs (n ++ [46, 46, 46])) (bs [46, 46, 46]) w (by rw [bs_size]; have := hgk; omega)
                    rw [bs_data, bs_data] at h
                    have h46 := hGO.out.2.1
                    have e1 : Lib.hasSuffix (n ++ [46, 46, 46]) [46, 46, 46] = true := by simp [Lib.hasSuffix]
                    have e2 : Lib.trimSuffix (n ++ [46, 46, 46]) [46, 46, 46] = n := by simp [Lib.trimSuffix, Lib.hasSuffix]
                    rw [e1, e2] at h
                    exact h⟩
                  have hsn : (bs n).toList.isEmpty = false := by
                    rw [bs_toList]
                    obtain ⟨b, t, hb, _⟩ := hGO.out.1
                    rw [hb]; rfl
                  have hnl : (bs n).size ≤ 16 := by rw [bs_size]; exact hGO.out.2.2
                  have hWC : Aside0 (∀ w', Tab w' → Calls Tryz.prog 74 #[.string (bs n)] w' fun e w'' => e = .returned (.bool true) ∧ Below w'.heap.size w' w'') := ⟨fun w' hw => wildcardName n w' hGO.out.1 hGO.out.2.1 hw⟩
                  have hsee : Aside0 (seen dn (bs n) = false) := ⟨seen_not hLO.out rfl⟩
                  generalize hNN : bs (n ++ [46, 46, 46]) = NB at *
                  clear hNN hgk
                  generalize hNM : bs n = NM at *
                  have HNM := Aside0.mk hNM
                  clear hNM
                  have hdl : Aside0 ((dn.map Sg.seg).length ≤ 6 ∧ dn.length ≤ 6) := ⟨by have := hLO.out.len; simp at this ⊢; omega⟩
                  obtain ⟨iv, hiv, hIC⟩ := hI.out
                  have HIC := Aside0.mk hIC
                  have HIV := Aside0.mk hiv
                  have hce : wo.cell? ⟨pb, 3, none⟩ = some (.slice A (dn.map Sg.seg).length c) := (blk_cell hHP.out.pat 3).trans rfl
                  have hfe := blk_frozen hHP.out.pat 3
                  have hbe := blk_lt hHP.out.pat
                  clear hI hIC hiv hl hg
                  generalize hRR : bs (sgT (Sg.rest n :: [])) = R at *
                  generalize hRR1 : bs ((123 :: (n ++ [46, 46, 46, 125])) ++ sgT []) = R1 at *
                  generalize hRR2 : bs (sgT []) = R2 at *
                  generalize hGG : bs (123 :: (n ++ [46, 46, 46, 125])) = G at *
                  generalize hgn : ((123 :: (n ++ [46, 46, 46, 125])) : List UInt8).length = gn at *
                  have HRR2 := Aside0.mk hRR2
                  clear hRR hRR1 hRR2
                  have HGG := Aside0.mk hGG
                  clear hGG
                  have HGN := Aside0.mk hgn
                  clear hgn
                  subst hGs
                  have hGle : G.size ≤ R1.size := by omega
                  have h1R : 1 ≤ R.size := by omega
                  have hRb1 : R1.size ≤ 131 := by omega
                  have hr0 : ((R2.size : Int) != 0) = false := by rw [← HRR2.out]; rfl
                  have hn0 : ((R1.size : Int) == 0) = false := by rw [beq_eq_false_iff_ne]; omega
                  have HRs := Aside0.mk hRs
                  have HRl := Aside0.mk hRl
                  clear hRs hRl
                  go_upto_if 123 with (go_at_call 70; refine (HIC.out _).mono ?_; rintro e w2 ⟨rfl, hww⟩; obtain rfl := hww.symm)
                  go_cut [13] from 124 to 125 (fun v13 wx => v13 = .int .i64 G.size ∧ wx = wo)
                  case first =>
                    rcases HIV.out with rfl | ⟨rfl, hz⟩
                    · go_wp2_with fail
                      go_meet
                      case rel => exact ⟨rfl, rfl⟩
                    · have hzz := Aside0.mk (show R1.size = G.size by have := HRl.out; omega)
                      clear hz
                      go_wp2_with fail
                      go_meet
                      case rel => exact ⟨by rw [hzz.out], rfl⟩
                  case rest =>
                    obtain ⟨rfl, hww⟩ := hcut
                    obtain rfl := hww.symm
                    clear hn0
                    go_upto_region 39 with fail
                    refine wp_region_noPanic ?_
                    go_quiet (fail)
                    refine NoPanic.normal ?_
                    have HPn := Aside0.mk (hHP.out.drewN nq)
                    clear hce hfe hbe
                    generalize wo.drewN nq = wd at *
                    have hce : wd.cell? ⟨pb, 3, none⟩ = some (.slice A (dn.map Sg.seg).length c) := (blk_cell HPn.out.pat 3).trans rfl
                    have hfe := blk_frozen HPn.out.pat 3
                    have hbe := blk_lt HPn.out.pat
                    have hGk := HGk.out
                    have hwr : IntKind.i64.wrap (gk : Int) = gk := IntWalk.i64_in _ (by constructor <;> omega)
                    have hpk : (gk : Int) < (gk : Int) + 1 := by omega
                    have hp1 : (1 : Int) ≤ (gk : Int) := by omega
                    go_upto_region 62 with (first
                      | (go_at_call 70; refine (hB.out _).mono ?_; rintro e w2 ⟨rfl, hww⟩; obtain rfl := hww.symm)
                      | (go_at_call 73; refine (hCS.out _).mono ?_; rintro e w2 ⟨rfl, hww⟩; obtain rfl := hww.symm)
                      | (go_at_call 74; go_must (refine (hWC.out wd (HT.out.below HPn.out.below)).mono ?_); rintro e w4 ⟨rfl, hb4⟩; go_must (have HP4 := Aside0.mk (HPn.out.up hb4)); go_must (have hlk := HP4.out.map.look NM (by simp only [maxLen]; omega)); go_must (rw [hsee.out] at hlk); clear hb4))
                    clear hlk hce hfe hbe
                    go_upto_region 63 with (at_mapUpdate; obtain ⟨D, hD, h1, h2⟩ := HP4.out.map; go_must (have HMP := Aside0.mk (mapB_put hD.isMap h1 h2 NM)); go_must (refine wpList_mapUpdate_own _ rfl _ _ _ 47 rfl 9 4 K9 Tryz.underlying47 (plainElem Tryz.prog 4) wc.heap.size dn.length D rfl hD (by have := hdl.out; simp only [maxLen]; omega) _ _ (kl NM) rfl rfl (key9 NM (by simp only [maxLen]; omega)) (.lit (.bool true)) [] (plainElem_bool Tryz.underlying4 true) ?_); intro w5 hown5 hgrow5; go_must (have HP5 := Aside0.mk (HP4.out.note hgrow5 ⟨_, hown5, HMP.out.1, HMP.out.2⟩)); clear hown5 hgrow5 hD h1 h2)
                    have hce : w5.cell? ⟨pb, 3, none⟩ = some (.slice A (dn.map Sg.seg).length c) := (blk_cell HP5.out.pat 3).trans rfl
                    have hfe := blk_frozen HP5.out.pat 3
                    have hbe := blk_lt HP5.out.pat
                    obtain ⟨i0, hi, hzz⟩ := Option.map_eq_some_iff.1 info112
                    simp only [Prod.mk.injEq] at hzz
                    obtain ⟨hz0, hz1, hz2⟩ := hzz
                    have HZ := Aside0.mk (And.intro hi (And.intro hz0 (And.intro hz1 hz2)))
                    clear hi hz0 hz1 hz2
                    generalize hll : dn.map Sg.seg = ll at *
                    have HLL := Aside0.mk hll
                    clear hll
                    go_wp2_with (at_builtin; go_must (refine wpList_append_own_at _ rfl _ _ 91 rfl w.heap.size 112 i0 (.agg #[.string ⟨#[]⟩, .bool false, .bool false]) 3 24 Tryz.underlying91 HZ.out.1 HZ.out.2.1 HZ.out.2.2.1 HZ.out.2.2.2 rfl (by decide) (.slice A ll.length c) ll.length (flat3 ll) rfl (HP5.out.alloc (.cells #[.string NM, .bool true, .bool true] 112)).own ⟨w5.heap.size, 0, none⟩ 1 1 [.string NM, .bool true, .bool true] rfl rfl ?c1 ?c2 ?c3 ?c4 ?c5 ?_); go_must ((case c1 => exact three_new _ _ _ _ _)); go_must ((case c2 => intro u hu; simp at hu; rcases hu with rfl | rfl | rfl <;> rfl)); go_must ((case c3 => have := hdl.out; simp only [maxLen]; omega)); go_must ((case c4 => have := hdl.out; omega)); go_must ((case c5 => have := HP5.out.size; simp; omega)); go_must (intro v1 w1 hown hg hnil hat); clear hnil hat; obtain ⟨A1, c1, rfl⟩ := own_slice hown; go_must (have HM := Aside0.mk (HP5.out.more (O := .cells #[.string NM, .bool true, .bool true] 112) (x := ⟨NM, true, true⟩) hown hg)); go_must (have hp1 := blk_grown (blk_alloc HP5.out.pat (.cells #[.string NM, .bool true, .bool true] 112)) hg (HP5.out.rowKind HP5.out.pat (by decide))); go_must (have hd2 : w1.cell? ⟨pb, 3, none⟩ = some (.slice A ll.length c) := (blk_cell hp1 3).trans rfl); have hf2 := blk_frozen hp1 3; have hb2 := blk_lt hp1; clear hown hg hp1)
                    go_roundw
                    case rel =>
                      have e : List.map Sg.seg (dn ++ [Sg.rest n]) = ll ++ [⟨NM, true, true⟩] := by rw [List.map_append, HLL.out, ← HNM.out]; rfl
                      refine ⟨dn ++ [Sg.rest n], [], by rw [HRR2.out], ⟨by rw [hdt.out]; simp⟩, ⟨A1, c1, ?_⟩⟩
                      rw [e]
                      exact HM.out.mapTo ((HM.out.map.mono (by simp)).ext (fun j => by rw [seen_snoc, ← HNM.out]; simp [Sg.name, eq_comm]))
                    case measure =>
                      have h1 := HRs.out
                      have h2 := HRl.out
                      simp only [strLen]
                      omega
                | fin =>
                  simp only [Sg.txt] at hR1 hRs hG hR2 hRl hGs hI
                  have htd : td = [] := by
                    have h1 : dn.length < (dn ++ Sg.fin :: td).length := by simp
                    have h2 := hLO.out.last dn.length h1 (by simp [Sg.last])
                    have h3 : (dn ++ Sg.fin :: td).length = dn.length + (td.length + 1) := by simp
                    exact List.length_eq_zero_iff.1 (by omega)
                  subst htd
                  have hB : Aside0 (∀ w, Calls Tryz.prog 70 #[.string (bs ([123, 36, 125])), .int .u8 123] w fun e w' => e = .returned (.int .i64 0) ∧ w' = w) := ⟨fun w => by
                    have hI := Tryz.strings_IndexByte (bs ([123, 36, 125])) 123 w
                    rw [bs_data] at hI
                    exact hI⟩
                  obtain ⟨gk, hgk⟩ : ∃ gk : Nat, gk = ([36] : List UInt8).length + 1 := ⟨_, rfl⟩
                  have hGk : (bs ([123, 36, 125])).size = gk + 1 := by simp [bs_size, hgk]
                  have hxk : ∀ h : gk < (bs ([123, 36, 125])).size, (((bs ([123, 36, 125]))[gk]'h).toNat : Int) = 125 := fun h => by
                    have h1 := bt_at (bs ([123, 36, 125])) (gk : Int) h
                    have h2 := bt_getElem ([123, 36, 125]) gk 125 (by rw [hgk]; simp)
                    exact h1.trans h2
                  have hN : (bs ([123, 36, 125])).extract 1 gk = bs ([36]) := by
                    rw [bs_extract, hgk]
                    rfl
                  have hgk1 : 1 ≤ gk := by omega
                  have hgkb : gk ≤ 21 := by
                    have := Sg.len hg
                    rw [bs_size] at hGk
                    simp only [Sg.txt] at this
                    omega
                  have HGk := Aside0.mk hGk
                  clear hGk
                  have hne : 1 ≤ (bs (([123, 36, 125]) ++ sgT [])).size := by rw [bs_size]; simp
                  have hn36 : ((bs [36]).toList == [36]) = true := by rw [bs_toList]; rfl
                  generalize hNN : bs [36] = NB at *
                  clear hNN hgk
                  have hdl : Aside0 ((dn.map Sg.seg).length ≤ 6 ∧ dn.length ≤ 6) := ⟨by have := hLO.out.len; simp at this ⊢; omega⟩
                  obtain ⟨iv, hiv, hIC⟩ := hI.out
                  have HIC := Aside0.mk hIC
                  have HIV := Aside0.mk hiv
                  have hce : wo.cell? ⟨pb, 3, none⟩ = some (.slice A (dn.map Sg.seg).length c) := (blk_cell hHP.out.pat 3).trans rfl
                  have hfe := blk_frozen hHP.out.pat 3
                  have hbe := blk_lt hHP.out.pat
                  clear hI hIC hiv hl hg
                  generalize hRR : bs (sgT (Sg.fin :: [])) = R at *
                  generalize hRR1 : bs (([123, 36, 125]) ++ sgT []) = R1 at *
                  generalize hRR2 : bs (sgT []) = R2 at *
                  generalize hGG : bs ([123, 36, 125]) = G at *
                  generalize hgn : (([123, 36, 125]) : List UInt8).length = gn at *
                  have HRR2 := Aside0.mk hRR2
                  clear hRR hRR1 hRR2
                  have HGG := Aside0.mk hGG
                  clear hGG
                  have HGN := Aside0.mk hgn
                  clear hgn
                  subst hGs
                  have hGle : G.size ≤ R1.size := by omega
                  have h1R : 1 ≤ R.size := by omega
                  have hRb1 : R1.size ≤ 131 := by omega
                  have hr0 : ((R2.size : Int) != 0) = false := by rw [← HRR2.out]; rfl
                  have hn0 : ((R1.size : Int) == 0) = false := by rw [beq_eq_false_iff_ne]; omega
                  have HRs := Aside0.mk hRs
                  have HRl := Aside0.mk hRl
                  clear hRs hRl
                  go_upto_if 123 with (go_at_call 70; refine (HIC.out _).mono ?_; rintro e w2 ⟨rfl, hww⟩; obtain rfl := hww.symm)
                  go_cut [13] from 124 to 125 (fun v13 wx => v13 = .int .i64 G.size ∧ wx = wo)
                  case first =>
                    rcases HIV.out with rfl | ⟨rfl, hz⟩
                    · go_wp2_with fail
                      go_meet
                      case rel => exact ⟨rfl, rfl⟩
                    · have hzz := Aside0.mk (show R1.size = G.size by have := HRl.out; omega)
                      clear hz
                      go_wp2_with fail
                      go_meet
                      case rel => exact ⟨by rw [hzz.out], rfl⟩
                  case rest =>
                    obtain ⟨rfl, hww⟩ := hcut
                    obtain rfl := hww.symm
                    clear hn0
                    go_upto_region 39 with fail
                    refine wp_region_noPanic ?_
                    go_quiet (fail)
                    refine NoPanic.normal ?_
                    have HPn := Aside0.mk (hHP.out.drewN nq)
                    clear hce hfe hbe
                    generalize wo.drewN nq = wd at *
                    have hce : wd.cell? ⟨pb, 3, none⟩ = some (.slice A (dn.map Sg.seg).length c) := (blk_cell HPn.out.pat 3).trans rfl
                    have hfe := blk_frozen HPn.out.pat 3
                    have hbe := blk_lt HPn.out.pat
                    have hGk := HGk.out
                    have hwr : IntKind.i64.wrap (gk : Int) = gk := IntWalk.i64_in _ (by constructor <;> omega)
                    have hpk : (gk : Int) < (gk : Int) + 1 := by omega
                    have hp1 : (1 : Int) ≤ (gk : Int) := by omega
                    go_upto_region 52 with (first
                      | (go_at_call 70; refine (hB.out _).mono ?_; rintro e w2 ⟨rfl, hww⟩; obtain rfl := hww.symm))
                    obtain ⟨i0, hi, hzz⟩ := Option.map_eq_some_iff.1 info112
                    simp only [Prod.mk.injEq] at hzz
                    obtain ⟨hz0, hz1, hz2⟩ := hzz
                    have HZ := Aside0.mk (And.intro hi (And.intro hz0 (And.intro hz1 hz2)))
                    clear hi hz0 hz1 hz2
                    generalize hll : dn.map Sg.seg = ll at *
                    have HLL := Aside0.mk hll
                    clear hll
                    go_upto_region 64 with (at_builtin; go_must (refine wpList_append_own_at _ rfl _ _ 91 rfl w.heap.size 112 i0 (.agg #[.string ⟨#[]⟩, .bool false, .bool false]) 3 24 Tryz.underlying91 HZ.out.1 HZ.out.2.1 HZ.out.2.2.1 HZ.out.2.2.2 rfl (by decide) (.slice A ll.length c) ll.length (flat3 ll) rfl (HPn.out.alloc (.cells #[.string ⟨#[47]⟩, .bool false, .bool false] 112)).own ⟨wd.heap.size, 0, none⟩ 1 1 [.string ⟨#[47]⟩, .bool false, .bool false] rfl rfl ?c1 ?c2 ?c3 ?c4 ?c5 ?_); go_must ((case c1 => exact three_new _ _ _ _ _)); go_must ((case c2 => intro u hu; simp at hu; rcases hu with rfl | rfl <;> rfl)); go_must ((case c3 => have := hdl.out; simp only [maxLen]; omega)); go_must ((case c4 => have := hdl.out; omega)); go_must ((case c5 => have := HPn.out.size; simp; omega)); go_must (intro v1 w1 hown hg hnil hat); clear hnil hat; obtain ⟨A1, c1, rfl⟩ := own_slice hown; go_must (have HM := Aside0.mk (HPn.out.more (O := .cells #[.string ⟨#[47]⟩, .bool false, .bool false] 112) (x := ⟨bs [47], false, false⟩) hown hg)); go_must (have hp1 := blk_grown (blk_alloc HPn.out.pat (.cells #[.string ⟨#[47]⟩, .bool false, .bool false] 112)) hg (HPn.out.rowKind HPn.out.pat (by decide))); go_must (have hd2 : w1.cell? ⟨pb, 3, none⟩ = some (.slice A ll.length c) := (blk_cell hp1 3).trans rfl); have hf2 := blk_frozen hp1 3; have hb2 := blk_lt hp1; clear hown hg hp1)
                    have he : Aside0 (l.map Sg.seg = ll ++ [(⟨bs [47], false, false⟩ : S52)]) := by
                      refine ⟨?_⟩
                      rw [hdt.out, List.map_append, HLL.out]
                      rfl
                    clear hd2 hf2 hb2
                    generalize w1.setCell ⟨pb, 3, none⟩ (.slice A1 (ll.length + 1) c1) = w9 at *
                    have hce : w9.cell? ⟨w.heap.size, 0, none⟩ = some .nilIface := (blk_cell HM.out.err 0).trans rfl
                    have hfe := blk_frozen HM.out.err 0
                    have hbe := blk_lt HM.out.err
                    have hput := Aside0.mk (blk_put HM.out.err 0 .nilIface rfl)
                    go_wp2_with fail
                    refine leave52 _ _ _ _ _ rfl rfl hput.out ⟨pb, rfl, ?_, ?_⟩
                    · have := HM.out.errSet.patAt
                      rw [he.out]
                      exact this
                    · exact HM.out.errSet.below
end Go.Proofs.YtcedefabmelogaaGreatDoor.H
