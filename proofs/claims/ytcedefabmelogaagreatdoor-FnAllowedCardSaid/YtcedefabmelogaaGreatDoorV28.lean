/- The walk of spec.Write at a pattern in order. -/
import Derived.Test.YtcedefabmelogaaGreatDoorV26
import Derived.Deep.CutBlock
namespace Go.Proofs.YtcedefabmelogaaGreatDoor.H
open Go.RowKit Go.Proofs.YtcedefabmelogaaGreatDoorW.PrintWords Go.Proofs.YtcedefabmelogaaGreatDoorW.PrintLast Go.Proofs.YtcedefabmelogaaGreatDoorW.PrintMore
open Go.Proofs.YtcedefabmelogaaGreatDoor.PFnAllowed
set_option linter.unusedVariables false
set_option linter.unusedSimpArgs false
set_option maxRecDepth 100000
/-- The text of a segment, as Write adds it. -/
def wrT (s : S52) : ByteArray := bs (sgOf s).txt
theorem append_nilB (s : ByteArray) : s ++ (⟨#[]⟩ : ByteArray) = s := by
  have e : s ++ (⟨#[]⟩ : ByteArray) = bs s.toList ++ bs [] := by rw [bs_self]; rfl
  rw [e, bs_append, List.append_nil, bs_self]
/-- The text up to a segment. -/
def upto (pre : ByteArray) (l : List S52) (x : Nat) : ByteArray := pre ++ bs (sgT ((l.take x).map sgOf))
theorem upto_zero (pre : ByteArray) (l : List S52) : upto pre l 0 = pre := by
  unfold upto
  have e : pre = bs pre.toList := (bs_self pre).symm
  rw [e, List.take_zero, List.map_nil, sgT_nil, bs_append, List.append_nil]
theorem sgT_snoc (l : List Sg) (g : Sg) : sgT (l ++ [g]) = sgT l ++ 47 :: g.txt := by
  unfold sgT
  rw [List.map_append, joinP_append]
  simp [joinP]
theorem upto_succ (pre : ByteArray) (l : List S52) (x : Nat) (h : x < l.length) : upto pre l (x + 1) = (upto pre l x ++ ⟨#[47]⟩) ++ wrT l[x] := by
  unfold upto wrT
  rw [List.take_succ_eq_append_getElem h, List.map_append, List.map_cons, List.map_nil, sgT_snoc]
  have e1 : (⟨#[47]⟩ : ByteArray) = bs [47] := rfl
  rw [e1, ByteArray.append_assoc, ByteArray.append_assoc, bs_append, bs_append]
  first | rfl | (congr 2; simp; done) | (congr 2; done)
/-- What stands ahead of the pieces. -/
def preT (m h : ByteArray) : ByteArray := bs (if m.toList = [] then h.toList else m.toList ++ 32 :: h.toList)
theorem preT_some {m h : ByteArray} (e : m ≠ ⟨#[]⟩) : preT m h = (m ++ ⟨#[32]⟩) ++ h := by
  have hm : m.toList ≠ [] := fun h => e (by rw [bs_eq h]; rfl)
  unfold preT
  rw [if_neg hm]
  have e1 : (m ++ (⟨#[32]⟩ : ByteArray)) ++ h = (bs m.toList ++ bs [32]) ++ bs h.toList := by rw [bs_self, bs_self]; rfl
  rw [e1, bs_append, bs_append]
  congr 1
  simp
theorem preT_none (h : ByteArray) : preT ⟨#[]⟩ h = h := by
  unfold preT
  have e : (⟨#[]⟩ : ByteArray).toList = [] := by rw [ByteArray.toList_eq]
  rw [if_pos e, bs_self]
theorem preT_full (m h : ByteArray) (l : List Sg) : preT m h ++ bs (sgT l) = bs (fullT m.toList h.toList l) := by
  unfold preT fullT
  rw [bs_append]
  split <;> simp
theorem wr_rest {f0 : ByteArray} (h : f0.toList ≠ []) : wrT ⟨f0, true, true⟩ = ((⟨#[123]⟩ : ByteArray) ++ f0) ++ ⟨#[46, 46, 46, 125]⟩ := by
  unfold wrT sgOf
  rw [if_pos rfl, if_neg h]
  have e1 : ((⟨#[123]⟩ : ByteArray) ++ f0) ++ ⟨#[46, 46, 46, 125]⟩ = (bs [123] ++ bs f0.toList) ++ bs [46, 46, 46, 125] := by rw [bs_self]; rfl
  rw [e1, bs_append, bs_append]
  simp [Sg.txt]
theorem wr_any {f0 : ByteArray} {f1 : Bool} (h : f0.toList = []) : wrT ⟨f0, f1, true⟩ = bs [] := by
  unfold wrT sgOf
  rw [if_pos rfl, if_pos h]
  rfl
theorem wr_wild (f0 : ByteArray) : wrT ⟨f0, true, false⟩ = ((⟨#[123]⟩ : ByteArray) ++ f0) ++ ⟨#[125]⟩ := by
  unfold wrT sgOf
  rw [if_neg (by simp), if_pos rfl]
  have e1 : ((⟨#[123]⟩ : ByteArray) ++ f0) ++ ⟨#[125]⟩ = (bs [123] ++ bs f0.toList) ++ bs [125] := by rw [bs_self]; rfl
  rw [e1, bs_append, bs_append]
  simp [Sg.txt]
theorem wr_fin {f0 : ByteArray} (h : f0.toList = [47]) : wrT ⟨f0, false, false⟩ = ⟨#[123, 36, 125]⟩ := by
  unfold wrT sgOf
  rw [if_neg (by simp), if_neg (by simp), if_pos h]
  rfl
theorem wr_lit {f0 : ByteArray} (h : f0.toList ≠ [47]) : wrT ⟨f0, false, false⟩ = f0 := by
  unfold wrT sgOf
  rw [if_neg (by simp), if_neg (by simp), if_neg h]
  exact bs_self f0
set_option maxHeartbeats 1000000 in
theorem Write_good (m h : ByteArray) (A : Option Addr) (c : Nat) (l : List S52) (w : World) (hr : Kd.C k52 w A l.length l) (hc : l.length ≤ c) (G : GoodP m h l) :
    Calls Tryz.prog 21 #[.agg #[.string m, .string h, .slice A l.length c]] w fun e w' => e = .returned (.string (bs (fullT m.toList h.toList (l.map sgOf)))) ∧ Below w.heap.size w w' := by
  have HR := Aside0.mk hr
  have HG := Aside0.mk G
  have hu35 := Tryz.underlying35
  have hu52 := Tryz.underlying52
  have HB := Aside0.mk (below_alloc (Below.refl w.heap.size w) (.cells #[.string m, .string h, .slice A l.length c] 35))
  have HBX := Aside0.mk (heap_alloc_new w (.cells #[.string m, .string h, .slice A l.length c] 35))
  have hms : m.size < 12 := G.meth.2
  have hhs : h.size < 20 := G.host.2
  have hl6 : l.length ≤ 6 := G.six
  have hem := str_empty m
  obtain ⟨bm, hbm⟩ : ∃ b, b = decide (m = ⟨#[]⟩) := ⟨_, rfl⟩
  rw [← hbm] at hem
  have HBM := Aside0.mk hbm
  clear hr G hbm
  go_enter Tryz.func21, Tryz.ntmps21
  go_upto_if 10 with fail
  go_cut [3] from 11 to 15 (fun v3 wx => v3 = .string (preT m h) ∧ wx = w.alloc (.cells #[.string m, .string h, .slice A l.length c] 35))
  case first =>
    cases bm with
    | true =>
      have HM := Aside0.mk (of_decide_eq_true HBM.out.symm)
      go_wp2_with fail
      go_meet
      case rel => exact ⟨by rw [HM.out, preT_none], rfl⟩
    | false =>
      have HM := Aside0.mk (of_decide_eq_false HBM.out.symm)
      go_wp2_with fail
      go_meet
      case rel => exact ⟨by rw [preT_some HM.out], rfl⟩
  case rest =>
    obtain ⟨rfl, rfl⟩ := hcut
    clear hem
    have hps : (preT m h).size ≤ 40 := by
      unfold preT
      rw [bs_size]
      have h1 := size_toList m
      have h2 := size_toList h
      split
      · omega
      · simp only [List.length_append, List.length_cons]; omega
    go_wp2_with fail
    go_loopw [3, 19] (fun v3 v19 wr_ => ∃ x : Nat, v3 = .string (upto (preT m h) l x) ∧ v19 = .int .i64 x ∧ x ≤ l.length ∧ (upto (preT m h) l x).size ≤ 40 + x * 22 ∧ Aside0 (Below w.heap.size w wr_) ∧ Aside0 (wr_.heap[w.heap.size]? = some (.cells #[.string m, .string h, .slice A l.length c] 35 (0, 0)))) (fun _ v19 _ => l.length - (intOf v19).toNat)
    case atStart => exact ⟨0, by rw [upto_zero], rfl, Nat.zero_le _, by rw [upto_zero]; omega, ⟨HB.out⟩, ⟨HBX.out⟩⟩
    case round =>
      obtain ⟨x, rfl, rfl, hxl, hts, HBR, HBXR⟩ := hrel
      obtain ⟨wo, rfl⟩ : ∃ wo : World, wo = wr := ⟨_, rfl⟩
      by_cases hlt : x < l.length
      · have HS := Aside0.mk (upto_succ (preT m h) l x hlt)
        have HF := Aside0.mk (HG.out.seg x hlt)
        have hbox : wo.heap[w.heap.size]? = some (.cells #[.string m, .string h, .slice A l.length c] 35 (0, 0)) := HBXR.out
        clear hbox
        obtain ⟨ad, eA, k0, k1, k2⟩ := at_T52 (Kd.C_below HR.out HBR.out) (x : Int) (by omega) (by omega)
        subst eA
        have hsg : rd_T52 l (x : Int) = l[x] := by simp [rd_T52, hlt]
        rw [hsg] at k0 k1 k2
        simp only [Int.toNat_natCast] at k0 k1 k2
        have hb0 := World.block_lt_of_cell? wo _ k0
        have hb1 : (ad.add (x * 3)).block < wo.heap.size := hb0
        have hwl : (wrT l[x]).size ≤ 21 := by
          unfold wrT
          rw [bs_size]
          exact Sg.len (sgOf_ok HF.out)
        have hs16 := HF.out.size
        have hmw : (l[x]).f2 = true → (l[x]).f1 = true := fun e => (HF.out.multi e).1
        obtain ⟨f0, f1, f2, hseg⟩ : ∃ f0 f1 f2, l[x] = (⟨f0, f1, f2⟩ : S52) := ⟨_, _, _, rfl⟩
        rw [hseg] at k0 k1 k2 HS hwl hs16 hmw
        clear hseg hsg
        simp only at k0 k1 k2 hs16 hmw
        have HMW := Aside0.mk hmw
        have HB2 := Aside0.mk (HBR.out.alloc HBR.out.size (.cells #[.string f0, .bool f1, .bool f2] 52))
        have HBX2 := Aside0.mk (blk_alloc HBXR.out (.cells #[.string f0, .bool f1, .bool f2] 52))
        have HLT := Aside0.mk hlt
        have HSZ : Aside0 ((upto (preT m h) l (x + 1)).size ≤ 40 + (x + 1) * 22) := ⟨by
          have h1 := congrArg ByteArray.size HS.out
          rw [ByteArray.size_append, ByteArray.size_append] at h1
          have h2 : (⟨#[47]⟩ : ByteArray).size = 1 := rfl
          omega⟩
        clear hmw hwl
        have hem0 := str_empty f0
        generalize htt : upto (preT m h) l x = t at *
        clear htt
        cases f2 with
        | true =>
          have hf1 := HMW.out rfl
          subst hf1
          by_cases e0 : f0.toList = []
          · have hemb : f0.toList.isEmpty = true := by rw [e0]; rfl
            have E0 := Aside0.mk e0
            clear e0 hem0
            have HWR := Aside0.mk (wr_any (f1 := true) E0.out)
            go_wp2_with fail
            go_roundw
            case rel => exact ⟨x + 1, by rw [HS.out, HWR.out, bs_nil]; rw [append_nilB], by go_num, by have := HLT.out; omega, HSZ.out, ⟨HB2.out⟩, ⟨HBX2.out⟩⟩
            case measure => have := HLT.out; simp [intOf]; omega
          · have hemb : f0.toList.isEmpty = false := by rw [List.isEmpty_eq_false_iff]; exact e0
            have E0 := Aside0.mk e0
            clear e0 hem0
            have HWR := Aside0.mk (wr_rest E0.out)
            go_wp2_with fail
            go_roundw
            case rel => exact ⟨x + 1, by rw [HS.out, HWR.out], by go_num, by have := HLT.out; omega, HSZ.out, ⟨HB2.out⟩, ⟨HBX2.out⟩⟩
            case measure => have := HLT.out; simp [intOf]; omega
        | false =>
          clear hem0
          cases f1 with
          | true =>
            have HWR := Aside0.mk (wr_wild f0)
            go_wp2_with fail
            go_roundw
            case rel => exact ⟨x + 1, by rw [HS.out, HWR.out], by go_num, by have := HLT.out; omega, HSZ.out, ⟨HB2.out⟩, ⟨HBX2.out⟩⟩
            case measure => have := HLT.out; simp [intOf]; omega
          | false =>
            by_cases e47 : f0.toList = [47]
            · have h47b : (f0.toList == [47]) = true := beq_iff_eq.2 e47
              have E47 := Aside0.mk e47
              clear e47
              have HWR := Aside0.mk (wr_fin E47.out)
              go_wp2_with fail
              go_roundw
              case rel => exact ⟨x + 1, by rw [HS.out, HWR.out], by go_num, by have := HLT.out; omega, HSZ.out, ⟨HB2.out⟩, ⟨HBX2.out⟩⟩
              case measure => have := HLT.out; simp [intOf]; omega
            · have h47b : (f0.toList == [47]) = false := beq_eq_false_iff_ne.2 e47
              have E47 := Aside0.mk e47
              clear e47
              have HWR := Aside0.mk (wr_lit E47.out)
              go_wp2_with fail
              go_roundw
              case rel => exact ⟨x + 1, by rw [HS.out, HWR.out], by go_num, by have := HLT.out; omega, HSZ.out, ⟨HB2.out⟩, ⟨HBX2.out⟩⟩
              case measure => have := HLT.out; simp [intOf]; omega
      · obtain rfl : x = l.length := by omega
        have HE : Aside0 (upto (preT m h) l l.length = bs (fullT m.toList h.toList (l.map sgOf))) := ⟨by unfold upto; rw [List.take_length, preT_full]⟩
        generalize upto (preT m h) l l.length = t at *
        clear hlt hxl
        go_wp2_with fail
        go_ret
        exact ⟨by rw [← HE.out]; rfl, HBR.out⟩
end Go.Proofs.YtcedefabmelogaaGreatDoor.H
