/- A written pattern's text: 'must' reads it as the pattern that was written. -/
import Derived.Test.YtcedefabmelogaaGreatDoorV21
import Derived.Test.YtcedefabmelogaaGreatDoorV09
namespace Go.Proofs.YtcedefabmelogaaGreatDoor.H
open Go.RowKit Go.Lib Go.Proofs.YtcedefabmelogaaGreatDoorW.PrintWords Go.Proofs.YtcedefabmelogaaGreatDoorW.PrintLast Go.Proofs.YtcedefabmelogaaGreatDoorW.PrintMore
open Go.Proofs.YtcedefabmelogaaGreatDoor.PFnAllowed
set_option linter.unusedVariables false
set_option linter.unusedSimpArgs false
set_option maxRecDepth 100000
/-- A pattern's text. -/
def fullT (m h : List UInt8) (l : List Sg) : List UInt8 := if m = [] then h ++ sgT l else m ++ 32 :: (h ++ sgT l)
/-- A byte of a host. -/
def HostB (b : UInt8) : Prop := (97 ≤ b.toNat ∧ b.toNat ≤ 122) ∨ b.toNat = 46 ∨ b.toNat = 45 ∨ (48 ≤ b.toNat ∧ b.toNat ≤ 57)
structure TextOk (m h : List UInt8) (l : List Sg) : Prop where
  meth : ∀ b ∈ m, Letter b
  ml : m.length < 12
  host : ∀ b ∈ h, HostB b
  hl : h.length < 20
  segs : SgsOk l
theorem letter_ne {b : UInt8} (h : Letter b) : b.toNat < 128 ∧ b ≠ 32 ∧ b ≠ 9 := by
  unfold Letter at h
  refine ⟨by omega, ?_, ?_⟩ <;> (rintro rfl; revert h; decide)
theorem host_ne {b : UInt8} (h : HostB b) : b.toNat < 128 ∧ b ≠ 32 ∧ b ≠ 9 ∧ b ≠ 47 ∧ b ≠ 123 := by
  unfold HostB at h
  refine ⟨by omega, ?_, ?_, ?_, ?_⟩ <;> (rintro rfl; revert h; decide)
theorem seg_ne {b : UInt8} (h : 33 ≤ b.toNat ∧ b.toNat ≤ 126) : b.toNat < 128 ∧ b ≠ 32 ∧ b ≠ 9 := by
  refine ⟨by omega, ?_, ?_⟩ <;> (rintro rfl; revert h; decide)
theorem tail_ne {m h : List UInt8} {l : List Sg} (T : TextOk m h l) : ∀ b ∈ h ++ sgT l, b.toNat < 128 ∧ b ≠ 32 ∧ b ≠ 9 := by
  intro b hb
  rw [List.mem_append] at hb
  rcases hb with hb | hb
  · have := host_ne (T.host b hb); exact ⟨this.1, this.2.1, this.2.2.1⟩
  · exact seg_ne (sgT_bytes T.segs.ok b hb)
theorem headOk {m h : List UInt8} {l : List Sg} (T : TextOk m h l) : ∃ iv, HeadOk (bs (fullT m h l)) (bs m) (bs (h ++ sgT l)) (bs h) (bs (sgT l)) iv := by
  have hlen := sgT_len l T.segs.ok
  have hl6 := T.segs.len
  have hml := T.ml
  have hhl := T.hl
  have htl : (h ++ sgT l).length ≤ 160 := by rw [List.length_append]; omega
  have hne : 0 < (h ++ sgT l).length := by
    obtain ⟨r, hr⟩ := sgT_head T.segs.ne
    rw [List.length_append, hr]
    simp
    omega
  have hslash : ∀ w, Calls Tryz.prog 70 #[.string (bs (h ++ sgT l)), .int .u8 47] w fun e w' => e = .returned (.int .i64 (bs h).size) ∧ w' = w := by
    intro w
    have hI := Tryz.strings_IndexByte (bs (h ++ sgT l)) 47 w
    rw [bs_data] at hI
    obtain ⟨r, hr⟩ := sgT_head T.segs.ne
    have e : Lib.indexByte (h ++ sgT l) (47 : Int).toNat.toUInt8 = h.length := by
      rw [hr]
      exact indexByte_at (fun hb => (host_ne (T.host _ hb)).2.2.2.1 rfl)
    rw [e] at hI
    rw [bs_size]
    exact hI
  have hbrace : ∀ w, Calls Tryz.prog 70 #[.string (bs h), .int .u8 123] w fun e w' => e = .returned (.int .i64 (-1)) ∧ w' = w := by
    intro w
    have hI := Tryz.strings_IndexByte (bs h) 123 w
    rw [bs_data] at hI
    have e : Lib.indexByte h (123 : Int).toNat.toUInt8 = -1 := indexByte_not (fun hb => (host_ne (T.host _ hb)).2.2.2.2 rfl)
    rw [e] at hI
    exact hI
  have hhost : (bs (h ++ sgT l)).extract 0 (bs h).size = bs h := by rw [bs_upto, bs_size]; simp
  have hpath : (bs (h ++ sgT l)).extract (bs h).size (bs (h ++ sgT l)).size = bs (sgT l) := by rw [bs_from, bs_size]; simp
  have hhle : (bs h).size ≤ (bs (h ++ sgT l)).size := by rw [bs_size, bs_size, List.length_append]; omega
  have hrle : (bs (h ++ sgT l)).size ≤ 9223372036854775806 := by rw [bs_size]; omega
  have htn := tail_ne T
  by_cases hm : m = []
  · subst hm
    have hf : fullT [] h l = h ++ sgT l := by simp [fullT]
    rw [hf]
    refine ⟨-1, { any := fun w => ?_, none := fun _ => ⟨rfl, rfl⟩, some := fun e => absurd rfl e, slash := hslash, brace := hbrace, host := hhost, path := hpath, hle := hhle, clean := fun w => clean_sgs T.segs w, sle := hrle, sne := by rw [bs_size]; exact hne, rle := hrle }⟩
    exact indexAny_none _ w (fun b hb => (htn b hb).1) (fun hb => (htn _ hb).2.1 rfl) (fun hb => (htn _ hb).2.2 rfl)
  · have hf : fullT m h l = m ++ 32 :: (h ++ sgT l) := by simp [fullT, hm]
    have hmb : bs m ≠ ⟨#[]⟩ := fun e => hm (bs_inj (e.trans bs_nil.symm))
    have hfl : (m ++ 32 :: (h ++ sgT l)).length = m.length + 1 + (h ++ sgT l).length := by simp; omega
    rw [hf]
    refine ⟨m.length, { any := fun w => ?_, none := fun e => absurd e hmb, some := fun _ => ⟨?_, ?_, ?_, ?_, fun w => ?_, fun w => ?_⟩, slash := hslash, brace := hbrace, host := hhost, path := hpath, hle := hhle, clean := fun w => clean_sgs T.segs w, sle := ?_, sne := ?_, rle := hrle }⟩
    · refine indexAny_found _ m.length (by rw [hfl]; omega) (by simp) w ?_ ?_ ?_
      · intro b hb
        rw [List.mem_append, List.mem_cons] at hb
        rcases hb with hb | rfl | hb
        · exact (letter_ne (T.meth b hb)).1
        · decide
        · exact (htn b hb).1
      · intro i hi hlt
        rw [List.getElem_append_left hlt]
        exact (letter_ne (T.meth _ (List.getElem_mem hlt))).2.1
      · intro i hi hlt
        rw [List.getElem_append_left hlt]
        exact (letter_ne (T.meth _ (List.getElem_mem hlt))).2.2
    · rw [bs_size]
    · rw [bs_size, bs_upto]; simp
    · rw [bs_size, bs_from]
      congr 1
      rw [List.drop_append]
      simp
    · rw [bs_size, bs_size, hfl]; omega
    · obtain ⟨x, r, hxr⟩ : ∃ x r, h ++ sgT l = x :: r := by
        cases hc : h ++ sgT l with
        | nil => rw [hc] at hne; simp at hne
        | cons x r => exact ⟨x, r, rfl⟩
      have := htn x (by rw [hxr]; simp)
      rw [hxr]
      exact trimLeft_none x r w this.1 this.2.1 this.2.2
    · exact validMethod_letters m w hm T.meth (by omega)
    · rw [bs_size, hfl]; omega
    · rw [bs_size, hfl]; omega
set_option maxHeartbeats 1000000 in
theorem must_text {m h : List UInt8} {l : List Sg} (T : TextOk m h l) {w00 : World} (ht : Tab w00) : MustOk w00 (bs (fullT m h l)) ⟨bs m, bs h, l.map Sg.seg⟩ := by
  intro w hw
  obtain ⟨iv, H⟩ := headOk T
  have HC := Aside0.mk (parse_any H T.segs rfl w (ht.below hw))
  generalize bs (fullT m h l) = t at *
  clear T H hw ht
  go_enter Tryz.func36, Tryz.ntmps36
  go_wp2_with (go_at_call 52; refine HC.out.mono ?_; rintro e w1 ⟨pb, rfl, hp, hb⟩; have HP := Aside0.mk hp; have HB := Aside0.mk hb; clear hp hb)
  go_ret
  exact ⟨pb, rfl, HP.out, HB.out⟩
end Go.Proofs.YtcedefabmelogaaGreatDoor.H
