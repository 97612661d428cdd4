/- addSegments and addPattern lay one pattern more; strings.IndexByte and its like. -/
import Derived.Test.YtcedefabmelogaaGreatDoorV04
import Derived.Test.YtcedefabmelogaaGreatDoorV03
import Derived.Handy
import Derived.Lib.IndexLaws
import Derived.Lib.Strings
import Derived.Lib.SmallJoins
/- The walk of (*routingNode).addPattern over the tree. -/
namespace Go.Proofs.YtcedefabmelogaaGreatDoor.H
open Go.RowKit Go.WideMaps Go.WideElems Go.Proofs.YtcedefabmelogaaGreatDoorW.PrintWords Go.Proofs.YtcedefabmelogaaGreatDoorW.PrintLast Go.Proofs.YtcedefabmelogaaGreatDoorW.PrintMore
open Go.Proofs.YtcedefabmelogaaGreatDoor.PFnAllowed
open Classical
set_option linter.unusedVariables false
set_option linter.unusedSimpArgs false
/-- A pattern that lies at block pb. -/
def PatAt (w : World) (pb : Nat) (m h : ByteArray) (l : List S52) : Prop :=
  ∃ st lc A c, w.heap[pb]? = some (.cells #[st, .string m, .string h, .slice A l.length c, lc] 93 (0, 0)) ∧ SegAt w A l ∧ l.length ≤ c
theorem PatAt.fr {w w' : World} {lo : Nat} {S : TS} {pb : Nat} {m h : ByteArray} {l : List S52} (H : PatAt w pb m h l) (T : Tree w lo S) (F : Fr w w' (footAll w S)) : PatAt w' pb m h l := by
  obtain ⟨st, lc, A, c, hb, hs, hl⟩ := H
  exact ⟨st, lc, A, c, keep_block T F hb (by decide) (by decide), hs.fr T F, hl⟩
theorem PatAt.below {w w' : World} {pb : Nat} {m h : ByteArray} {l : List S52} (H : PatAt w pb m h l) (F : Below w.heap.size w w') : PatAt w' pb m h l := by
  obtain ⟨st, lc, A, c, hb, hs, hl⟩ := H
  exact ⟨st, lc, A, c, blk_below hb F, hs.below F, hl⟩
def pathOf (m h : ByteArray) (l : List S52) : Path := some h :: some m :: keysOf l
set_option maxHeartbeats 2000000 in
set_option maxRecDepth 100000 in
theorem addPattern_any {w : World} {lo : Nat} {S : TS} (T : Tree w lo S) (pb : Nat) (ha : Addr) (m h : ByteArray) (l : List S52) (P : PatAt w pb m h l) (hlo : lo ≤ w.heap.size) (hm : m.size ≤ maxLen) (hh : h.size ≤ maxLen)
    (hz : ∀ s ∈ l, s.f0.size ≤ maxLen) (hmu : ∀ i (hi : i < l.length), (l[i]).f2 = true → i + 1 = l.length) (hp : S.pat (pathOf m h l) = none) (hmult : ∀ r, r ++ [none] ∈ S.dom → S.pat (r ++ [none]) ≠ none) (hd : S.dom.length + l.length + 2 < maxLen) :
    Calls Tryz.prog 35 #[.pointer (some ⟨S.loc [], 0, none⟩), .pointer (some ⟨pb, 0, none⟩), .pointer (some ha)] w fun e w' => ∃ S', e = .returned (.tuple #[]) ∧ Laid w w' lo S S' [] (pathOf m h l) ⟨pb, 0, none⟩ ha := by
  have HC1 := Aside0.mk (tree_addChild T [] T.root h hh hlo (by omega))
  have HT := Aside0.mk T
  have HP := Aside0.mk P
  have HLO := Aside0.mk hlo
  have HMM := Aside0.mk hmult
  have HPN := Aside0.mk hp
  have HZ := Aside0.mk hz
  have HMU := Aside0.mk hmu
  have HM := Aside0.mk hm
  have HD := Aside0.mk hd
  obtain ⟨st, lc, A, c, hb, hs, hl⟩ := P
  have hc1 := (blk_cell hb 1).trans (show _ = some (.string m) from rfl)
  have hc2 := (blk_cell hb 2).trans (show _ = some (.string h) from rfl)
  have hc3 := (blk_cell hb 3).trans (show _ = some (.slice A l.length c) from rfl)
  have HB := Aside0.mk hb
  have HS := Aside0.mk hs
  have HL := Aside0.mk hl
  clear T hlo hmult hp hz hmu hm hh hd hb hs hl
  go_enter Tryz.func35, Tryz.ntmps35
  go_wp2_with (first
    | (go_at_call 50; refine HC1.out.mono ?_; rintro e w1 ⟨S1, rfl, hg, hd1, hp1, hl1⟩; have HG1 := Aside0.mk hg; have HD1 := Aside0.mk hd1; have HP1 := Aside0.mk hp1; have HL1 := Aside0.mk hl1; clear hg hd1 hp1 hl1 HC1; have hb1 := Aside0.mk (keep_block HT.out HG1.out.fr HB.out (by decide) (by decide)); have hc1 := (blk_cell hb1.out 1).trans (show _ = some (.string m) from rfl); have hc3 := (blk_cell hb1.out 3).trans (show _ = some (.slice A l.length c) from rfl); have HC2 := Aside0.mk (tree_addChild HG1.out.tree [some h] ((HD1.out _).2 (.inr rfl)) m HM.out (by have := HG1.out.fr.size; have := HLO.out; omega) (by have := HL1.out; have := HD.out; omega)))
    | (go_at_call 50; refine HC2.out.mono ?_; rintro e w2 ⟨S2, rfl, hg, hd2, hp2, hl2⟩; have HG2 := Aside0.mk hg; have HD2 := Aside0.mk hd2; have HP2 := Aside0.mk hp2; have HL2 := Aside0.mk hl2; clear hg hd2 hp2 hl2 HC2; have hb2 := Aside0.mk (keep_block HG1.out.tree HG2.out.fr hb1.out (by decide) (by decide)); have hc3 := (blk_cell hb2.out 3).trans (show _ = some (.slice A l.length c) from rfl))
    | (go_at_call 51; refine (segs_any (lo := lo) ⟨pb, 0, none⟩ ha l A c w2 S2 ([some h] ++ [some m]) HG2.out.tree ((HD2.out _).2 (.inr rfl)) ((HS.out.fr HT.out HG1.out.fr).fr HG1.out.tree HG2.out.fr) HL.out (by have := HG1.out.fr.size; have := HG2.out.fr.size; have := HLO.out; omega) HZ.out HMU.out ?s1 ?s2 ?s3).mono ?_; (case s1 => rw [HP2.out, HP1.out]; exact HPN.out); (case s2 => intro r hr; rw [HP2.out, HP1.out]; refine HMM.out r ?_; rcases (HD2.out _).1 hr with hr | hr; rcases (HD1.out _).1 hr with hr | hr; exact hr; (exact absurd (snoc_inj (q := r) (r := []) hr).2 (by simp)); (exact absurd (snoc_inj (q := r) hr).2 (by simp))); (case s3 => have := HL1.out; have := HL2.out; have := HD.out; omega); rintro e w3 ⟨S3, rfl, hl3⟩; have HL3 := Aside0.mk hl3; clear hl3))
  all_goals go_returns
  all_goals exact ⟨S3, rfl, laid_cons HG1.out HD1.out HP1.out HL1.out (laid_cons HG2.out HD2.out HP2.out HL2.out HL3.out)⟩
end Go.Proofs.YtcedefabmelogaaGreatDoor.H
/- The walks of unescape, PathUnescape, pathUnescape at a text without percent signs: it comes back as it is. -/
namespace Go.Proofs.YtcedefabmelogaaGreatDoor.H
open Go.RowKit Go.WideMaps Go.WideElems Go.Proofs.YtcedefabmelogaaGreatDoorW.PrintWords Go.Proofs.YtcedefabmelogaaGreatDoorW.PrintLast Go.Proofs.YtcedefabmelogaaGreatDoorW.PrintMore
set_option linter.unusedVariables false
set_option linter.unusedSimpArgs false
/-- No byte of the text is b. -/
def NoByte (s : ByteArray) (b : Int) : Prop := ∀ x : Int, 0 ≤ x → x < s.size → bt s x ≠ b
set_option maxHeartbeats 2000000 in
set_option maxRecDepth 100000 in
theorem unescape_plain (s : ByteArray) (w : World) (hn : NoByte s 37) (hs : s.size ≤ 9223372036854775807) :
    Calls Tryz.prog 91 #[.string s, .int .u8 2] w fun e w' => e = .returned (.tuple #[.string s, .nilIface]) ∧ w' = w := by
  have HN := Aside0.mk hn
  clear hn
  go_enter Tryz.func91, Tryz.ntmps91
  go_wp2
  go_loop [0, 6, 7, 8] (fun v0 n p i => ∃ x : Int, 0 ≤ x ∧ x ≤ s.size ∧ v0 = .string s ∧ n = .int .i64 0 ∧ p = .bool false ∧ i = .int .i64 x) (fun _ _ _ i => s.size - (intOf i).toNat)
  case atStart => exact ⟨0, by omega, by omega, rfl, rfl, rfl, rfl⟩
  case round =>
    obtain ⟨x, h0, h1, rfl, rfl, rfl, rfl⟩ := hrel
    by_cases hlt : x < (s.size : Int)
    · have hx := bt_at s x
      have hb : (bt s x == 37) = false := by simpa using HN.out x h0 hlt
      by_cases hp : bt s x = 43
      · have hpb : (bt s x == 43) = true := by simpa using hp
        clear hp
        go_wp2
        all_goals go_round
        case rel => exact ⟨x + 1, by omega, by omega, rfl, rfl, rfl, by go_num⟩
        case measure => simp [intOf]; omega
      · have hpb : (bt s x == 43) = false := by simpa using hp
        clear hp
        go_wp2
        all_goals go_round
        case rel => exact ⟨x + 1, by omega, by omega, rfl, rfl, rfl, by go_num⟩
        case measure => simp [intOf]; omega
    · go_wp2
      go_ret2
      exact ⟨rfl, rfl⟩
set_option maxHeartbeats 1000000 in
set_option maxRecDepth 100000 in
theorem PathUnescape_plain (s : ByteArray) (w : World) (hn : NoByte s 37) (hs : s.size ≤ 9223372036854775807) :
    Calls Tryz.prog 82 #[.string s] w fun e w' => e = .returned (.tuple #[.string s, .nilIface]) ∧ w' = w := by
  have HC := Aside0.mk (fun w => unescape_plain s w hn hs)
  clear hn hs
  go_enter Tryz.func82, Tryz.ntmps82
  go_wp2_with (go_at_call 91; refine (HC.out _).mono ?_; rintro e w' ⟨rfl, rfl⟩)
  go_ret2
  exact ⟨rfl, rfl⟩
set_option maxHeartbeats 1000000 in
set_option maxRecDepth 100000 in
theorem pathUnescape_plain (s : ByteArray) (w : World) (hn : NoByte s 37) (hs : s.size ≤ 9223372036854775807) :
    Calls Tryz.prog 72 #[.string s] w fun e w' => e = .returned (.string s) ∧ w' = w := by
  have HC := Aside0.mk (fun w => PathUnescape_plain s w hn hs)
  clear hn hs
  go_enter Tryz.func72, Tryz.ntmps72
  go_wp2_with (go_at_call 82; refine (HC.out _).mono ?_; rintro e w' ⟨rfl, rfl⟩)
  go_ret
  exact ⟨rfl, rfl⟩
end Go.Proofs.YtcedefabmelogaaGreatDoor.H
/- Plain words on texts: texts as lists of bytes; a list's first byte of a kind. -/
namespace Go.Proofs.YtcedefabmelogaaGreatDoor.H
open Go.RowKit Go.Proofs.YtcedefabmelogaaGreatDoorW.PrintWords
set_option maxRecDepth 100000
/-- A list of bytes as a text. -/
def bs (l : List UInt8) : ByteArray := ⟨l.toArray⟩
theorem bs_data (l : List UInt8) : (bs l).data.toList = l := by simp [bs]
theorem bs_of (s : ByteArray) : bs s.data.toList = s := WideShapes.bytes_inj (bs_data _)
theorem bs_toList (l : List UInt8) : (bs l).toList = l := by rw [ByteArray.toList_eq, bs_data]
theorem bs_size (l : List UInt8) : (bs l).size = l.length := by rw [Lib.size_eq, bs_data]
theorem bs_inj {a b : List UInt8} (h : bs a = bs b) : a = b := by rw [← bs_data a, h, bs_data]
theorem bs_append (a b : List UInt8) : bs a ++ bs b = bs (a ++ b) := WideShapes.bytes_inj (by rw [Joins.data_append, bs_data, bs_data, bs_data])
theorem bs_extract (l : List UInt8) (a b : Nat) : (bs l).extract a b = bs ((l.drop a).take (b - a)) := WideShapes.bytes_inj (by rw [Lib.extract_data, bs_data, bs_data])
theorem bs_from (l : List UInt8) (a : Nat) : (bs l).extract a (bs l).size = bs (l.drop a) := by rw [bs_extract, bs_size, List.take_of_length_le (by simp)]
theorem bs_upto (l : List UInt8) (b : Nat) : (bs l).extract 0 b = bs (l.take b) := by rw [bs_extract]; simp
theorem bs_nil : bs [] = ⟨#[]⟩ := rfl
theorem bs_bt (l : List UInt8) (i : Nat) (h : i < l.length) : bt (bs l) i = ((l[i]).toNat : Int) := by
  unfold bt
  have h' : (i : Int).toNat < (bs l).size := by rw [bs_size]; simpa using h
  rw [dif_pos h']
  have : (bs l)[(i : Int).toNat]'(h') = l[i] := by
    show (bs l).data[(i : Int).toNat] = _
    simp [bs]
    rfl
  rw [this]
  rfl
theorem indexByte_not {l : List UInt8} {c : UInt8} (h : c ∉ l) : Lib.indexByte l c = -1 := by
  induction l with
  | nil => rfl
  | cons x l ih =>
    simp only [List.mem_cons, not_or] at h
    have hx : (x == c) = false := by simpa using Ne.symm h.1
    simp only [Lib.indexByte, hx, ih h.2]
    simp
theorem indexByte_at {a b : List UInt8} {c : UInt8} (h : c ∉ a) : Lib.indexByte (a ++ c :: b) c = a.length := by
  induction a with
  | nil => simp [Lib.indexByte]
  | cons x l ih =>
    simp only [List.mem_cons, not_or] at h
    have hx : (x == c) = false := by simpa using Ne.symm h.1
    simp only [List.cons_append, Lib.indexByte, hx, ih h.2]
    have : ((l.length : Int) == -1) = false := by simp
    simp [this]
end Go.Proofs.YtcedefabmelogaaGreatDoor.H
