/- The shelf of library functions that the program lays; nextSegment; pathUnescape on plain pieces. -/
import Derived.Test.YtcedefabmelogaaGreatDoorV05
import Derived.Shelf.Small.Strs
import Derived.Shelf.Small.Wraps
import Derived.Shelf.Strings.Search1
import Derived.Shelf.Sort.Plain
import Derived.Shelf.Strings.Prefix
import Derived.Shelf.Unicode.Latin
import Derived.Shelf.Unicode.Props
import Derived.Shelf.LaysM
import Derived.Shelf.Unicode.PropsLaid
import Derived.Shelf.Unicode.Is16White
import Derived.Shelf.Unicode.IsSpaceAny
import Derived.Shelf.Unicode.Is16Any
import Derived.Shelf.Unicode.Is32Any
import Derived.Shelf.Unicode.ExclAny
import Derived.Shelf.Unicode.PredsAny
import Derived.Ground.PaProg
import Derived.Shelf.Path.LazyBuf
import Derived.Shelf.Path.CleanRel
import Derived.Shelf.Path.CleanAbs
import Derived.Shelf.Path.Clean
import Derived.Test.YtcedefabmelogaaGreatDoorProg
import Derived.StillTailTactics
/-
  DERIVED: THE SHELF's CONTRACTS AT THIS DUMP, IN PLAIN WORDS (tools/lay-plain.mjs out of 'TryzShelfB.lean', which tools/lay-shelf.mjs wrote): THE SAME DECLARATIONS UNDER THE SAME NAMES: 'import', 'namespace', 'open', 'def', 'theorem' AND NOTHING ELSE: no command of the shelf's: FOR A HAND-IN. Each laying: the table of numbers ('.._ren') and one theorem, a field a fact of the dump's own or the kernel's comparison; each contract: ONE APPLICATION.
-/
namespace Go.Proofs
open Go.Shelf
def Tryz.lays137_ren : Go.Shelf.Ren := ⟨fun | 137 => 70 | 217 => 79 | 266 => 86 | n => n, fun | 9 => 9 | 5 => 5 | 3 => 3 | n => n, fun | n => n⟩
theorem Tryz.lays137 : Go.Proofs.Lays.n137 Tryz.prog Tryz.lays137_ren := {
  mixed := by kernel_rfl
  f137 := Tryz.func70.trans (congrArg some (by kernel_rfl))
  f217 := Tryz.func79.trans (congrArg some (by kernel_rfl))
  f266 := Tryz.func86.trans (congrArg some (by kernel_rfl))
  t3 := Tryz.underlying3
  a3 := Tryz.isAgg3
  z3 := Tryz.sizeOf3
  v3 := Tryz.zeroValue3
  t5 := Tryz.underlying5
  a5 := Tryz.isAgg5
  z5 := Tryz.sizeOf5
  v5 := Tryz.zeroValue5
  t9 := Tryz.underlying9
  a9 := Tryz.isAgg9
  z9 := Tryz.sizeOf9
  v9 := Tryz.zeroValue9 }
open Go.RowKit in
/-- strings.IndexByte: "IndexByte returns the index of the first instance of c in s, or -1 if c is not present in s.": IT RETURNS 'Lib.indexByte s c'; the world is as it was. (LAID: no walk: one application.) -/
theorem Tryz.strings_IndexByte (s : ByteArray) (c : Int) (w : World) :
    Calls Tryz.prog 70 #[.string s, .int .u8 c] w fun e w' => e = .returned (.int .i64 (Lib.indexByte s.data.toList c.toNat.toUInt8)) ∧ w' = w := Any.strings_IndexByte Tryz.lays137 s c w
def Tryz.lays104_ren : Go.Shelf.Ren := ⟨fun | 104 => 73 | 211 => 83 | 207 => 92 | n => n, fun | 9 => 9 | 4 => 4 | 24 => 120 | 3 => 3 | n => n, fun | n => n⟩
theorem Tryz.lays104 : Go.Proofs.Lays.n104 Tryz.prog Tryz.lays104_ren := {
  mixed := by kernel_rfl
  f104 := Tryz.func73.trans (congrArg some (by kernel_rfl))
  f207 := Tryz.func92.trans (congrArg some (by kernel_rfl))
  f211 := Tryz.func83.trans (congrArg some (by kernel_rfl))
  t3 := Tryz.underlying3
  a3 := Tryz.isAgg3
  z3 := Tryz.sizeOf3
  v3 := Tryz.zeroValue3
  t4 := Tryz.underlying4
  a4 := Tryz.isAgg4
  z4 := Tryz.sizeOf4
  v4 := Tryz.zeroValue4
  t9 := Tryz.underlying9
  a9 := Tryz.isAgg9
  z9 := Tryz.sizeOf9
  v9 := Tryz.zeroValue9
  t24 := Tryz.underlying120
  a24 := Tryz.isAgg120
  z24 := Tryz.sizeOf120
  v24 := Tryz.zeroValue120 }
open Go.RowKit in
/-- strings.CutSuffix: "CutSuffix returns s without the provided ending suffix string and reports whether it found the suffix. If s doesn't end with suffix, CutSuffix returns s, false. If suffix is the empty string, CutSuffix returns s, true.": IT RETURNS '(Lib.trimSuffix s p, Lib.hasSuffix s p)'; the world is as it was. (LAID: no walk: one application.) -/
theorem Tryz.strings_CutSuffix (s p : ByteArray) (w : World) (hs : s.size ≤ 9223372036854775807) :
    Calls Tryz.prog 73 #[.string s, .string p] w fun e w' => e = .returned (.tuple #[.string ⟨(Lib.trimSuffix s.data.toList p.data.toList).toArray⟩, .bool (Lib.hasSuffix s.data.toList p.data.toList)]) ∧ w' = w := Any.strings_CutSuffix Tryz.lays104 s p w hs
def Tryz.lays190_ren : Go.Shelf.Ren := ⟨fun | 190 => 20 | 125 => 32 | 258 => 31 | 128 => 48 | 129 => 49 | 302 => 39 | 303 => 40 | 304 => 41 | 305 => 42 | 306 => 43 | 307 => 44 | 308 => 45 | 309 => 46 | 310 => 47 | 333 => 57 | 329 => 58 | 330 => 59 | 334 => 60 | 335 => 61 | 336 => 62 | 344 => 77 | n => n, fun | 31 => 26 | 9 => 9 | 3 => 3 | 46 => 62 | 0 => 0 | 51 => 88 | 53 => 90 | 4 => 4 | 183 => 80 | 182 => 79 | 131 => 85 | 5 => 5 | 218 => 105 | 222 => 66 | 228 => 128 | 229 => 129 | n => n, fun | n => n⟩
theorem Tryz.lays190 : Go.Proofs.Lays.n190 Tryz.prog Tryz.lays190_ren := {
  mixed := by kernel_rfl
  f125 := Tryz.func32.trans (congrArg some (by kernel_rfl))
  f128 := Tryz.func48.trans (congrArg some (by kernel_rfl))
  f129 := Tryz.func49.trans (congrArg some (by kernel_rfl))
  f190 := Tryz.func20.trans (congrArg some (by kernel_rfl))
  f258 := Tryz.func31.trans (congrArg some (by kernel_rfl))
  f302 := Tryz.func39.trans (congrArg some (by kernel_rfl))
  f303 := Tryz.func40.trans (congrArg some (by kernel_rfl))
  f304 := Tryz.func41.trans (congrArg some (by kernel_rfl))
  f305 := Tryz.func42.trans (congrArg some (by kernel_rfl))
  f306 := Tryz.func43.trans (congrArg some (by kernel_rfl))
  f307 := Tryz.func44.trans (congrArg some (by kernel_rfl))
  f308 := Tryz.func45.trans (congrArg some (by kernel_rfl))
  f309 := Tryz.func46.trans (congrArg some (by kernel_rfl))
  f310 := Tryz.func47.trans (congrArg some (by kernel_rfl))
  f329 := Tryz.func58.trans (congrArg some (by kernel_rfl))
  f330 := Tryz.func59.trans (congrArg some (by kernel_rfl))
  f333 := Tryz.func57.trans (congrArg some (by kernel_rfl))
  f334 := Tryz.func60.trans (congrArg some (by kernel_rfl))
  f335 := Tryz.func61.trans (congrArg some (by kernel_rfl))
  f336 := Tryz.func62.trans (congrArg some (by kernel_rfl))
  f344 := Tryz.func77.trans (congrArg some (by kernel_rfl))
  t0 := Tryz.underlying0
  a0 := Tryz.isAgg0
  z0 := Tryz.sizeOf0
  v0 := Tryz.zeroValue0
  t3 := Tryz.underlying3
  a3 := Tryz.isAgg3
  z3 := Tryz.sizeOf3
  v3 := Tryz.zeroValue3
  t4 := Tryz.underlying4
  a4 := Tryz.isAgg4
  z4 := Tryz.sizeOf4
  v4 := Tryz.zeroValue4
  t5 := Tryz.underlying5
  a5 := Tryz.isAgg5
  z5 := Tryz.sizeOf5
  v5 := Tryz.zeroValue5
  t9 := Tryz.underlying9
  a9 := Tryz.isAgg9
  z9 := Tryz.sizeOf9
  v9 := Tryz.zeroValue9
  t31 := Tryz.underlying26
  a31 := Tryz.isAgg26
  z31 := Tryz.sizeOf26
  v31 := Tryz.zeroValue26
  t46 := Tryz.underlying62
  a46 := Tryz.isAgg62
  z46 := Tryz.sizeOf62
  v46 := Tryz.zeroValue62
  t51 := Tryz.underlying88
  a51 := Tryz.isAgg88
  z51 := Tryz.sizeOf88
  v51 := Tryz.zeroValue88
  t53 := Tryz.underlying90
  a53 := Tryz.isAgg90
  z53 := Tryz.sizeOf90
  v53 := Tryz.zeroValue90
  t131 := Tryz.underlying85
  a131 := Tryz.isAgg85
  z131 := Tryz.sizeOf85
  v131 := Tryz.zeroValue85
  t182 := Tryz.underlying79
  a182 := Tryz.isAgg79
  z182 := Tryz.sizeOf79
  v182 := Tryz.zeroValue79
  t183 := Tryz.underlying80
  a183 := Tryz.isAgg80
  z183 := Tryz.sizeOf80
  v183 := Tryz.zeroValue80
  t218 := Tryz.underlying105
  a218 := Tryz.isAgg105
  z218 := Tryz.sizeOf105
  v218 := Tryz.zeroValue105
  t222 := Tryz.underlying66
  a222 := Tryz.isAgg66
  z222 := Tryz.sizeOf66
  v222 := Tryz.zeroValue66
  t228 := Tryz.underlying128
  a228 := Tryz.isAgg128
  z228 := Tryz.sizeOf128
  v228 := Tryz.zeroValue128
  t229 := Tryz.underlying129
  a229 := Tryz.isAgg129
  z229 := Tryz.sizeOf129
  v229 := Tryz.zeroValue129 }
open Go.Sort Go.RowKit in
theorem Tryz.slices_Sort_string (blk off cap : Nat) (ss : List (List UInt8)) (w : World) (hH : Holds encStr w blk off ss.toArray) (hblk : blk < w.heap.size) (hsz : ss.length < 4611686018427387904) :
    Calls Tryz.prog 20 #[.slice (some ⟨blk, off, none⟩) ss.length cap] w fun e w' =>
      e = .returned (.tuple #[]) ∧ ∃ n os, w' = grow (putRow encStr (Sort.ahead w n) blk off (ss.mergeSort fun x y => decide (x ≤ y)).toArray) os := Any.slices_Sort_string Tryz.lays190 blk off cap ss w hH hblk hsz
def Tryz.lays99_ren : Go.Shelf.Ren := ⟨fun | 99 => 81 | 206 => 90 | n => n, fun | 9 => 9 | 4 => 4 | 3 => 3 | n => n, fun | n => n⟩
theorem Tryz.lays99 : Go.Proofs.Lays.n99 Tryz.prog Tryz.lays99_ren := {
  mixed := by kernel_rfl
  f99 := Tryz.func81.trans (congrArg some (by kernel_rfl))
  f206 := Tryz.func90.trans (congrArg some (by kernel_rfl))
  t3 := Tryz.underlying3
  a3 := Tryz.isAgg3
  z3 := Tryz.sizeOf3
  v3 := Tryz.zeroValue3
  t4 := Tryz.underlying4
  a4 := Tryz.isAgg4
  z4 := Tryz.sizeOf4
  v4 := Tryz.zeroValue4
  t9 := Tryz.underlying9
  a9 := Tryz.isAgg9
  z9 := Tryz.sizeOf9
  v9 := Tryz.zeroValue9 }
open Go.RowKit Go.Lib in
/-- strings.HasPrefix: "HasPrefix reports whether the string s begins with prefix.": IT RETURNS 'Lib.hasPrefix s prefix'; the world is as it was. (LAID: no walk: one application.) -/
theorem Tryz.strings_HasPrefix (s p : ByteArray) (w : World) :
    Calls Tryz.prog 81 #[.string s, .string p] w fun e w' => e = .returned (.bool (Lib.hasPrefix s.data.toList p.data.toList)) ∧ w' = w := Any.strings_HasPrefix Tryz.lays99 s p w
def Tryz.lays198_ren : Go.Shelf.Ren := ⟨fun | 198 => 85 | 261 => 93 | 311 => 100 | 312 => 101 | n => n, fun | 21 => 21 | 4 => 4 | 141 => 148 | 0 => 0 | 196 => 163 | 193 => 160 | 3 => 3 | 51 => 88 | 198 => 166 | 49 => 164 | 194 => 161 | 201 => 169 | 226 => 173 | 46 => 62 | 227 => 174 | n => n, fun | 5 => 2 | n => n⟩
theorem Tryz.lays198 : Go.Proofs.Lays.n198 Tryz.prog Tryz.lays198_ren := {
  mixed := by kernel_rfl
  f198 := Tryz.func85.trans (congrArg some (by kernel_rfl))
  f261 := Tryz.func93.trans (congrArg some (by kernel_rfl))
  f311 := Tryz.func100.trans (congrArg some (by kernel_rfl))
  f312 := Tryz.func101.trans (congrArg some (by kernel_rfl))
  t0 := Tryz.underlying0
  a0 := Tryz.isAgg0
  z0 := Tryz.sizeOf0
  v0 := Tryz.zeroValue0
  t3 := Tryz.underlying3
  a3 := Tryz.isAgg3
  z3 := Tryz.sizeOf3
  v3 := Tryz.zeroValue3
  t4 := Tryz.underlying4
  a4 := Tryz.isAgg4
  z4 := Tryz.sizeOf4
  v4 := Tryz.zeroValue4
  t21 := Tryz.underlying21
  a21 := Tryz.isAgg21
  z21 := Tryz.sizeOf21
  v21 := Tryz.zeroValue21
  t46 := Tryz.underlying62
  a46 := Tryz.isAgg62
  z46 := Tryz.sizeOf62
  v46 := Tryz.zeroValue62
  t49 := Tryz.underlying164
  a49 := Tryz.isAgg164
  z49 := Tryz.sizeOf164
  v49 := Tryz.zeroValue164
  t51 := Tryz.underlying88
  a51 := Tryz.isAgg88
  z51 := Tryz.sizeOf88
  v51 := Tryz.zeroValue88
  t141 := Tryz.underlying148
  a141 := Tryz.isAgg148
  z141 := Tryz.sizeOf148
  v141 := Tryz.zeroValue148
  t193 := Tryz.underlying160
  a193 := Tryz.isAgg160
  z193 := Tryz.sizeOf160
  v193 := Tryz.zeroValue160
  t194 := Tryz.underlying161
  a194 := Tryz.isAgg161
  z194 := Tryz.sizeOf161
  v194 := Tryz.zeroValue161
  t196 := Tryz.underlying163
  a196 := Tryz.isAgg163
  z196 := Tryz.sizeOf163
  v196 := Tryz.zeroValue163
  t198 := Tryz.underlying166
  a198 := Tryz.isAgg166
  z198 := Tryz.sizeOf166
  v198 := Tryz.zeroValue166
  t201 := Tryz.underlying169
  a201 := Tryz.isAgg169
  z201 := Tryz.sizeOf169
  v201 := Tryz.zeroValue169
  t226 := Tryz.underlying173
  a226 := Tryz.isAgg173
  z226 := Tryz.sizeOf173
  v226 := Tryz.zeroValue173
  t227 := Tryz.underlying174
  a227 := Tryz.isAgg174
  z227 := Tryz.sizeOf174
  v227 := Tryz.zeroValue174
  g5 := by kernel_rfl }
open Go.RowKit Go.Lib in
theorem Tryz.unicode_IsDigit (r : Int) (w : World) (h : r ≤ 255) :
    Calls Tryz.prog 85 #[.int .i32 r] w fun e w' => e = .returned (.bool (Lib.isDigitL r)) ∧ w' = w := Any.unicode_IsDigit Tryz.lays198 r w h
def Tryz.laysM200_ren : Go.Shelf.Ren := ⟨fun | 200 => 84 | 261 => 93 | 311 => 100 | 312 => 101 | n => n, fun | 21 => 21 | 4 => 4 | 51 => 88 | 5 => 5 | 119 => 146 | 0 => 0 | 141 => 148 | 196 => 163 | 193 => 160 | 3 => 3 | 198 => 166 | 49 => 164 | 194 => 161 | 201 => 169 | 226 => 173 | 46 => 62 | 227 => 174 | n => n, fun | 7 => 0 | 8 => 1 | n => n⟩
theorem Tryz.laysM200 : Go.Proofs.LaysM.n200 Tryz.prog Tryz.laysM200_ren := {
  mixed := by kernel_rfl
  f200 := Tryz.func84.trans (congrArg some (by kernel_rfl))
  f261 := Tryz.func93.trans (congrArg some (by kernel_rfl))
  f311 := Tryz.func100.trans (congrArg some (by kernel_rfl))
  f312 := Tryz.func101.trans (congrArg some (by kernel_rfl))
  t0 := Tryz.underlying0
  a0 := Tryz.isAgg0
  z0 := Tryz.sizeOf0
  v0 := Tryz.zeroValue0
  t3 := Tryz.underlying3
  a3 := Tryz.isAgg3
  z3 := Tryz.sizeOf3
  v3 := Tryz.zeroValue3
  t4 := Tryz.underlying4
  a4 := Tryz.isAgg4
  z4 := Tryz.sizeOf4
  v4 := Tryz.zeroValue4
  t5 := Tryz.underlying5
  a5 := Tryz.isAgg5
  z5 := Tryz.sizeOf5
  v5 := Tryz.zeroValue5
  t21 := Tryz.underlying21
  a21 := Tryz.isAgg21
  z21 := Tryz.sizeOf21
  v21 := Tryz.zeroValue21
  t46 := Tryz.underlying62
  a46 := Tryz.isAgg62
  z46 := Tryz.sizeOf62
  v46 := Tryz.zeroValue62
  t49 := Tryz.underlying164
  a49 := Tryz.isAgg164
  z49 := Tryz.sizeOf164
  v49 := Tryz.zeroValue164
  t51 := Tryz.underlying88
  a51 := Tryz.isAgg88
  z51 := Tryz.sizeOf88
  v51 := Tryz.zeroValue88
  t119 := Tryz.underlying146
  a119 := Tryz.isAgg146
  z119 := Tryz.sizeOf146
  t141 := Tryz.underlying148
  a141 := Tryz.isAgg148
  z141 := Tryz.sizeOf148
  v141 := Tryz.zeroValue148
  t193 := Tryz.underlying160
  a193 := Tryz.isAgg160
  z193 := Tryz.sizeOf160
  v193 := Tryz.zeroValue160
  t194 := Tryz.underlying161
  a194 := Tryz.isAgg161
  z194 := Tryz.sizeOf161
  v194 := Tryz.zeroValue161
  t196 := Tryz.underlying163
  a196 := Tryz.isAgg163
  z196 := Tryz.sizeOf163
  v196 := Tryz.zeroValue163
  t198 := Tryz.underlying166
  a198 := Tryz.isAgg166
  z198 := Tryz.sizeOf166
  v198 := Tryz.zeroValue166
  t201 := Tryz.underlying169
  a201 := Tryz.isAgg169
  z201 := Tryz.sizeOf169
  v201 := Tryz.zeroValue169
  t226 := Tryz.underlying173
  a226 := Tryz.isAgg173
  z226 := Tryz.sizeOf173
  v226 := Tryz.zeroValue173
  t227 := Tryz.underlying174
  a227 := Tryz.isAgg174
  z227 := Tryz.sizeOf174
  v227 := Tryz.zeroValue174
  g7 := by kernel_rfl
  g8 := by kernel_rfl
  i0 := by kernel_rfl
  i3 := by kernel_rfl
  i4 := by kernel_rfl
  i5 := by kernel_rfl
  i21 := by kernel_rfl
  i46 := by kernel_rfl
  i49 := by kernel_rfl
  i51 := by kernel_rfl
  i141 := by kernel_rfl
  i193 := by kernel_rfl
  i194 := by kernel_rfl
  i196 := by kernel_rfl
  i198 := by kernel_rfl
  i201 := by kernel_rfl
  i226 := by kernel_rfl
  i227 := by kernel_rfl
  m7 := by kernel_rfl
  m8 := by kernel_rfl }
open Go.RowKit Go.Lib in
theorem Tryz.unicode_IsLetter_laid (c : Nat) (w : World) (hc : c < 256) (htab : Lib.TabIs Tryz.prog w "unicode.properties" .u8 Lib.propertiesTab) :
    Calls Tryz.prog 84 #[.int .i32 c] w fun e w' => e = .returned (.bool (Lib.isLetterL c)) ∧ w' = w := Any.unicode_IsLetter_laid Tryz.laysM200 c w hc htab
def Tryz.laysPah30_ren : Go.Shelf.Ren := ⟨fun | 30 => 80 | 46 => 87 | 47 => 88 | 48 => 89 | n => n, fun | 9 => 9 | 4 => 4 | 5 => 5 | 3 => 3 | 42 => 140 | 0 => 0 | 48 => 149 | 30 => 138 | n => n, fun | n => n⟩
theorem Tryz.laysPah30 : Go.Proofs.Lays.ph30 Tryz.prog Tryz.laysPah30_ren := {
  mixed := by kernel_rfl
  f30 := Tryz.func80.trans (congrArg some (by kernel_rfl))
  f46 := Tryz.func87.trans (congrArg some (by kernel_rfl))
  f47 := Tryz.func88.trans (congrArg some (by kernel_rfl))
  f48 := Tryz.func89.trans (congrArg some (by kernel_rfl))
  t0 := Tryz.underlying0
  a0 := Tryz.isAgg0
  z0 := Tryz.sizeOf0
  v0 := Tryz.zeroValue0
  t3 := Tryz.underlying3
  a3 := Tryz.isAgg3
  z3 := Tryz.sizeOf3
  v3 := Tryz.zeroValue3
  t4 := Tryz.underlying4
  a4 := Tryz.isAgg4
  z4 := Tryz.sizeOf4
  v4 := Tryz.zeroValue4
  t5 := Tryz.underlying5
  a5 := Tryz.isAgg5
  z5 := Tryz.sizeOf5
  v5 := Tryz.zeroValue5
  t9 := Tryz.underlying9
  a9 := Tryz.isAgg9
  z9 := Tryz.sizeOf9
  v9 := Tryz.zeroValue9
  t30 := Tryz.underlying138
  a30 := Tryz.isAgg138
  z30 := Tryz.sizeOf138
  v30 := Tryz.zeroValue138
  t42 := Tryz.underlying140
  a42 := Tryz.isAgg140
  z42 := Tryz.sizeOf140
  v42 := Tryz.zeroValue140
  t48 := Tryz.underlying149
  a48 := Tryz.isAgg149
  z48 := Tryz.sizeOf149
  v48 := Tryz.zeroValue149
  info5 := by kernel_rfl }
open Go.RowKit Go.Lib in
/-- path.Clean: "Clean returns the shortest path name equivalent to path by purely lexical processing. It applies the following rules iteratively until no further processing can be done: 1. Replace multiple slashes with a single slash. 2. Eliminate each . path name element (the current directory). 3. Eliminate each inner .. path name element (the parent directory) along with the non-.. element that precedes it. 4. Eliminate .. elements that begin a rooted path: that is, replace "/.." by "/" at the beginning of a path. The returned path ends in a slash only if it is the root "/". If the result of this process is an empty string, Clean returns the string ".".": IT RETURNS 'Pa.clean path'. (LAID: no walk: one application.) -/
theorem Tryz.path_Clean (s : ByteArray) (w : World) (hbig : s.size ≤ 281474976710656) :
    Calls Tryz.prog 80 #[.string s] w fun e w' => e = .returned (.string ⟨(Pa.clean s.data.toList).toArray⟩) ∧ Below w.heap.size w w' := Any.path_Clean Tryz.laysPah30 s w hbig
end Go.Proofs
/- The walks of firstSegment and lastSegment. -/
namespace Go.Proofs.YtcedefabmelogaaGreatDoor.H
open Go.RowKit Go.WideMaps Go.WideElems Go.Proofs.YtcedefabmelogaaGreatDoorW.PrintWords Go.Proofs.YtcedefabmelogaaGreatDoorW.PrintLast Go.Proofs.YtcedefabmelogaaGreatDoorW.PrintMore
set_option linter.unusedVariables false
set_option linter.unusedSimpArgs false
theorem noByte_bs (l : List UInt8) (h : (37 : UInt8) ∉ l) : NoByte (bs l) 37 := by
  intro x h0 h1
  rw [bs_size] at h1
  obtain ⟨i, rfl⟩ := Int.eq_ofNat_of_zero_le h0
  rw [bs_bt l i (by omega)]
  intro e
  have : l[i] = 37 := by
    apply UInt8.toNat_inj.1
    have : ((l[i]).toNat : Int) = 37 := e
    simpa using (by omega : (l[i]).toNat = 37)
  exact h (this ▸ List.getElem_mem _)
set_option maxHeartbeats 1000000 in
set_option maxRecDepth 100000 in
theorem firstSegment_slash (w : World) : Calls Tryz.prog 75 #[.string (bs [47])] w fun e w' => e = .returned (.tuple #[.string ⟨#[47]⟩, .string (bs [])]) ∧ w' = w := by
  have hs : ((bs [47]).toList == [47]) = true := by rw [bs_toList]; rfl
  have hn : bs [] = ⟨#[]⟩ := rfl
  generalize bs [47] = p at *
  go_enter Tryz.func75, Tryz.ntmps75
  go_wp2
  go_ret2
  exact ⟨rfl, rfl⟩
set_option maxHeartbeats 2000000 in
set_option maxRecDepth 100000 in
theorem firstSegment_found (p t sg rs : ByteArray) (n : Nat) (w : World) (hs : (p.toList == [47]) = false) (h1 : 1 ≤ p.size) (hx : p.extract 1 p.size = t) (hn : n ≤ t.size) (hps : p.size < 9223372036854775807) (hts : t.size < 9223372036854775807) (he1 : t.extract 0 n = sg) (he2 : t.extract n t.size = rs)
    (hI : ∀ w, Calls Tryz.prog 70 #[.string t, .int .u8 47] w fun e w' => e = .returned (.int .i64 n) ∧ w' = w) (hU : ∀ w, Calls Tryz.prog 72 #[.string sg] w fun e w' => e = .returned (.string sg) ∧ w' = w) :
    Calls Tryz.prog 75 #[.string p] w fun e w' => e = .returned (.tuple #[.string sg, .string rs]) ∧ ∃ n, w' = w.drewN n := by
  have hI := Aside0.mk hI
  have hU := Aside0.mk hU
  go_enter Tryz.func75, Tryz.ntmps75
  go_wp2_with (go_at_call 70; refine (hI.out _).mono ?_; rintro e w' ⟨rfl, rfl⟩)
  go_quiet ((go_at_call 72; exact Calls.quiet_of_same (hU.out _)))
  go_wp2
  go_ret2
  exact ⟨rfl, _, rfl⟩
set_option maxHeartbeats 2000000 in
set_option maxRecDepth 100000 in
theorem firstSegment_none (p t sg : ByteArray) (w : World) (hs : (p.toList == [47]) = false) (h1 : 1 ≤ p.size) (hx : p.extract 1 p.size = t) (hps : p.size < 9223372036854775807) (hts : t.size < 9223372036854775807) (he1 : t.extract 0 t.size = sg)
    (hI : ∀ w, Calls Tryz.prog 70 #[.string t, .int .u8 47] w fun e w' => e = .returned (.int .i64 (-1)) ∧ w' = w) (hU : ∀ w, Calls Tryz.prog 72 #[.string sg] w fun e w' => e = .returned (.string sg) ∧ w' = w) :
    Calls Tryz.prog 75 #[.string p] w fun e w' => e = .returned (.tuple #[.string sg, .string ByteArray.empty]) ∧ ∃ n, w' = w.drewN n := by
  have hI := Aside0.mk hI
  have hU := Aside0.mk hU
  go_enter Tryz.func75, Tryz.ntmps75
  go_wp2_with (go_at_call 70; refine (hI.out _).mono ?_; rintro e w' ⟨rfl, rfl⟩)
  go_quiet ((go_at_call 72; exact Calls.quiet_of_same (hU.out _)))
  go_wp2
  go_ret2
  exact ⟨rfl, _, rfl⟩
theorem firstSegment_any (seg rest : List UInt8) (w : World) (h1 : (47 : UInt8) ∉ seg) (h2 : rest = [] ∨ ∃ r, rest = 47 :: r) (h3 : seg ≠ []) (h4 : (37 : UInt8) ∉ seg) (hl : (seg ++ rest).length < 9223372036854775806) :
    Calls Tryz.prog 75 #[.string (bs (47 :: (seg ++ rest)))] w fun e w' => e = .returned (.tuple #[.string (bs seg), .string (bs rest)]) ∧ ∃ n, w' = w.drewN n := by
  have hs : ((bs (47 :: (seg ++ rest))).toList == [47]) = false := by
    rw [bs_toList]
    cases seg with
    | nil => exact absurd rfl h3
    | cons x l => simp
  have hz : (bs (47 :: (seg ++ rest))).size = (seg ++ rest).length + 1 := by rw [bs_size]; rfl
  have hz2 : (bs (seg ++ rest)).size = (seg ++ rest).length := by rw [bs_size]
  have hU := fun w => pathUnescape_plain (bs seg) w (noByte_bs seg h4) (by rw [bs_size]; simp at hl; omega)
  have hI := fun w => Tryz.strings_IndexByte (bs (seg ++ rest)) 47 w
  rw [bs_data, show ((47 : Int).toNat.toUInt8) = 47 from rfl] at hI
  rcases h2 with rfl | ⟨r, rfl⟩
  · simp only [List.append_nil] at hs hz hz2 hI hl ⊢
    rw [indexByte_not h1] at hI
    exact firstSegment_none _ (bs seg) (bs seg) w hs (by omega) (by rw [bs_from]; rfl) (by omega) (by omega) (by rw [bs_upto, hz2]; simp) hI hU
  · rw [indexByte_at h1] at hI
    exact firstSegment_found _ (bs (seg ++ 47 :: r)) (bs seg) (bs (47 :: r)) seg.length w hs (by omega) (by rw [bs_from]; rfl) (by rw [hz2]; simp) (by omega) (by omega) (by rw [bs_upto]; simp) (by rw [bs_from]; simp) hI hU
end Go.Proofs.YtcedefabmelogaaGreatDoor.H
/- The walk of (*pattern).lastSegment. -/
namespace Go.Proofs.YtcedefabmelogaaGreatDoor.H
open Go.RowKit Go.WideMaps Go.WideElems Go.Proofs.YtcedefabmelogaaGreatDoorW.PrintWords Go.Proofs.YtcedefabmelogaaGreatDoorW.PrintLast Go.Proofs.YtcedefabmelogaaGreatDoorW.PrintMore
open Go.Proofs.YtcedefabmelogaaGreatDoor.PFnAllowed
open Classical
set_option linter.unusedVariables false
set_option linter.unusedSimpArgs false
set_option maxHeartbeats 2000000 in
set_option maxRecDepth 100000 in
theorem lastSegment_any {w : World} (pb : Nat) (m h : ByteArray) (l : List S52) (P : PatAt w pb m h l) (hl : l ≠ []) :
    Calls Tryz.prog 76 #[.pointer (some ⟨pb, 0, none⟩)] w fun e w' => (∃ s0 b1 b2, e = .returned (.agg #[.string s0, .bool b1, .bool b2])) ∧ Below w.heap.size w w' := by
  obtain ⟨st, lc, A, c, hb, hs, hlc⟩ := P
  obtain ⟨k, hk⟩ : ∃ k, l.length = k + 1 := ⟨l.length - 1, by have := List.length_pos_iff.2 hl; omega⟩
  have hmax : l.length ≤ 9223372036854775807 := hs.1.2.1
  obtain ⟨ad, e, k0, k1, k2⟩ := at_T52 hs.1 (k : Int) (by omega) (by omega)
  subst e
  have hbw := blk_lt hb
  have hc3 := (blk_cell hb 3).trans (show _ = some (.slice (some ad) l.length c) from rfl)
  have hu112 := Tryz.underlying112
  have hb0 := World.block_lt_of_cell? w _ k0
  have hb1 := World.block_lt_of_cell? w _ k1
  have hb2 := World.block_lt_of_cell? w _ k2
  generalize rd_T52 l (k : Int) = sg at *
  rw [hk] at hc3 hmax
  simp only [Int.toNat_natCast] at k0 k1 k2 hb0 hb1 hb2
  have hb0' : (ad.add (k * 3)).block < w.heap.size := hb0
  have hwr : IntKind.i64.wrap (k : Int) = k := IntWalk.i64_in _ (by constructor <;> omega)
  have hlt : (k : Int) < (k : Int) + 1 := by omega
  clear hs hl hb hlc hk
  go_enter Tryz.func76, Tryz.ntmps76
  go_wp2
  refine wp_region_still_tail 12 (by kernel_rfl) (by kernel_rfl) ?_
  simp only [List.take_succ_cons, List.take_zero, List.drop_succ_cons, List.drop_zero]
  change wpStill _ _ (World.drew (w.alloc _)) _ _ _
  repeat still_step
  refine wpStill_nil ?_
  change wpList _ _ _ _ _ (World.drew (w.alloc _))
  go_wp2
  go_returns
  exact ⟨⟨_, _, _, rfl⟩, (below_alloc (Below.refl _ _) _).drew⟩
end Go.Proofs.YtcedefabmelogaaGreatDoor.H
/- append(xs, x) on an owned row: what comes back is owned, and the slice that was handed in still is. -/
namespace Go.Proofs.YtcedefabmelogaaGreatDoor.H
open Go.RowKit Go.WideMaps Go.WideElems Go.Proofs.YtcedefabmelogaaGreatDoorW.PrintWords Go.Proofs.YtcedefabmelogaaGreatDoorW.PrintLast Go.Proofs.YtcedefabmelogaaGreatDoorW.PrintMore
set_option linter.unusedVariables false
set_option linter.unusedSimpArgs false
section
variable {P : Program} (w : World)
/-- The slice that was handed in is owned still, and stays so while only the new one's row is written, behind what the new one holds. -/
def KeepRow (w' : World) (base : Nat) (e : TypeId) (v' v : Value) (n : Nat) (xs : List Value) (y : Value) : Prop :=
  ∀ w2 : World, w'.grownBy w2 v'.ownBlock → w2.ownsRow base e 1 v' (n + 1) (xs ++ [y]) → w2.ownsRow base e 1 v n xs
theorem run_append_keep (base : Nat) (t ty e : TypeId) (i : TypeInfo) (z : Value) (bytes : Nat) (ht : P.underlying t = some (.slice e)) (hi : P.info? e = some i) (hz : i.zero = some z)
    (hsize : i.size = 1) (hby : i.bytes = bytes) (hzs : z.cells.size = 1)
    (v : Value) (n : Nat) (xs : List Value) (hown : w.ownsRow base e 1 v n xs)
    (a : Addr) (c : Nat) (y : Value) (hy : w.cell? a = some y) (h1 : y.oneCell' = true)
    (h63 : n + 1 ≤ maxLen) (hbytes : (n + 1) * bytes ≤ 140737488355328) (hbase : base ≤ w.heap.size) :
    ∃ v' w', (Builtin.append_ #[t, t] ty #[v, .slice (some a) 1 c]).run P w = .ok v' w' ∧ w'.ownsRow base e 1 v' (n + 1) (xs ++ [y]) ∧ KeepRow w' base e v' v n xs y ∧ w.grownBy w' v.ownBlock ∧ (∀ k, v'.ownBlock = some k → w.heap.size ≤ k ∨ v.ownBlock = some k) := by
  have hnews : ∀ j u, [y][j]? = some u → w.cell? (a.add j) = some u := by
    intro j u hj
    match j, hj with
    | 0, hj => simp at hj; subst hj; rw [add_zero]; exact hy
  have hone : ∀ u ∈ [y], u.oneCell' = true := by intro u hu; simp at hu; subst hu; exact h1
  obtain ⟨v', w', hr, ho, hg, _, hat⟩ := run_append_own_at (P := P) w base t ty e i z 1 bytes ht hi hz hsize hby hzs (by omega) v n xs hown a 1 c [y] rfl hnews hone h63 hbytes hbase
  refine ⟨v', w', hr, ho, ?_, hg, fun k hk => by
    rcases hat with h | h
    · exact .inr (h ▸ hk)
    · rw [h] at hk; injection hk with hk; exact .inl (by omega)⟩
  intro w2 hg2 ho2
  rcases hown.2 with ⟨rfl, rfl⟩ | ⟨g, cap, cur, rfl, hbg, hgh, hnc, hcm, hcs, htake⟩
  · have hx : xs = [] := List.eq_nil_of_length_eq_zero (by simpa using hown.1)
    subst hx
    exact World.ownsRow_nil w2 base e 1
  · by_cases hroom : n + 1 ≤ cap
    · have hfit : n * i.size + [y].length ≤ cur.size := by simp [hsize]; omega
      have hr2 := run_append_room (P := P) w t ty e i ht hi g n cap cur hgh a 1 c [y] (by simp [hsize]) hnews hone hroom hfit
      rw [hr] at hr2
      injection hr2 with hv hw
      subst hv
      have h2 := ho2.2
      rcases h2 with ⟨h2, _⟩ | ⟨g2, cap2, cur2, h2, hb2, hh2, hn2, hm2, hc2, ht2⟩
      · cases h2
      · injection h2 with e1 e2 e3
        injection e1 with e1
        injection e1 with e1
        subst e1 e3
        refine ⟨hown.1, .inr ⟨g, cap, cur2, rfl, hb2, hh2, hnc, hcm, hc2, ?_⟩⟩
        have hl : xs.length = n * 1 := hown.1
        have := congrArg (List.take (n * 1)) ht2
        rw [List.take_take, Nat.min_eq_left (by omega)] at this
        rw [this]
        rw [← hl, List.take_left']
        rfl
    · have holds : ∀ j u, xs[j]? = some u → w.cell? ((⟨g, 0, none⟩ : Addr).add j) = some u := hown.cells (g := g) rfl
      have hr2 := run_append_grow (P := P) w t ty e i z ht hi hz ⟨g, 0, none⟩ n cap xs (by rw [hsize]; exact hown.1) holds a 1 c [y] (by simp [hsize]) hnews (by omega) (by simp only [maxLen] at h63; omega) (growslice_fits (by omega) (by rw [hby]; exact hbytes))
      rw [hr] at hr2
      injection hr2 with hv hw
      subst hw
      have h0 : (w.drew.alloc (.cells (xs.toArray ++ [y].toArray ++ Builtin.zeroCells z.cells (grownCap w (n + 1) cap e - (n + 1))) e)).ownsRow base e 1 (.slice (some ⟨g, 0, none⟩) n cap) n xs :=
        hown.kept (row := none) ⟨rfl, rfl, rfl, by simp, fun k hk _ => Below.heap_alloc w.drew _ k hk⟩ (.inr (by simp [Value.ownBlock]))
      refine h0.kept hg2 (.inr ?_)
      subst hv
      have := blk_lt hgh
      simp [Value.ownBlock]
      omega
end
section
variable {P : Program} {ops : Array Oper} {rest : List Oper} {o : Oper} {a : Act} {Q : Exit → Act → World → Prop}
theorem wpList_append_keep (w : World) (hgd : o.guard = none) (s x : Operand) (t : TypeId) (ho : o.op = .call { callee := .builtin .append, args := #[s, x], argTypes := #[t, t] })
    (base : Nat) (e : TypeId) (z : Value) (bytes : Nat) (ht : P.underlying t = some (.slice e)) (hinfo : (P.info? e).map (fun i => (i.zero, i.size, i.bytes)) = some (some z, 1, bytes)) (hzs : z.cells.size = 1)
    (v : Value) (n : Nat) (xs : List Value) (hs : a.eval s = v) (hown : w.ownsRow base e 1 v n xs)
    (ad : Addr) (c : Nat) (y : Value) (hx : a.eval x = .slice (some ad) 1 c) (hy : w.cell? ad = some y) (h1 : y.oneCell' = true)
    (h63 : n + 1 ≤ maxLen) (hbytes : (n + 1) * bytes ≤ 140737488355328) (hbase : base ≤ w.heap.size)
    (h : ∀ v' w', w'.ownsRow base e 1 v' (n + 1) (xs ++ [y]) → KeepRow w' base e v' v n xs y → w.grownBy w' v.ownBlock → (∀ k, v'.ownBlock = some k → w.heap.size ≤ k ∨ v.ownBlock = some k) → wpList P ops Q rest (a.put o.dst v') w') :
    wpList P ops Q (o :: rest) a w := by
  obtain ⟨i, hi, hzz⟩ := Option.map_eq_some_iff.1 hinfo
  simp only [Prod.mk.injEq] at hzz
  obtain ⟨hz0, hz1, hz2⟩ := hzz
  refine wpList_plain hgd fun K hK => ?_
  obtain ⟨v', w', hr, h2, h3, h4, h5⟩ := run_append_keep (P := P) w base t o.type e i z bytes ht hi hz0 hz1 hz2 hzs v n xs hown ad c y hy h1 h63 hbytes hbase
  unfold Oper.wp execOp
  simp only [ho, resolve, invoke, builtin, Sem.run_bind, Sem.run_pure, Result.andThen_ok, List.map_toArray, List.map_cons, List.map_nil, hs, hx, hr]
  exact hK _ _ (h v' w' h2 h3 h4 h5)
theorem step_append_keep {K : Act → World → Prop} {E : Prop} (w : World) (hgd : o.guard = none) (s x : Operand) (t : TypeId) (ho : o.op = .call { callee := .builtin .append, args := #[s, x], argTypes := #[t, t] })
    (base : Nat) (e : TypeId) (z : Value) (bytes : Nat) (ht : P.underlying t = some (.slice e)) (hinfo : (P.info? e).map (fun i => (i.zero, i.size, i.bytes)) = some (some z, 1, bytes)) (hzs : z.cells.size = 1)
    (v : Value) (n : Nat) (xs : List Value) (hs : a.eval s = v) (hown : w.ownsRow base e 1 v n xs)
    (ad : Addr) (c : Nat) (y : Value) (hx : a.eval x = .slice (some ad) 1 c) (hy : w.cell? ad = some y) (h1 : y.oneCell' = true)
    (h63 : n + 1 ≤ maxLen) (hbytes : (n + 1) * bytes ≤ 140737488355328) (hbase : base ≤ w.heap.size)
    (h : ∀ v' w', w'.ownsRow base e 1 v' (n + 1) (xs ++ [y]) → KeepRow w' base e v' v n xs y → w.grownBy w' v.ownBlock → (∀ k, v'.ownBlock = some k → w.heap.size ≤ k ∨ v.ownBlock = some k) → K (a.put o.dst v') w') :
    if Region.wanted o (yielded ops a.tmps) = true then Oper.wp P o a w K Q else E := by
  obtain ⟨i, hi, hzz⟩ := Option.map_eq_some_iff.1 hinfo
  simp only [Prod.mk.injEq] at hzz
  obtain ⟨hz0, hz1, hz2⟩ := hzz
  have hw : Region.wanted o (yielded ops a.tmps) = true := by simp [Region.wanted, hgd]
  rw [if_pos hw]
  obtain ⟨v', w', hr, h2, h3, h4, h5⟩ := run_append_keep (P := P) w base t o.type e i z bytes ht hi hz0 hz1 hz2 hzs v n xs hown ad c y hy h1 h63 hbytes hbase
  unfold Oper.wp execOp
  simp only [ho, resolve, invoke, builtin, Sem.run_bind, Sem.run_pure, Result.andThen_ok, List.map_toArray, List.map_cons, List.map_nil, hs, hx, hr]
  exact h v' w' h2 h3 h4 h5
end
theorem KeepRow.now {w' : World} {base : Nat} {e : TypeId} {v' v : Value} {n : Nat} {xs : List Value} {y : Value} (h : KeepRow w' base e v' v n xs y) (ho : w'.ownsRow base e 1 v' (n + 1) (xs ++ [y])) : w'.ownsRow base e 1 v n xs :=
  h w' ⟨rfl, rfl, rfl, Nat.le_refl _, fun _ _ _ => rfl⟩ ho
theorem g_refl (w : World) (row : Option Nat) : w.grownBy w row := ⟨rfl, rfl, rfl, Nat.le_refl _, fun _ _ _ => rfl⟩
theorem g_below {w w1 w2 : World} {row : Option Nat} (h : w.grownBy w1 row) (k : Below w1.heap.size w1 w2) : w.grownBy w2 row :=
  ⟨k.os.trans h.os, k.tape.trans h.tape, k.output.trans h.output, Nat.le_trans h.size k.size, fun i hi hn => (k.block i (Nat.lt_of_lt_of_le hi h.size)).trans (h.block i hi hn)⟩
theorem g_drewN {w w1 : World} {row : Option Nat} (h : w.grownBy w1 row) (k : Nat) : w.grownBy (w1.drewN k) row := ⟨h.os, h.tape, h.output, h.size, h.block⟩
theorem g_drew {w w1 : World} {row : Option Nat} (h : w.grownBy w1 row) : w.grownBy w1.drew row := ⟨h.os, h.tape, h.output, h.size, h.block⟩
theorem g_alloc {w w1 : World} {row : Option Nat} (h : w.grownBy w1 row) (o : Obj) : w.grownBy (w1.alloc o) row := h.trans (World.grownBy_alloc w1 o row)
theorem g_then {w w1 w2 : World} {row row2 : Option Nat} (h : w.grownBy w1 row) (k : w1.grownBy w2 row2) (hr : ∀ j, row2 = some j → w.heap.size ≤ j ∨ row = some j) : w.grownBy w2 row :=
  ⟨k.os.trans h.os, k.tape.trans h.tape, k.output.trans h.output, Nat.le_trans h.size k.size, fun i hi hn => (k.block i (Nat.lt_of_lt_of_le hi h.size) (fun e => by
    rcases hr i e.symm with h1 | h1
    · omega
    · exact hn h1.symm)).trans (h.block i hi hn)⟩
theorem b_grown {B : Nat} {w0 w w1 : World} {mv : Value} {n : Nat} {xs : List Value} (hw : Below B w0 w) (hB : B ≤ w.heap.size) (ho : w.ownsRow B 9 1 mv n xs) (hg : w.grownBy w1 mv.ownBlock) : Below B w0 w1 :=
  hw.grown hg hB (fun k hk => own_base ho k hk)
end Go.Proofs.YtcedefabmelogaaGreatDoor.H
