/-
  DERIVED: THE SHELF's CONTRACTS AT THIS DUMP, IN PLAIN WORDS (tools/lay-plain.mjs out of 'YtjdcljggbbeikaaDoorShelfSrc.lean', which tools/lay-shelf.mjs wrote): THE SAME DECLARATIONS UNDER THE SAME NAMES: 'import', 'namespace', 'open', 'def', 'theorem' AND NOTHING ELSE: no command of the shelf's: FOR A HAND-IN. Each laying: the table of numbers ('.._ren') and one theorem, a field a fact of the dump's own or the kernel's comparison; each contract: ONE APPLICATION.
-/
import Derived.Shelf.Strconv.Itoa0
import Derived.Shelf.Strconv.Itoa1
import Derived.Shelf.LaysM
import Derived.Shelf.Strconv.Itoa2
import Derived.Shelf.Strconv.Itoa3
import Derived.Shelf.Strings.Search1
import Derived.Shelf.Strings.Search2
import Derived.Shelf.Strings.Search3
import Derived.Shelf.Strings.Cut
import Derived.Shelf.Strings.Count
import Derived.Shelf.Strings.Shaped
import Derived.Shelf.Strings.Split
import Derived.Shelf.Unicode.DecodeSlow
import Derived.Test.YtjdcljggbbeikaaDoorProg
namespace Go.Proofs
open Go.Shelf
def Tryd.laysM171_ren : Go.Shelf.Ren := ⟨fun | 171 => 29 | 243 => 40 | 246 => 46 | 283 => 52 | 284 => 53 | 285 => 54 | 286 => 55 | 129 => 62 | 317 => 61 | 318 => 63 | 319 => 64 | 320 => 65 | 337 => 69 | 338 => 70 | n => n, fun | 3 => 3 | 9 => 9 | 2 => 2 | 4 => 4 | 171 => 75 | 0 => 0 | 53 => 76 | 37 => 35 | 5 => 5 | 173 => 79 | 212 => 86 | 51 => 81 | 20 => 20 | 213 => 87 | 46 => 32 | 232 => 93 | 233 => 94 | n => n, fun | 17 => 1 | 18 => 2 | 19 => 3 | n => n⟩
theorem Tryd.laysM171 : Go.Proofs.LaysM.n171 Tryd.prog Tryd.laysM171_ren := {
  mixed := by kernel_rfl
  f129 := Tryd.func62.trans (congrArg some (by kernel_rfl))
  f171 := Tryd.func29.trans (congrArg some (by kernel_rfl))
  f243 := Tryd.func40.trans (congrArg some (by kernel_rfl))
  f246 := Tryd.func46.trans (congrArg some (by kernel_rfl))
  f283 := Tryd.func52.trans (congrArg some (by kernel_rfl))
  f284 := Tryd.func53.trans (congrArg some (by kernel_rfl))
  f285 := Tryd.func54.trans (congrArg some (by kernel_rfl))
  f286 := Tryd.func55.trans (congrArg some (by kernel_rfl))
  f317 := Tryd.func61.trans (congrArg some (by kernel_rfl))
  f318 := Tryd.func63.trans (congrArg some (by kernel_rfl))
  f319 := Tryd.func64.trans (congrArg some (by kernel_rfl))
  f320 := Tryd.func65.trans (congrArg some (by kernel_rfl))
  f337 := Tryd.func69.trans (congrArg some (by kernel_rfl))
  f338 := Tryd.func70.trans (congrArg some (by kernel_rfl))
  t0 := Tryd.underlying0
  a0 := Tryd.isAgg0
  z0 := Tryd.sizeOf0
  v0 := Tryd.zeroValue0
  t2 := Tryd.underlying2
  a2 := Tryd.isAgg2
  z2 := Tryd.sizeOf2
  v2 := Tryd.zeroValue2
  t3 := Tryd.underlying3
  a3 := Tryd.isAgg3
  z3 := Tryd.sizeOf3
  v3 := Tryd.zeroValue3
  t4 := Tryd.underlying4
  a4 := Tryd.isAgg4
  z4 := Tryd.sizeOf4
  v4 := Tryd.zeroValue4
  t5 := Tryd.underlying5
  a5 := Tryd.isAgg5
  z5 := Tryd.sizeOf5
  v5 := Tryd.zeroValue5
  t9 := Tryd.underlying9
  a9 := Tryd.isAgg9
  z9 := Tryd.sizeOf9
  v9 := Tryd.zeroValue9
  t20 := Tryd.underlying20
  a20 := Tryd.isAgg20
  z20 := Tryd.sizeOf20
  v20 := Tryd.zeroValue20
  t37 := Tryd.underlying35
  a37 := Tryd.isAgg35
  z37 := Tryd.sizeOf35
  v37 := Tryd.zeroValue35
  t46 := Tryd.underlying32
  a46 := Tryd.isAgg32
  z46 := Tryd.sizeOf32
  v46 := Tryd.zeroValue32
  t51 := Tryd.underlying81
  a51 := Tryd.isAgg81
  z51 := Tryd.sizeOf81
  v51 := Tryd.zeroValue81
  t53 := Tryd.underlying76
  a53 := Tryd.isAgg76
  z53 := Tryd.sizeOf76
  v53 := Tryd.zeroValue76
  t171 := Tryd.underlying75
  a171 := Tryd.isAgg75
  z171 := Tryd.sizeOf75
  v171 := Tryd.zeroValue75
  t173 := Tryd.underlying79
  a173 := Tryd.isAgg79
  z173 := Tryd.sizeOf79
  v173 := Tryd.zeroValue79
  t212 := Tryd.underlying86
  a212 := Tryd.isAgg86
  z212 := Tryd.sizeOf86
  v212 := Tryd.zeroValue86
  t213 := Tryd.underlying87
  a213 := Tryd.isAgg87
  z213 := Tryd.sizeOf87
  t232 := Tryd.underlying93
  a232 := Tryd.isAgg93
  z232 := Tryd.sizeOf93
  v232 := Tryd.zeroValue93
  t233 := Tryd.underlying94
  a233 := Tryd.isAgg94
  z233 := Tryd.sizeOf94
  v233 := Tryd.zeroValue94
  g17 := by kernel_rfl
  g18 := by kernel_rfl
  g19 := by kernel_rfl
  i0 := by kernel_rfl
  i2 := by kernel_rfl
  i3 := by kernel_rfl
  i4 := by kernel_rfl
  i5 := by kernel_rfl
  i9 := by kernel_rfl
  i20 := by kernel_rfl
  i37 := by kernel_rfl
  i46 := by kernel_rfl
  i51 := by kernel_rfl
  i53 := by kernel_rfl
  i171 := by kernel_rfl
  i173 := by kernel_rfl
  i212 := by kernel_rfl
  i232 := by kernel_rfl
  i233 := by kernel_rfl
  m17 := by kernel_rfl
  m18 := by kernel_rfl
  m19 := by kernel_rfl }
open Go.RowKit Go.Sort Go.Lib in
/-- strconv.Itoa: "Itoa is equivalent to FormatInt(int64(i), 10).": i's DECIMAL NUMERAL ('Lib.itoa': a '-' where i is negative, then the digits), FOR EVERY int. The world behind the call: the world before it, new blocks behind the heap (the library's 'var a [24]byte'), draws. (LAID: no walk: one application.) -/
theorem Tryd.strconv_Itoa (n : Int) (h0 : -9223372036854775808 ≤ n) (h1 : n ≤ 9223372036854775807) (w : World) (htab : Lib.TabIs Tryd.prog w "internal/strconv.uint64pow10" .u64 Lib.pow10Tab) :
    Calls Tryd.prog 29 #[.int .i64 n] w fun e w' => e = .returned (.string ⟨(Lib.itoa n).toArray⟩) ∧ ∃ k os, w' = grow (w.drewN k) os := Any.strconv_Itoa Tryd.laysM171 n h0 h1 w htab
def Tryd.lays145_ren : Go.Shelf.Ren := ⟨fun | 145 => 22 | 220 => 36 | 219 => 43 | 217 => 47 | 225 => 48 | 224 => 49 | 267 => 50 | 266 => 56 | 314 => 57 | n => n, fun | 9 => 9 | 4 => 4 | 59 => 53 | 3 => 3 | 5 => 5 | 46 => 32 | 146 => 82 | 51 => 81 | n => n, fun | 1 => 0 | n => n⟩
theorem Tryd.lays145 : Go.Proofs.Lays.n145 Tryd.prog Tryd.lays145_ren := {
  mixed := by kernel_rfl
  f145 := Tryd.func22.trans (congrArg some (by kernel_rfl))
  f217 := Tryd.func47.trans (congrArg some (by kernel_rfl))
  f219 := Tryd.func43.trans (congrArg some (by kernel_rfl))
  f220 := Tryd.func36.trans (congrArg some (by kernel_rfl))
  f224 := Tryd.func49.trans (congrArg some (by kernel_rfl))
  f225 := Tryd.func48.trans (congrArg some (by kernel_rfl))
  f266 := Tryd.func56.trans (congrArg some (by kernel_rfl))
  f267 := Tryd.func50.trans (congrArg some (by kernel_rfl))
  f314 := Tryd.func57.trans (congrArg some (by kernel_rfl))
  t3 := Tryd.underlying3
  a3 := Tryd.isAgg3
  z3 := Tryd.sizeOf3
  v3 := Tryd.zeroValue3
  t4 := Tryd.underlying4
  a4 := Tryd.isAgg4
  z4 := Tryd.sizeOf4
  v4 := Tryd.zeroValue4
  t5 := Tryd.underlying5
  a5 := Tryd.isAgg5
  z5 := Tryd.sizeOf5
  v5 := Tryd.zeroValue5
  t9 := Tryd.underlying9
  a9 := Tryd.isAgg9
  z9 := Tryd.sizeOf9
  v9 := Tryd.zeroValue9
  t46 := Tryd.underlying32
  a46 := Tryd.isAgg32
  z46 := Tryd.sizeOf32
  v46 := Tryd.zeroValue32
  t51 := Tryd.underlying81
  a51 := Tryd.isAgg81
  z51 := Tryd.sizeOf81
  v51 := Tryd.zeroValue81
  t59 := Tryd.underlying53
  a59 := Tryd.isAgg53
  z59 := Tryd.sizeOf53
  v59 := Tryd.zeroValue53
  t146 := Tryd.underlying82
  a146 := Tryd.isAgg82
  z146 := Tryd.sizeOf82
  v146 := Tryd.zeroValue82
  g1 := by kernel_rfl }
open Go.RowKit Go.Lib in
/-- strings.Cut: "Cut slices s around the first instance of sep, returning the text before and after sep. The found result reports whether sep appears in s. If sep does not appear in s, cut returns s, "", false.": IT RETURNS 'Lib.cut s sep'; the world is as it was but for the count of draws. (LAID: no walk: one application.) -/
theorem Tryd.strings_Cut (s sep : ByteArray) (m : Int) (w : World) (hs : s.size < 4294967281) (hm : w.cell? ⟨0, 0, none⟩ = some (.int .i64 m)) :
    Calls Tryd.prog 22 #[.string s, .string sep] w fun e w' => e = .returned (.tuple #[.string ⟨(Lib.cut s.data.toList sep.data.toList).1.toArray⟩, .string ⟨(Lib.cut s.data.toList sep.data.toList).2.1.toArray⟩, .bool (Lib.cut s.data.toList sep.data.toList).2.2]) ∧ ∃ n, w' = w.drewN n := Any.strings_Cut Tryd.lays145 s sep m w hs hm
def Tryd.laysM145_ren : Go.Shelf.Ren := ⟨fun | 145 => 22 | 220 => 36 | 219 => 43 | 217 => 47 | 225 => 48 | 224 => 49 | 267 => 50 | 266 => 56 | 314 => 57 | n => n, fun | 9 => 9 | 4 => 4 | 59 => 53 | 3 => 3 | 5 => 5 | 46 => 32 | 146 => 82 | 51 => 81 | n => n, fun | 1 => 0 | n => n⟩
theorem Tryd.laysM145 : Go.Proofs.LaysM.n145 Tryd.prog Tryd.laysM145_ren := {
  mixed := by kernel_rfl
  f145 := Tryd.func22.trans (congrArg some (by kernel_rfl))
  f217 := Tryd.func47.trans (congrArg some (by kernel_rfl))
  f219 := Tryd.func43.trans (congrArg some (by kernel_rfl))
  f220 := Tryd.func36.trans (congrArg some (by kernel_rfl))
  f224 := Tryd.func49.trans (congrArg some (by kernel_rfl))
  f225 := Tryd.func48.trans (congrArg some (by kernel_rfl))
  f266 := Tryd.func56.trans (congrArg some (by kernel_rfl))
  f267 := Tryd.func50.trans (congrArg some (by kernel_rfl))
  f314 := Tryd.func57.trans (congrArg some (by kernel_rfl))
  t3 := Tryd.underlying3
  a3 := Tryd.isAgg3
  z3 := Tryd.sizeOf3
  v3 := Tryd.zeroValue3
  t4 := Tryd.underlying4
  a4 := Tryd.isAgg4
  z4 := Tryd.sizeOf4
  v4 := Tryd.zeroValue4
  t5 := Tryd.underlying5
  a5 := Tryd.isAgg5
  z5 := Tryd.sizeOf5
  v5 := Tryd.zeroValue5
  t9 := Tryd.underlying9
  a9 := Tryd.isAgg9
  z9 := Tryd.sizeOf9
  v9 := Tryd.zeroValue9
  t46 := Tryd.underlying32
  a46 := Tryd.isAgg32
  z46 := Tryd.sizeOf32
  v46 := Tryd.zeroValue32
  t51 := Tryd.underlying81
  a51 := Tryd.isAgg81
  z51 := Tryd.sizeOf81
  v51 := Tryd.zeroValue81
  t59 := Tryd.underlying53
  a59 := Tryd.isAgg53
  z59 := Tryd.sizeOf53
  v59 := Tryd.zeroValue53
  t146 := Tryd.underlying82
  a146 := Tryd.isAgg82
  z146 := Tryd.sizeOf82
  v146 := Tryd.zeroValue82
  g1 := by kernel_rfl
  i3 := by kernel_rfl
  i4 := by kernel_rfl
  i5 := by kernel_rfl
  i9 := by kernel_rfl
  i46 := by kernel_rfl
  i51 := by kernel_rfl
  i59 := by kernel_rfl
  i146 := by kernel_rfl
  m1 := by kernel_rfl
  s1_3 := fun w h => Go.Proofs.cell_of_shapedOpen_int (zero := #[.int .i64 0]) (t := 3) h (of_decide_eq_true (by kernel_rfl)) (by kernel_rfl) rfl (by kernel_rfl) (by kernel_rfl) Tryd.underlying3 }
end Go.Proofs
