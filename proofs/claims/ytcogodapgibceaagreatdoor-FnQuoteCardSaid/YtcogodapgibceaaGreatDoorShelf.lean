/-
  DERIVED: THE SHELF's CONTRACTS AT THIS DUMP, IN PLAIN WORDS (tools/lay-plain.mjs out of 'TryzShelf.lean', which tools/lay-shelf.mjs wrote): THE SAME DECLARATIONS UNDER THE SAME NAMES: 'import', 'namespace', 'open', 'def', 'theorem' AND NOTHING ELSE: no command of the shelf's: FOR A HAND-IN. Each laying: the table of numbers ('.._ren') and one theorem, a field a fact of the dump's own or the kernel's comparison; each contract: ONE APPLICATION.
-/
import Derived.Shelf.Strings.Builder1
import Derived.Shelf.Strings.Builder2
import Derived.Shelf.Strings.OnBuilder
import Derived.Shelf.Small.Utf8
import Derived.Shelf.Small.Wraps
import Derived.Shelf.Utf8.AppendRune
import Derived.Shelf.Strconv.Bsearch
import Derived.Shelf.Strconv.IsPrint
import Derived.Shelf.Strconv.IsPrint16
import Derived.Shelf.Strconv.IsPrint32
import Derived.Shelf.Strconv.Escaped
import Derived.Shelf.Strconv.Quoted
import Derived.Shelf.Strconv.Quote
import Derived.Shelf.Strconv.Itoa0
import Derived.Shelf.Strconv.Itoa1
import Derived.Shelf.LaysM
import Derived.Shelf.Strconv.Itoa2
import Derived.Shelf.Strconv.Itoa3
import Derived.Shelf.Strconv.Itoa4
import Derived.Shelf.Unicode.DecodeSlow
import Derived.Shelf.Unicode.DecodeAny
import Derived.Test.YtcogodapgibceaaGreatDoorProg
namespace Go.Proofs
open Go.Shelf
def Tryz.lays156_ren : Go.Shelf.Ren := ⟨fun | 156 => 23 | 165 => 26 | 166 => 27 | 169 => 28 | 240 => 36 | 241 => 37 | 276 => 45 | 277 => 46 | n => n, fun | 31 => 24 | 9 => 9 | 3 => 3 | 4 => 4 | 0 => 0 | 20 => 20 | 72 => 56 | 76 => 60 | 70 => 54 | 37 => 47 | 75 => 59 | 127 => 70 | 164 => 74 | 5 => 5 | 80 => 62 | n => n, fun | n => n⟩
theorem Tryz.lays156 : Go.Proofs.Lays.n156 Tryz.prog Tryz.lays156_ren := {
  mixed := by kernel_rfl
  f156 := Tryz.func23.trans (congrArg some (by kernel_rfl))
  f165 := Tryz.func26.trans (congrArg some (by kernel_rfl))
  f166 := Tryz.func27.trans (congrArg some (by kernel_rfl))
  f169 := Tryz.func28.trans (congrArg some (by kernel_rfl))
  f240 := Tryz.func36.trans (congrArg some (by kernel_rfl))
  f241 := Tryz.func37.trans (congrArg some (by kernel_rfl))
  f276 := Tryz.func45.trans (congrArg some (by kernel_rfl))
  f277 := Tryz.func46.trans (congrArg some (by kernel_rfl))
  t0 := Tryz.underlying0
  a0 := Tryz.isAgg0
  z0 := Tryz.sizeOf0
  v0 := Tryz.zeroValue0
  t3 := Tryz.underlying3
  a3 := Tryz.isAgg3
  z3 := Tryz.sizeOf3
  v3 := Tryz.zeroValue3
  t4 := Tryz.underlying4
  a4 := Tryz.isAgg4
  z4 := Tryz.sizeOf4
  v4 := Tryz.zeroValue4
  t9 := Tryz.underlying9
  a9 := Tryz.isAgg9
  z9 := Tryz.sizeOf9
  v9 := Tryz.zeroValue9
  t20 := Tryz.underlying20
  a20 := Tryz.isAgg20
  z20 := Tryz.sizeOf20
  v20 := Tryz.zeroValue20
  t31 := Tryz.underlying24
  a31 := Tryz.isAgg24
  z31 := Tryz.sizeOf24
  v31 := Tryz.zeroValue24
  t37 := Tryz.underlying47
  a37 := Tryz.isAgg47
  z37 := Tryz.sizeOf47
  v37 := Tryz.zeroValue47
  t70 := Tryz.underlying54
  a70 := Tryz.isAgg54
  z70 := Tryz.sizeOf54
  v70 := Tryz.zeroValue54
  t72 := Tryz.underlying56
  a72 := Tryz.isAgg56
  z72 := Tryz.sizeOf56
  v72 := Tryz.zeroValue56
  t75 := Tryz.underlying59
  a75 := Tryz.isAgg59
  z75 := Tryz.sizeOf59
  v75 := Tryz.zeroValue59
  t76 := Tryz.underlying60
  a76 := Tryz.isAgg60
  z76 := Tryz.sizeOf60
  v76 := Tryz.zeroValue60
  t127 := Tryz.underlying70
  a127 := Tryz.isAgg70
  z127 := Tryz.sizeOf70
  v127 := Tryz.zeroValue70
  t164 := Tryz.underlying74
  a164 := Tryz.isAgg74
  z164 := Tryz.sizeOf74
  v164 := Tryz.zeroValue74 }
theorem Tryz.Builder_Extra_156 : Builder.Extra Tryz.prog Tryz.lays156_ren := {
  sizeBuilder := by kernel_rfl
  liesBuilder := by kernel_rfl
  t5 := Tryz.underlying5
  a5 := Tryz.isAgg5
  z5 := Tryz.sizeOf5
  v5 := Tryz.zeroValue5
  infoByte := by kernel_rfl
  cellsByte := by kernel_rfl
  sizeByte := by kernel_rfl
  neB5 := by decide }
open Go.RowKit in
/-- No element: the empty string; the world is as it was. (Whatever the slice's address and capacity: a nil slice too.) (LAID: no walk: one application.) -/
theorem Tryz.strings_Join_none (a : Option Addr) (c : Nat) (sep : ByteArray) (w : World) :
    Calls Tryz.prog 23 #[.slice a 0 c, .string sep] w fun e w' => e = .returned (.string ⟨#[]⟩) ∧ w' = w := Any.strings_Join_none Tryz.lays156 Tryz.Builder_Extra_156 a c sep w
open Go.RowKit in
/-- strings.Join: "Join concatenates the elements of its first argument to create a single string. The separator string sep is placed between elements in the resulting string.": HOWEVER MANY ELEMENTS. Below the heap's end the world is as it was. (LAID: no walk: one application.) -/
theorem Tryz.strings_Join (bk o c : Nat) (xs : List ByteArray) (sep : ByteArray) (w : World) (hcells : ∀ (j : Nat) x, xs[j]? = some x → w.cell? ⟨bk, o + j, none⟩ = some (.string x)) (hbk : bk < w.heap.size) (hN : xs.length ≤ 140737488355328) (hcap : xs.length ≤ c) (hlen : (Lib.join (xs.map (·.data.toList)) sep.data.toList).length ≤ 140737488355328) :
    Calls Tryz.prog 23 #[.slice (some ⟨bk, o, none⟩) xs.length c, .string sep] w fun e w' => e = .returned (.string ⟨(Lib.join (xs.map (·.data.toList)) sep.data.toList).toArray⟩) ∧ Below w.heap.size w w' := Any.strings_Join Tryz.lays156 Tryz.Builder_Extra_156 bk o c xs sep w hcells hbk hN hcap hlen
def Tryz.lays121_ren : Go.Shelf.Ren := ⟨fun | 121 => 30 | 214 => 40 | n => n, fun | 4 => 4 | 9 => 9 | n => n, fun | n => n⟩
theorem Tryz.lays121 : Go.Proofs.Lays.n121 Tryz.prog Tryz.lays121_ren := {
  mixed := by kernel_rfl
  f121 := Tryz.func30.trans (congrArg some (by kernel_rfl))
  f214 := Tryz.func40.trans (congrArg some (by kernel_rfl))
  t4 := Tryz.underlying4
  a4 := Tryz.isAgg4
  z4 := Tryz.sizeOf4
  v4 := Tryz.zeroValue4
  t9 := Tryz.underlying9
  a9 := Tryz.isAgg9
  z9 := Tryz.sizeOf9
  v9 := Tryz.zeroValue9 }
open Go.RowKit in
/-- strconv.FormatBool: "FormatBool returns "true" or "false" according to the value of b.": IT RETURNS 'Lib.formatBool b'; the world is as it was. (LAID: no walk: one application.) -/
theorem Tryz.strconv_FormatBool (b : Bool) (w : World) :
    Calls Tryz.prog 30 #[.bool b] w fun e w' => e = .returned (.string ⟨(Lib.formatBool b).toArray⟩) ∧ w' = w := Any.strconv_FormatBool Tryz.lays121 b w
def Tryz.lays177_ren : Go.Shelf.Ren := ⟨fun | 177 => 21 | 250 => 24 | 289 => 29 | 197 => 38 | 323 => 39 | 260 => 47 | 339 => 48 | 340 => 49 | 242 => 50 | 119 => 51 | 345 => 60 | 346 => 61 | 278 => 62 | n => n, fun | 9 => 9 | 5 => 5 | 4 => 4 | 3 => 3 | 37 => 47 | 21 => 21 | 105 => 71 | 46 => 36 | 119 => 90 | 0 => 0 | 139 => 93 | 138 => 92 | 49 => 94 | 234 => 95 | 131 => 96 | 51 => 98 | 236 => 99 | n => n, fun | 3 => 1 | 4 => 2 | 20 => 3 | 21 => 4 | 22 => 5 | 23 => 6 | 24 => 7 | n => n⟩
theorem Tryz.lays177 : Go.Proofs.Lays.n177 Tryz.prog Tryz.lays177_ren := {
  mixed := by kernel_rfl
  f119 := Tryz.func51.trans (congrArg some (by kernel_rfl))
  f177 := Tryz.func21.trans (congrArg some (by kernel_rfl))
  f197 := Tryz.func38.trans (congrArg some (by kernel_rfl))
  f242 := Tryz.func50.trans (congrArg some (by kernel_rfl))
  f250 := Tryz.func24.trans (congrArg some (by kernel_rfl))
  f260 := Tryz.func47.trans (congrArg some (by kernel_rfl))
  f278 := Tryz.func62.trans (congrArg some (by kernel_rfl))
  f289 := Tryz.func29.trans (congrArg some (by kernel_rfl))
  f323 := Tryz.func39.trans (congrArg some (by kernel_rfl))
  f339 := Tryz.func48.trans (congrArg some (by kernel_rfl))
  f340 := Tryz.func49.trans (congrArg some (by kernel_rfl))
  f345 := Tryz.func60.trans (congrArg some (by kernel_rfl))
  f346 := Tryz.func61.trans (congrArg some (by kernel_rfl))
  t0 := Tryz.underlying0
  a0 := Tryz.isAgg0
  z0 := Tryz.sizeOf0
  v0 := Tryz.zeroValue0
  t3 := Tryz.underlying3
  a3 := Tryz.isAgg3
  z3 := Tryz.sizeOf3
  v3 := Tryz.zeroValue3
  t4 := Tryz.underlying4
  a4 := Tryz.isAgg4
  z4 := Tryz.sizeOf4
  v4 := Tryz.zeroValue4
  t5 := Tryz.underlying5
  a5 := Tryz.isAgg5
  z5 := Tryz.sizeOf5
  v5 := Tryz.zeroValue5
  t9 := Tryz.underlying9
  a9 := Tryz.isAgg9
  z9 := Tryz.sizeOf9
  v9 := Tryz.zeroValue9
  t21 := Tryz.underlying21
  a21 := Tryz.isAgg21
  z21 := Tryz.sizeOf21
  v21 := Tryz.zeroValue21
  t37 := Tryz.underlying47
  a37 := Tryz.isAgg47
  z37 := Tryz.sizeOf47
  v37 := Tryz.zeroValue47
  t46 := Tryz.underlying36
  a46 := Tryz.isAgg36
  z46 := Tryz.sizeOf36
  v46 := Tryz.zeroValue36
  t49 := Tryz.underlying94
  a49 := Tryz.isAgg94
  z49 := Tryz.sizeOf94
  v49 := Tryz.zeroValue94
  t51 := Tryz.underlying98
  a51 := Tryz.isAgg98
  z51 := Tryz.sizeOf98
  v51 := Tryz.zeroValue98
  t105 := Tryz.underlying71
  a105 := Tryz.isAgg71
  z105 := Tryz.sizeOf71
  v105 := Tryz.zeroValue71
  t119 := Tryz.underlying90
  a119 := Tryz.isAgg90
  z119 := Tryz.sizeOf90
  t131 := Tryz.underlying96
  a131 := Tryz.isAgg96
  z131 := Tryz.sizeOf96
  v131 := Tryz.zeroValue96
  t138 := Tryz.underlying92
  a138 := Tryz.isAgg92
  z138 := Tryz.sizeOf92
  v138 := Tryz.zeroValue92
  t139 := Tryz.underlying93
  a139 := Tryz.isAgg93
  z139 := Tryz.sizeOf93
  v139 := Tryz.zeroValue93
  t234 := Tryz.underlying95
  a234 := Tryz.isAgg95
  z234 := Tryz.sizeOf95
  v234 := Tryz.zeroValue95
  t236 := Tryz.underlying99
  a236 := Tryz.isAgg99
  z236 := Tryz.sizeOf99
  v236 := Tryz.zeroValue99
  g3 := by kernel_rfl
  g4 := by kernel_rfl
  g20 := by kernel_rfl
  g21 := by kernel_rfl
  g22 := by kernel_rfl
  g23 := by kernel_rfl
  g24 := by kernel_rfl }
open Go.RowKit in
/-- **strconv.Quote AT EVERY STRING, VALID UTF-8 OR NOT** (of at most some 2^43 bytes: ten bytes may come of one): 'strOfNums (Lib.quoteZ T s)': Derived/Lib/QuoteLoop.lean: a row of Lean a statement of Go. Of what was there nothing has turned. (LAID: no walk: one application.) -/
theorem Tryz.strconv_Quote (T : Lib.PrintTabs) (s : ByteArray) (w : World) (hlen : 10 * s.size + 12 ≤ 140737488355328) (hT : Lib.PrintTabsAt 3 4 5 6 T w) (hU : Lib.Utf8Tabs 1 2 w) :
    Calls Tryz.prog 21 #[.string s] w fun e w' => e = .returned (.string (strOfNums (Lib.quoteZ T s))) ∧ Below w.heap.size w w' := Any.strconv_Quote Tryz.lays177 (by kernel_rfl) T s w hlen hT hU
def Tryz.laysM171_ren : Go.Shelf.Ren := ⟨fun | 171 => 31 | 243 => 41 | 246 => 42 | 283 => 52 | 284 => 53 | 285 => 54 | 286 => 55 | 129 => 64 | 317 => 63 | 318 => 65 | 319 => 66 | 320 => 67 | 337 => 90 | 338 => 91 | n => n, fun | 3 => 3 | 9 => 9 | 2 => 2 | 4 => 4 | 171 => 79 | 0 => 0 | 53 => 80 | 37 => 47 | 5 => 5 | 173 => 83 | 212 => 103 | 51 => 98 | 20 => 20 | 213 => 104 | 46 => 36 | 232 => 111 | 233 => 151 | n => n, fun | 17 => 8 | 18 => 10 | 19 => 11 | n => n⟩
theorem Tryz.laysM171 : Go.Proofs.LaysM.n171 Tryz.prog Tryz.laysM171_ren := {
  mixed := by kernel_rfl
  f129 := Tryz.func64.trans (congrArg some (by kernel_rfl))
  f171 := Tryz.func31.trans (congrArg some (by kernel_rfl))
  f243 := Tryz.func41.trans (congrArg some (by kernel_rfl))
  f246 := Tryz.func42.trans (congrArg some (by kernel_rfl))
  f283 := Tryz.func52.trans (congrArg some (by kernel_rfl))
  f284 := Tryz.func53.trans (congrArg some (by kernel_rfl))
  f285 := Tryz.func54.trans (congrArg some (by kernel_rfl))
  f286 := Tryz.func55.trans (congrArg some (by kernel_rfl))
  f317 := Tryz.func63.trans (congrArg some (by kernel_rfl))
  f318 := Tryz.func65.trans (congrArg some (by kernel_rfl))
  f319 := Tryz.func66.trans (congrArg some (by kernel_rfl))
  f320 := Tryz.func67.trans (congrArg some (by kernel_rfl))
  f337 := Tryz.func90.trans (congrArg some (by kernel_rfl))
  f338 := Tryz.func91.trans (congrArg some (by kernel_rfl))
  t0 := Tryz.underlying0
  a0 := Tryz.isAgg0
  z0 := Tryz.sizeOf0
  v0 := Tryz.zeroValue0
  t2 := Tryz.underlying2
  a2 := Tryz.isAgg2
  z2 := Tryz.sizeOf2
  v2 := Tryz.zeroValue2
  t3 := Tryz.underlying3
  a3 := Tryz.isAgg3
  z3 := Tryz.sizeOf3
  v3 := Tryz.zeroValue3
  t4 := Tryz.underlying4
  a4 := Tryz.isAgg4
  z4 := Tryz.sizeOf4
  v4 := Tryz.zeroValue4
  t5 := Tryz.underlying5
  a5 := Tryz.isAgg5
  z5 := Tryz.sizeOf5
  v5 := Tryz.zeroValue5
  t9 := Tryz.underlying9
  a9 := Tryz.isAgg9
  z9 := Tryz.sizeOf9
  v9 := Tryz.zeroValue9
  t20 := Tryz.underlying20
  a20 := Tryz.isAgg20
  z20 := Tryz.sizeOf20
  v20 := Tryz.zeroValue20
  t37 := Tryz.underlying47
  a37 := Tryz.isAgg47
  z37 := Tryz.sizeOf47
  v37 := Tryz.zeroValue47
  t46 := Tryz.underlying36
  a46 := Tryz.isAgg36
  z46 := Tryz.sizeOf36
  v46 := Tryz.zeroValue36
  t51 := Tryz.underlying98
  a51 := Tryz.isAgg98
  z51 := Tryz.sizeOf98
  v51 := Tryz.zeroValue98
  t53 := Tryz.underlying80
  a53 := Tryz.isAgg80
  z53 := Tryz.sizeOf80
  v53 := Tryz.zeroValue80
  t171 := Tryz.underlying79
  a171 := Tryz.isAgg79
  z171 := Tryz.sizeOf79
  v171 := Tryz.zeroValue79
  t173 := Tryz.underlying83
  a173 := Tryz.isAgg83
  z173 := Tryz.sizeOf83
  v173 := Tryz.zeroValue83
  t212 := Tryz.underlying103
  a212 := Tryz.isAgg103
  z212 := Tryz.sizeOf103
  v212 := Tryz.zeroValue103
  t213 := Tryz.underlying104
  a213 := Tryz.isAgg104
  z213 := Tryz.sizeOf104
  t232 := Tryz.underlying111
  a232 := Tryz.isAgg111
  z232 := Tryz.sizeOf111
  v232 := Tryz.zeroValue111
  t233 := Tryz.underlying151
  a233 := Tryz.isAgg151
  z233 := Tryz.sizeOf151
  v233 := Tryz.zeroValue151
  g17 := by kernel_rfl
  g18 := by kernel_rfl
  g19 := by kernel_rfl
  i0 := by kernel_rfl
  i2 := by kernel_rfl
  i3 := by kernel_rfl
  i4 := by kernel_rfl
  i5 := by kernel_rfl
  i9 := by kernel_rfl
  i20 := by kernel_rfl
  i37 := by kernel_rfl
  i46 := by kernel_rfl
  i51 := by kernel_rfl
  i53 := by kernel_rfl
  i171 := by kernel_rfl
  i173 := by kernel_rfl
  i212 := by kernel_rfl
  i232 := by kernel_rfl
  i233 := by kernel_rfl
  m17 := by kernel_rfl
  m18 := by kernel_rfl
  m19 := by kernel_rfl }
open Go.RowKit Go.Sort Go.Lib in
/-- strconv.Itoa: "Itoa is equivalent to FormatInt(int64(i), 10).": i's DECIMAL NUMERAL ('Lib.itoa': a '-' where i is negative, then the digits), FOR EVERY int. The world behind the call: the world before it, new blocks behind the heap (the library's 'var a [24]byte'), draws. (LAID: no walk: one application.) -/
theorem Tryz.strconv_Itoa (n : Int) (h0 : -9223372036854775808 ≤ n) (h1 : n ≤ 9223372036854775807) (w : World) (htab : Lib.TabIs Tryz.prog w "internal/strconv.uint64pow10" .u64 Lib.pow10Tab) :
    Calls Tryz.prog 31 #[.int .i64 n] w fun e w' => e = .returned (.string ⟨(Lib.itoa n).toArray⟩) ∧ ∃ k os, w' = grow (w.drewN k) os := Any.strconv_Itoa Tryz.laysM171 n h0 h1 w htab
def Tryz.laysM173_ren : Go.Shelf.Ren := ⟨fun | 173 => 32 | 246 => 42 | 283 => 52 | 284 => 53 | 285 => 54 | 286 => 55 | 129 => 64 | 317 => 63 | 318 => 65 | 319 => 66 | 320 => 67 | 337 => 90 | 338 => 91 | n => n, fun | 2 => 2 | 3 => 3 | 9 => 9 | 4 => 4 | 171 => 79 | 0 => 0 | 53 => 80 | 37 => 47 | 5 => 5 | 173 => 83 | 212 => 103 | 51 => 98 | 20 => 20 | 213 => 104 | 46 => 36 | 232 => 111 | 233 => 151 | n => n, fun | 17 => 8 | 18 => 10 | 19 => 11 | n => n⟩
theorem Tryz.laysM173 : Go.Proofs.LaysM.n173 Tryz.prog Tryz.laysM173_ren := {
  mixed := by kernel_rfl
  f129 := Tryz.func64.trans (congrArg some (by kernel_rfl))
  f173 := Tryz.func32.trans (congrArg some (by kernel_rfl))
  f246 := Tryz.func42.trans (congrArg some (by kernel_rfl))
  f283 := Tryz.func52.trans (congrArg some (by kernel_rfl))
  f284 := Tryz.func53.trans (congrArg some (by kernel_rfl))
  f285 := Tryz.func54.trans (congrArg some (by kernel_rfl))
  f286 := Tryz.func55.trans (congrArg some (by kernel_rfl))
  f317 := Tryz.func63.trans (congrArg some (by kernel_rfl))
  f318 := Tryz.func65.trans (congrArg some (by kernel_rfl))
  f319 := Tryz.func66.trans (congrArg some (by kernel_rfl))
  f320 := Tryz.func67.trans (congrArg some (by kernel_rfl))
  f337 := Tryz.func90.trans (congrArg some (by kernel_rfl))
  f338 := Tryz.func91.trans (congrArg some (by kernel_rfl))
  t0 := Tryz.underlying0
  a0 := Tryz.isAgg0
  z0 := Tryz.sizeOf0
  v0 := Tryz.zeroValue0
  t2 := Tryz.underlying2
  a2 := Tryz.isAgg2
  z2 := Tryz.sizeOf2
  v2 := Tryz.zeroValue2
  t3 := Tryz.underlying3
  a3 := Tryz.isAgg3
  z3 := Tryz.sizeOf3
  v3 := Tryz.zeroValue3
  t4 := Tryz.underlying4
  a4 := Tryz.isAgg4
  z4 := Tryz.sizeOf4
  v4 := Tryz.zeroValue4
  t5 := Tryz.underlying5
  a5 := Tryz.isAgg5
  z5 := Tryz.sizeOf5
  v5 := Tryz.zeroValue5
  t9 := Tryz.underlying9
  a9 := Tryz.isAgg9
  z9 := Tryz.sizeOf9
  v9 := Tryz.zeroValue9
  t20 := Tryz.underlying20
  a20 := Tryz.isAgg20
  z20 := Tryz.sizeOf20
  v20 := Tryz.zeroValue20
  t37 := Tryz.underlying47
  a37 := Tryz.isAgg47
  z37 := Tryz.sizeOf47
  v37 := Tryz.zeroValue47
  t46 := Tryz.underlying36
  a46 := Tryz.isAgg36
  z46 := Tryz.sizeOf36
  v46 := Tryz.zeroValue36
  t51 := Tryz.underlying98
  a51 := Tryz.isAgg98
  z51 := Tryz.sizeOf98
  v51 := Tryz.zeroValue98
  t53 := Tryz.underlying80
  a53 := Tryz.isAgg80
  z53 := Tryz.sizeOf80
  v53 := Tryz.zeroValue80
  t171 := Tryz.underlying79
  a171 := Tryz.isAgg79
  z171 := Tryz.sizeOf79
  v171 := Tryz.zeroValue79
  t173 := Tryz.underlying83
  a173 := Tryz.isAgg83
  z173 := Tryz.sizeOf83
  v173 := Tryz.zeroValue83
  t212 := Tryz.underlying103
  a212 := Tryz.isAgg103
  z212 := Tryz.sizeOf103
  v212 := Tryz.zeroValue103
  t213 := Tryz.underlying104
  a213 := Tryz.isAgg104
  z213 := Tryz.sizeOf104
  t232 := Tryz.underlying111
  a232 := Tryz.isAgg111
  z232 := Tryz.sizeOf111
  v232 := Tryz.zeroValue111
  t233 := Tryz.underlying151
  a233 := Tryz.isAgg151
  z233 := Tryz.sizeOf151
  v233 := Tryz.zeroValue151
  g17 := by kernel_rfl
  g18 := by kernel_rfl
  g19 := by kernel_rfl
  i0 := by kernel_rfl
  i2 := by kernel_rfl
  i3 := by kernel_rfl
  i4 := by kernel_rfl
  i5 := by kernel_rfl
  i9 := by kernel_rfl
  i20 := by kernel_rfl
  i37 := by kernel_rfl
  i46 := by kernel_rfl
  i51 := by kernel_rfl
  i53 := by kernel_rfl
  i171 := by kernel_rfl
  i173 := by kernel_rfl
  i212 := by kernel_rfl
  i232 := by kernel_rfl
  i233 := by kernel_rfl
  m17 := by kernel_rfl
  m18 := by kernel_rfl
  m19 := by kernel_rfl }
open Go.RowKit Go.Sort Go.Lib in
/-- strconv.FormatInt: "FormatInt returns the string representation of i in the given base": AT BASE 10: i's decimal numeral, for every int64. (LAID: no walk: one application.) -/
theorem Tryz.strconv_FormatInt_10 (n : Int) (h0 : -9223372036854775808 ≤ n) (h1 : n ≤ 9223372036854775807) (w : World) (htab : Lib.TabIs Tryz.prog w "internal/strconv.uint64pow10" .u64 Lib.pow10Tab) :
    Calls Tryz.prog 32 #[.int .i64 n, .int .i64 10] w fun e w' => e = .returned (.string ⟨(Lib.itoa n).toArray⟩) ∧ ∃ k os, w' = grow (w.drewN k) os := Any.strconv_FormatInt_10 Tryz.laysM173 n h0 h1 w htab
end Go.Proofs
