/-
  DERIVED: THE SHELF's CONTRACTS AT THIS DUMP, IN PLAIN WORDS (tools/lay-plain.mjs out of 'TrydShelf.lean', which tools/lay-shelf.mjs wrote): THE SAME DECLARATIONS UNDER THE SAME NAMES: 'import', 'namespace', 'open', 'def', 'theorem' AND NOTHING ELSE: no command of the shelf's: FOR A HAND-IN. Each laying: the table of numbers ('.._ren') and one theorem, a field a fact of the dump's own or the kernel's comparison; each contract: ONE APPLICATION.
-/
import Derived.Shelf.SlGeneric
import Derived.Shelf.Strings.OnBuilder
import Derived.Shelf.Strings.TrimSpace
import Derived.Shelf.Sort.Plain
import Derived.Shelf.Slices.Equal
import Derived.Shelf.Slices.In.SortNone
import Derived.Shelf.Slices.Empties2
import Derived.Shelf.SlicesE.Clone
import Derived.Shelf.SlicesQ.IndexFunc
import Derived.Shelf.SlicesQ.Reverse
import Derived.Ground.SlgnProg
import Derived.Ground.SlgfProg
import Derived.Test.YtoegdojeajeoaaaDoorProg
namespace Go.Proofs
open Go.Shelf
def Tryd.lays156_ren : Go.Shelf.Ren := ⟨fun | 156 => 20 | 165 => 28 | 166 => 29 | 169 => 30 | 240 => 35 | 241 => 36 | 276 => 55 | 277 => 56 | n => n, fun | 31 => 32 | 9 => 9 | 3 => 3 | 4 => 4 | 0 => 0 | 20 => 20 | 72 => 54 | 76 => 58 | 70 => 52 | 37 => 22 | 75 => 57 | 127 => 70 | 164 => 87 | 5 => 5 | 80 => 60 | n => n, fun | n => n⟩
theorem Tryd.lays156 : Go.Proofs.Lays.n156 Tryd.prog Tryd.lays156_ren := {
  mixed := by kernel_rfl
  f156 := Tryd.func20.trans (congrArg some (by kernel_rfl))
  f165 := Tryd.func28.trans (congrArg some (by kernel_rfl))
  f166 := Tryd.func29.trans (congrArg some (by kernel_rfl))
  f169 := Tryd.func30.trans (congrArg some (by kernel_rfl))
  f240 := Tryd.func35.trans (congrArg some (by kernel_rfl))
  f241 := Tryd.func36.trans (congrArg some (by kernel_rfl))
  f276 := Tryd.func55.trans (congrArg some (by kernel_rfl))
  f277 := Tryd.func56.trans (congrArg some (by kernel_rfl))
  t0 := Tryd.underlying0
  a0 := Tryd.isAgg0
  z0 := Tryd.sizeOf0
  v0 := Tryd.zeroValue0
  t3 := Tryd.underlying3
  a3 := Tryd.isAgg3
  z3 := Tryd.sizeOf3
  v3 := Tryd.zeroValue3
  t4 := Tryd.underlying4
  a4 := Tryd.isAgg4
  z4 := Tryd.sizeOf4
  v4 := Tryd.zeroValue4
  t9 := Tryd.underlying9
  a9 := Tryd.isAgg9
  z9 := Tryd.sizeOf9
  v9 := Tryd.zeroValue9
  t20 := Tryd.underlying20
  a20 := Tryd.isAgg20
  z20 := Tryd.sizeOf20
  v20 := Tryd.zeroValue20
  t31 := Tryd.underlying32
  a31 := Tryd.isAgg32
  z31 := Tryd.sizeOf32
  v31 := Tryd.zeroValue32
  t37 := Tryd.underlying22
  a37 := Tryd.isAgg22
  z37 := Tryd.sizeOf22
  v37 := Tryd.zeroValue22
  t70 := Tryd.underlying52
  a70 := Tryd.isAgg52
  z70 := Tryd.sizeOf52
  v70 := Tryd.zeroValue52
  t72 := Tryd.underlying54
  a72 := Tryd.isAgg54
  z72 := Tryd.sizeOf54
  v72 := Tryd.zeroValue54
  t75 := Tryd.underlying57
  a75 := Tryd.isAgg57
  z75 := Tryd.sizeOf57
  v75 := Tryd.zeroValue57
  t76 := Tryd.underlying58
  a76 := Tryd.isAgg58
  z76 := Tryd.sizeOf58
  v76 := Tryd.zeroValue58
  t127 := Tryd.underlying70
  a127 := Tryd.isAgg70
  z127 := Tryd.sizeOf70
  v127 := Tryd.zeroValue70
  t164 := Tryd.underlying87
  a164 := Tryd.isAgg87
  z164 := Tryd.sizeOf87
  v164 := Tryd.zeroValue87 }
theorem Tryd.Builder_Extra_156 : Builder.Extra Tryd.prog Tryd.lays156_ren := {
  sizeBuilder := by kernel_rfl
  liesBuilder := by kernel_rfl
  t5 := Tryd.underlying5
  a5 := Tryd.isAgg5
  z5 := Tryd.sizeOf5
  v5 := Tryd.zeroValue5
  infoByte := by kernel_rfl
  cellsByte := by kernel_rfl
  sizeByte := by kernel_rfl
  neB5 := by decide }
open Go.RowKit in
/-- No element: the empty string; the world is as it was. (Whatever the slice's address and capacity: a nil slice too.) (LAID: no walk: one application.) -/
theorem Tryd.strings_Join_none (a : Option Addr) (c : Nat) (sep : ByteArray) (w : World) :
    Calls Tryd.prog 20 #[.slice a 0 c, .string sep] w fun e w' => e = .returned (.string ⟨#[]⟩) ∧ w' = w := Any.strings_Join_none Tryd.lays156 Tryd.Builder_Extra_156 a c sep w
open Go.RowKit in
/-- strings.Join: "Join concatenates the elements of its first argument to create a single string. The separator string sep is placed between elements in the resulting string.": HOWEVER MANY ELEMENTS. Below the heap's end the world is as it was. (LAID: no walk: one application.) -/
theorem Tryd.strings_Join (bk o c : Nat) (xs : List ByteArray) (sep : ByteArray) (w : World) (hcells : ∀ (j : Nat) x, xs[j]? = some x → w.cell? ⟨bk, o + j, none⟩ = some (.string x)) (hbk : bk < w.heap.size) (hN : xs.length ≤ 140737488355328) (hcap : xs.length ≤ c) (hlen : (Lib.join (xs.map (·.data.toList)) sep.data.toList).length ≤ 140737488355328) :
    Calls Tryd.prog 20 #[.slice (some ⟨bk, o, none⟩) xs.length c, .string sep] w fun e w' => e = .returned (.string ⟨(Lib.join (xs.map (·.data.toList)) sep.data.toList).toArray⟩) ∧ Below w.heap.size w w' := Any.strings_Join Tryd.lays156 Tryd.Builder_Extra_156 bk o c xs sep w hcells hbk hN hcap hlen
def Tryd.lays163_ren : Go.Shelf.Ren := ⟨fun | 163 => 59 | 237 => 68 | 199 => 69 | 238 => 70 | 272 => 73 | 261 => 74 | 273 => 75 | 197 => 76 | 315 => 77 | 311 => 78 | 312 => 79 | 271 => 80 | 260 => 81 | 120 => 82 | n => n, fun | 9 => 9 | 37 => 22 | 3 => 3 | 0 => 0 | 5 => 5 | 4 => 4 | 40 => 103 | 119 => 104 | 21 => 21 | 51 => 84 | 141 => 110 | 105 => 112 | 196 => 117 | 193 => 114 | 198 => 120 | 49 => 118 | 194 => 115 | 201 => 123 | 226 => 125 | 46 => 69 | 227 => 126 | 139 => 129 | 138 => 128 | n => n, fun | 0 => 1 | 6 => 2 | 3 => 3 | 4 => 4 | n => n⟩
theorem Tryd.lays163 : Go.Proofs.Lays.n163 Tryd.prog Tryd.lays163_ren := {
  mixed := by kernel_rfl
  f120 := Tryd.func82.trans (congrArg some (by kernel_rfl))
  f163 := Tryd.func59.trans (congrArg some (by kernel_rfl))
  f197 := Tryd.func76.trans (congrArg some (by kernel_rfl))
  f199 := Tryd.func69.trans (congrArg some (by kernel_rfl))
  f237 := Tryd.func68.trans (congrArg some (by kernel_rfl))
  f238 := Tryd.func70.trans (congrArg some (by kernel_rfl))
  f260 := Tryd.func81.trans (congrArg some (by kernel_rfl))
  f261 := Tryd.func74.trans (congrArg some (by kernel_rfl))
  f271 := Tryd.func80.trans (congrArg some (by kernel_rfl))
  f272 := Tryd.func73.trans (congrArg some (by kernel_rfl))
  f273 := Tryd.func75.trans (congrArg some (by kernel_rfl))
  f311 := Tryd.func78.trans (congrArg some (by kernel_rfl))
  f312 := Tryd.func79.trans (congrArg some (by kernel_rfl))
  f315 := Tryd.func77.trans (congrArg some (by kernel_rfl))
  t0 := Tryd.underlying0
  a0 := Tryd.isAgg0
  z0 := Tryd.sizeOf0
  v0 := Tryd.zeroValue0
  t3 := Tryd.underlying3
  a3 := Tryd.isAgg3
  z3 := Tryd.sizeOf3
  v3 := Tryd.zeroValue3
  t4 := Tryd.underlying4
  a4 := Tryd.isAgg4
  z4 := Tryd.sizeOf4
  v4 := Tryd.zeroValue4
  t5 := Tryd.underlying5
  a5 := Tryd.isAgg5
  z5 := Tryd.sizeOf5
  v5 := Tryd.zeroValue5
  t9 := Tryd.underlying9
  a9 := Tryd.isAgg9
  z9 := Tryd.sizeOf9
  v9 := Tryd.zeroValue9
  t21 := Tryd.underlying21
  a21 := Tryd.isAgg21
  z21 := Tryd.sizeOf21
  v21 := Tryd.zeroValue21
  t37 := Tryd.underlying22
  a37 := Tryd.isAgg22
  z37 := Tryd.sizeOf22
  v37 := Tryd.zeroValue22
  t40 := Tryd.underlying103
  a40 := Tryd.isAgg103
  z40 := Tryd.sizeOf103
  v40 := Tryd.zeroValue103
  t46 := Tryd.underlying69
  a46 := Tryd.isAgg69
  z46 := Tryd.sizeOf69
  v46 := Tryd.zeroValue69
  t49 := Tryd.underlying118
  a49 := Tryd.isAgg118
  z49 := Tryd.sizeOf118
  v49 := Tryd.zeroValue118
  t51 := Tryd.underlying84
  a51 := Tryd.isAgg84
  z51 := Tryd.sizeOf84
  v51 := Tryd.zeroValue84
  t105 := Tryd.underlying112
  a105 := Tryd.isAgg112
  z105 := Tryd.sizeOf112
  v105 := Tryd.zeroValue112
  t119 := Tryd.underlying104
  a119 := Tryd.isAgg104
  z119 := Tryd.sizeOf104
  t138 := Tryd.underlying128
  a138 := Tryd.isAgg128
  z138 := Tryd.sizeOf128
  v138 := Tryd.zeroValue128
  t139 := Tryd.underlying129
  a139 := Tryd.isAgg129
  z139 := Tryd.sizeOf129
  v139 := Tryd.zeroValue129
  t141 := Tryd.underlying110
  a141 := Tryd.isAgg110
  z141 := Tryd.sizeOf110
  v141 := Tryd.zeroValue110
  t193 := Tryd.underlying114
  a193 := Tryd.isAgg114
  z193 := Tryd.sizeOf114
  v193 := Tryd.zeroValue114
  t194 := Tryd.underlying115
  a194 := Tryd.isAgg115
  z194 := Tryd.sizeOf115
  v194 := Tryd.zeroValue115
  t196 := Tryd.underlying117
  a196 := Tryd.isAgg117
  z196 := Tryd.sizeOf117
  v196 := Tryd.zeroValue117
  t198 := Tryd.underlying120
  a198 := Tryd.isAgg120
  z198 := Tryd.sizeOf120
  v198 := Tryd.zeroValue120
  t201 := Tryd.underlying123
  a201 := Tryd.isAgg123
  z201 := Tryd.sizeOf123
  v201 := Tryd.zeroValue123
  t226 := Tryd.underlying125
  a226 := Tryd.isAgg125
  z226 := Tryd.sizeOf125
  v226 := Tryd.zeroValue125
  t227 := Tryd.underlying126
  a227 := Tryd.isAgg126
  z227 := Tryd.sizeOf126
  v227 := Tryd.zeroValue126
  g0 := by kernel_rfl
  g3 := by kernel_rfl
  g4 := by kernel_rfl
  g6 := by kernel_rfl }
theorem Tryd.Space_Extra_163 : Space.Extra Tryd.prog Tryd.lays163_ren := {
  gNamed := by kernel_rfl }
open Go.RowKit in
theorem Tryd.strings_TrimSpace (s : ByteArray) (w : World) (hs : s.size ≤ 9223372036854775807) (hascii : ∀ (j : Nat) b, s.data.toList[j]? = some b → b.toNat < 128) (htab : Lib.TabIs Tryd.prog w "strings.asciiSpace" .u8 Lib.asciiSpaceTab) :
    Calls Tryd.prog 59 #[.string s] w fun e w' => e = .returned (.string ⟨(Lib.trimSpace s.data.toList).toArray⟩) ∧ w' = Lib.bytesWorld w 5 s := Any.strings_TrimSpace Tryd.lays163 Tryd.Space_Extra_163 s w hs hascii htab
def Tryd.lays190_ren : Go.Shelf.Ren := ⟨fun | 190 => 23 | 125 => 34 | 258 => 33 | 128 => 53 | 129 => 54 | 302 => 44 | 303 => 45 | 304 => 46 | 305 => 47 | 306 => 48 | 307 => 49 | 308 => 50 | 309 => 51 | 310 => 52 | 333 => 62 | 329 => 63 | 330 => 64 | 334 => 65 | 335 => 66 | 336 => 67 | 344 => 72 | n => n, fun | 31 => 32 | 9 => 9 | 3 => 3 | 46 => 69 | 0 => 0 | 51 => 84 | 53 => 86 | 4 => 4 | 183 => 77 | 182 => 76 | 131 => 81 | 5 => 5 | 218 => 96 | 222 => 100 | 228 => 106 | 229 => 107 | n => n, fun | n => n⟩
theorem Tryd.lays190 : Go.Proofs.Lays.n190 Tryd.prog Tryd.lays190_ren := {
  mixed := by kernel_rfl
  f125 := Tryd.func34.trans (congrArg some (by kernel_rfl))
  f128 := Tryd.func53.trans (congrArg some (by kernel_rfl))
  f129 := Tryd.func54.trans (congrArg some (by kernel_rfl))
  f190 := Tryd.func23.trans (congrArg some (by kernel_rfl))
  f258 := Tryd.func33.trans (congrArg some (by kernel_rfl))
  f302 := Tryd.func44.trans (congrArg some (by kernel_rfl))
  f303 := Tryd.func45.trans (congrArg some (by kernel_rfl))
  f304 := Tryd.func46.trans (congrArg some (by kernel_rfl))
  f305 := Tryd.func47.trans (congrArg some (by kernel_rfl))
  f306 := Tryd.func48.trans (congrArg some (by kernel_rfl))
  f307 := Tryd.func49.trans (congrArg some (by kernel_rfl))
  f308 := Tryd.func50.trans (congrArg some (by kernel_rfl))
  f309 := Tryd.func51.trans (congrArg some (by kernel_rfl))
  f310 := Tryd.func52.trans (congrArg some (by kernel_rfl))
  f329 := Tryd.func63.trans (congrArg some (by kernel_rfl))
  f330 := Tryd.func64.trans (congrArg some (by kernel_rfl))
  f333 := Tryd.func62.trans (congrArg some (by kernel_rfl))
  f334 := Tryd.func65.trans (congrArg some (by kernel_rfl))
  f335 := Tryd.func66.trans (congrArg some (by kernel_rfl))
  f336 := Tryd.func67.trans (congrArg some (by kernel_rfl))
  f344 := Tryd.func72.trans (congrArg some (by kernel_rfl))
  t0 := Tryd.underlying0
  a0 := Tryd.isAgg0
  z0 := Tryd.sizeOf0
  v0 := Tryd.zeroValue0
  t3 := Tryd.underlying3
  a3 := Tryd.isAgg3
  z3 := Tryd.sizeOf3
  v3 := Tryd.zeroValue3
  t4 := Tryd.underlying4
  a4 := Tryd.isAgg4
  z4 := Tryd.sizeOf4
  v4 := Tryd.zeroValue4
  t5 := Tryd.underlying5
  a5 := Tryd.isAgg5
  z5 := Tryd.sizeOf5
  v5 := Tryd.zeroValue5
  t9 := Tryd.underlying9
  a9 := Tryd.isAgg9
  z9 := Tryd.sizeOf9
  v9 := Tryd.zeroValue9
  t31 := Tryd.underlying32
  a31 := Tryd.isAgg32
  z31 := Tryd.sizeOf32
  v31 := Tryd.zeroValue32
  t46 := Tryd.underlying69
  a46 := Tryd.isAgg69
  z46 := Tryd.sizeOf69
  v46 := Tryd.zeroValue69
  t51 := Tryd.underlying84
  a51 := Tryd.isAgg84
  z51 := Tryd.sizeOf84
  v51 := Tryd.zeroValue84
  t53 := Tryd.underlying86
  a53 := Tryd.isAgg86
  z53 := Tryd.sizeOf86
  v53 := Tryd.zeroValue86
  t131 := Tryd.underlying81
  a131 := Tryd.isAgg81
  z131 := Tryd.sizeOf81
  v131 := Tryd.zeroValue81
  t182 := Tryd.underlying76
  a182 := Tryd.isAgg76
  z182 := Tryd.sizeOf76
  v182 := Tryd.zeroValue76
  t183 := Tryd.underlying77
  a183 := Tryd.isAgg77
  z183 := Tryd.sizeOf77
  v183 := Tryd.zeroValue77
  t218 := Tryd.underlying96
  a218 := Tryd.isAgg96
  z218 := Tryd.sizeOf96
  v218 := Tryd.zeroValue96
  t222 := Tryd.underlying100
  a222 := Tryd.isAgg100
  z222 := Tryd.sizeOf100
  v222 := Tryd.zeroValue100
  t228 := Tryd.underlying106
  a228 := Tryd.isAgg106
  z228 := Tryd.sizeOf106
  v228 := Tryd.zeroValue106
  t229 := Tryd.underlying107
  a229 := Tryd.isAgg107
  z229 := Tryd.sizeOf107
  v229 := Tryd.zeroValue107 }
open Go.Sort Go.RowKit in
theorem Tryd.slices_Sort_string (blk off cap : Nat) (ss : List (List UInt8)) (w : World) (hH : Holds encStr w blk off ss.toArray) (hblk : blk < w.heap.size) (hsz : ss.length < 4611686018427387904) :
    Calls Tryd.prog 23 #[.slice (some ⟨blk, off, none⟩) ss.length cap] w fun e w' =>
      e = .returned (.tuple #[]) ∧ ∃ n os, w' = grow (putRow encStr (Sort.ahead w n) blk off (ss.mergeSort fun x y => decide (x ≤ y)).toArray) os := Any.slices_Sort_string Tryd.lays190 blk off cap ss w hH hblk hsz
def Tryd.lays193_ren : Go.Shelf.Ren := ⟨fun | 193 => 24 | n => n, fun | 31 => 32 | 9 => 9 | 4 => 4 | 3 => 3 | 0 => 0 | n => n, fun | n => n⟩
theorem Tryd.lays193 : Go.Proofs.Lays.n193 Tryd.prog Tryd.lays193_ren := {
  mixed := by kernel_rfl
  f193 := Tryd.func24.trans (congrArg some (by kernel_rfl))
  t0 := Tryd.underlying0
  a0 := Tryd.isAgg0
  z0 := Tryd.sizeOf0
  v0 := Tryd.zeroValue0
  t3 := Tryd.underlying3
  a3 := Tryd.isAgg3
  z3 := Tryd.sizeOf3
  v3 := Tryd.zeroValue3
  t4 := Tryd.underlying4
  a4 := Tryd.isAgg4
  z4 := Tryd.sizeOf4
  v4 := Tryd.zeroValue4
  t9 := Tryd.underlying9
  a9 := Tryd.isAgg9
  z9 := Tryd.sizeOf9
  v9 := Tryd.zeroValue9
  t31 := Tryd.underlying32
  a31 := Tryd.isAgg32
  z31 := Tryd.sizeOf32
  v31 := Tryd.zeroValue32 }
open Go.RowKit Go.Lib in
/-- slices.Equal at []string: "Equal reports whether two slices are equal: the same length and all elements equal. If the lengths are different, Equal returns false. Otherwise, the elements are compared in increasing index order, and the comparison stops at the first unequal pair. Empty and nil slices are considered equal.": IT RETURNS WHETHER THE TWO LISTS OF ELEMENTS ARE ONE; the world is as it was but for the count of draws (the test 's1[i] != s2[i]' has two reads, whose order the model draws, once a round). 'xs', 'ys': what the cells behind the two addresses hold (the spare capacity too, if you have it); 'xs.take n', 'ys.take m': the elements. THE TWO SLICES MAY OVERLAP. (LAID: no walk: one application.) -/
theorem Tryd.slices_Equal_string (b1 o1 n c b2 o2 m d : Nat) (xs ys : List ByteArray) (w : World) (hx : n ≤ xs.length) (hy : m ≤ ys.length) (hbig : n ≤ 9223372036854775807) (hbig2 : m ≤ 9223372036854775807) (hc1 : ∀ j, j < xs.length → w.cell? ⟨b1, o1 + j, none⟩ = some (.string (xs.getD j ByteArray.empty))) (hc2 : ∀ j, j < ys.length → w.cell? ⟨b2, o2 + j, none⟩ = some (.string (ys.getD j ByteArray.empty))) :
    Calls Tryd.prog 24 #[.slice (some ⟨b1, o1, none⟩) n c, .slice (some ⟨b2, o2, none⟩) m d] w fun e w' => e = .returned (.bool (decide (xs.take n = ys.take m))) ∧ ∃ q, w' = w.drewN q := Any.slices_Equal_string Tryd.lays193 b1 o1 n c b2 o2 m d xs ys w hx hy hbig hbig2 hc1 hc2
open Go.RowKit Go.Lib in
/-- The same where the first is of length 0 (a nil one too): no cell is asked for. (LAID: no walk: one application.) -/
theorem Tryd.slices_Equal_string_empty (a1 a2 : Option Addr) (c m d : Nat) (w : World) (hbig2 : m ≤ 9223372036854775807) :
    Calls Tryd.prog 24 #[.slice a1 0 c, .slice a2 m d] w fun e w' => e = .returned (.bool (decide (m = 0))) ∧ w' = w := Any.slices_Equal_string_empty Tryd.lays193 a1 a2 c m d w hbig2
open Go.RowKit Go.Sort in
/-- .. and plain. (LAID: no walk: one application.) -/
theorem Tryd.slices_Sort_string_none (p : Option Addr) (cap : Nat) (w : World) :
    Calls Tryd.prog 23 #[.slice p 0 cap] w fun e w' => e = .returned (.tuple #[]) ∧ w' = w := Any.slices_Sort_string_none Tryd.lays190 p cap w
open Go.RowKit Go.Lib in
theorem Tryd.slices_Equal_string_lens (a1 a2 : Option Addr) (n c m d : Nat) (w : World) (hnm : n ≠ m) :
    Calls Tryd.prog 24 #[.slice a1 n c, .slice a2 m d] w fun e w' => e = .returned (.bool false) ∧ w' = w := Any.slices_Equal_string_lens Tryd.lays193 a1 a2 n c m d w hnm
def Tryd.lc25_ren : Go.Shelf.Ren := ⟨fun | 41 => 25 | n => n, fun | 22 => 23 | 23 => 28 | 4 => 4 | n => n, fun | n => n⟩
theorem Tryd.lc25 : Go.Proofs.SlLaysE0.n41 Tryd.prog Tryd.lc25_ren := {
  mixed := by kernel_rfl
  f41 := ⟨Tryd.f25.name, by decide, Tryd.func25.trans (congrArg some (by kernel_rfl))⟩
  t4 := Tryd.underlying4
  a4 := Tryd.isAgg4
  z4 := Tryd.sizeOf4
  v4 := Tryd.zeroValue4
  t22 := Tryd.underlying23
  a22 := Tryd.isAgg23
  z22 := Tryd.sizeOf23
  v22 := Tryd.zeroValue23 }
def Tryd.lr26_ren : Go.Shelf.Ren := ⟨fun | 35 => 26 | n => n, fun | 22 => 23 | 23 => 28 | 3 => 3 | 4 => 4 | 0 => 0 | n => n, fun | n => n⟩
theorem Tryd.lr26 : Go.Proofs.SlLaysE0.n35 Tryd.prog Tryd.lr26_ren := {
  mixed := by kernel_rfl
  f35 := ⟨Tryd.f26.name, by decide, Tryd.func26.trans (congrArg some (by kernel_rfl))⟩
  t0 := Tryd.underlying0
  a0 := Tryd.isAgg0
  z0 := Tryd.sizeOf0
  v0 := Tryd.zeroValue0
  t3 := Tryd.underlying3
  a3 := Tryd.isAgg3
  z3 := Tryd.sizeOf3
  v3 := Tryd.zeroValue3
  t4 := Tryd.underlying4
  a4 := Tryd.isAgg4
  z4 := Tryd.sizeOf4
  v4 := Tryd.zeroValue4
  t22 := Tryd.underlying23
  a22 := Tryd.isAgg23
  z22 := Tryd.sizeOf23
  v22 := Tryd.zeroValue23 }
def Tryd.lc18_ren : Go.Shelf.Ren := ⟨fun | 8 => 18 | 6 => 27 | n => n, fun | 22 => 23 | 23 => 28 | 25 => 41 | 4 => 4 | 3 => 3 | 0 => 0 | n => n, fun | n => n⟩
theorem Tryd.lc18 : Go.Proofs.SlLaysH0.n8 Tryd.prog Tryd.lc18_ren := {
  mixed := by kernel_rfl
  f6 := ⟨Tryd.f27.name, by decide, Tryd.func27.trans (congrArg some (by kernel_rfl))⟩
  f8 := ⟨Tryd.f18.name, by decide, Tryd.func18.trans (congrArg some (by kernel_rfl))⟩
  t0 := Tryd.underlying0
  a0 := Tryd.isAgg0
  z0 := Tryd.sizeOf0
  v0 := Tryd.zeroValue0
  t3 := Tryd.underlying3
  a3 := Tryd.isAgg3
  z3 := Tryd.sizeOf3
  v3 := Tryd.zeroValue3
  t4 := Tryd.underlying4
  a4 := Tryd.isAgg4
  z4 := Tryd.sizeOf4
  v4 := Tryd.zeroValue4
  t22 := Tryd.underlying23
  a22 := Tryd.isAgg23
  z22 := Tryd.sizeOf23
  v22 := Tryd.zeroValue23
  t25 := Tryd.underlying41
  a25 := Tryd.isAgg41
  z25 := Tryd.sizeOf41
  v25 := Tryd.zeroValue41 }
end Go.Proofs
