/-
  DERIVED: THE SHELF's CONTRACTS AT THIS DUMP, IN PLAIN WORDS (tools/lay-plain.mjs out of 'YtaockngppbeanaaGreatDoorShelf0.lean', which tools/lay-shelf.mjs wrote): THE SAME DECLARATIONS UNDER THE SAME NAMES: 'import', 'namespace', 'open', 'def', 'theorem' AND NOTHING ELSE: no command of the shelf's: FOR A HAND-IN. Each laying: the table of numbers ('.._ren') and one theorem, a field a fact of the dump's own or the kernel's comparison; each contract: ONE APPLICATION.
-/
import Derived.Shelf.Strings.Builder1
import Derived.Shelf.Sort.Plain
import Derived.Shelf.Slices.In.SortNone2
import Derived.Shelf.Unicode.ValidAny
import Derived.Test.YtaockngppbeanaaGreatDoorProg
namespace Go.Proofs
open Go.Shelf
def Tryz.lays169_ren : Go.Shelf.Ren := ⟨fun | 169 => 131 | n => n, fun | 70 => 150 | 9 => 9 | 0 => 0 | 72 => 152 | 37 => 96 | 127 => 184 | 3 => 3 | 5 => 5 | n => n, fun | n => n⟩
theorem Tryz.lays169 : Go.Proofs.Lays.n169 Tryz.prog Tryz.lays169_ren := {
  mixed := by kernel_rfl
  f169 := Tryz.func131.trans (congrArg some (by kernel_rfl))
  t0 := Tryz.underlying0
  a0 := Tryz.isAgg0
  z0 := Tryz.sizeOf0
  v0 := Tryz.zeroValue0
  t3 := Tryz.underlying3
  a3 := Tryz.isAgg3
  z3 := Tryz.sizeOf3
  v3 := Tryz.zeroValue3
  t9 := Tryz.underlying9
  a9 := Tryz.isAgg9
  z9 := Tryz.sizeOf9
  v9 := Tryz.zeroValue9
  t37 := Tryz.underlying96
  a37 := Tryz.isAgg96
  z37 := Tryz.sizeOf96
  v37 := Tryz.zeroValue96
  t70 := Tryz.underlying150
  a70 := Tryz.isAgg150
  z70 := Tryz.sizeOf150
  v70 := Tryz.zeroValue150
  t72 := Tryz.underlying152
  a72 := Tryz.isAgg152
  z72 := Tryz.sizeOf152
  v72 := Tryz.zeroValue152
  t127 := Tryz.underlying184
  a127 := Tryz.isAgg184
  z127 := Tryz.sizeOf184
  v127 := Tryz.zeroValue184 }
theorem Tryz.Builder_Extra_169 : Builder.Extra Tryz.prog Tryz.lays169_ren := {
  sizeBuilder := by kernel_rfl
  liesBuilder := by kernel_rfl
  t5 := Tryz.underlying5
  a5 := Tryz.isAgg5
  z5 := Tryz.sizeOf5
  v5 := Tryz.zeroValue5
  infoByte := by kernel_rfl
  cellsByte := by kernel_rfl
  sizeByte := by kernel_rfl
  neB5 := by decide }
open Go.RowKit in
/-- (*strings.Builder).String: "String returns the accumulated string.": WHATEVER THE BUILDER HOLDS. (LAID: no walk: one application.) -/
theorem Tryz.Builder_String_any (B b : Nat) (l : List UInt8) (w : World) (h : Lib.IsBuilder 152 5 B b (Lib.byteCells l) w) (hBw : B ≤ w.heap.size) :
    Calls Tryz.prog 131 #[.pointer (some ⟨b, 0, none⟩)] w fun e w' => e = .returned (.string ⟨l.toArray⟩) ∧ Below B w w' := Any.Builder_String_any Tryz.lays169 Tryz.Builder_Extra_169 B b l w h hBw
def Tryz.lays192_ren : Go.Shelf.Ren := ⟨fun | 192 => 153 | 190 => 140 | 125 => 180 | 258 => 179 | 128 => 205 | 129 => 206 | 302 => 196 | 303 => 197 | 304 => 198 | 305 => 199 | 306 => 200 | 307 => 201 | 308 => 202 | 309 => 203 | 310 => 204 | 333 => 229 | 329 => 230 | 330 => 231 | 334 => 232 | 335 => 233 | 336 => 186 | 344 => 276 | n => n, fun | 31 => 24 | 0 => 0 | 9 => 9 | 3 => 3 | 46 => 95 | 51 => 242 | 53 => 206 | 4 => 4 | 183 => 235 | 182 => 234 | 131 => 64 | 5 => 5 | 218 => 269 | 222 => 273 | 228 => 311 | 229 => 312 | n => n, fun | n => n⟩
theorem Tryz.lays192 : Go.Proofs.Lays.n192 Tryz.prog Tryz.lays192_ren := {
  mixed := by kernel_rfl
  f125 := Tryz.func180.trans (congrArg some (by kernel_rfl))
  f128 := Tryz.func205.trans (congrArg some (by kernel_rfl))
  f129 := Tryz.func206.trans (congrArg some (by kernel_rfl))
  f190 := Tryz.func140.trans (congrArg some (by kernel_rfl))
  f192 := Tryz.func153.trans (congrArg some (by kernel_rfl))
  f258 := Tryz.func179.trans (congrArg some (by kernel_rfl))
  f302 := Tryz.func196.trans (congrArg some (by kernel_rfl))
  f303 := Tryz.func197.trans (congrArg some (by kernel_rfl))
  f304 := Tryz.func198.trans (congrArg some (by kernel_rfl))
  f305 := Tryz.func199.trans (congrArg some (by kernel_rfl))
  f306 := Tryz.func200.trans (congrArg some (by kernel_rfl))
  f307 := Tryz.func201.trans (congrArg some (by kernel_rfl))
  f308 := Tryz.func202.trans (congrArg some (by kernel_rfl))
  f309 := Tryz.func203.trans (congrArg some (by kernel_rfl))
  f310 := Tryz.func204.trans (congrArg some (by kernel_rfl))
  f329 := Tryz.func230.trans (congrArg some (by kernel_rfl))
  f330 := Tryz.func231.trans (congrArg some (by kernel_rfl))
  f333 := Tryz.func229.trans (congrArg some (by kernel_rfl))
  f334 := Tryz.func232.trans (congrArg some (by kernel_rfl))
  f335 := Tryz.func233.trans (congrArg some (by kernel_rfl))
  f336 := Tryz.func186.trans (congrArg some (by kernel_rfl))
  f344 := Tryz.func276.trans (congrArg some (by kernel_rfl))
  t0 := Tryz.underlying0
  a0 := Tryz.isAgg0
  z0 := Tryz.sizeOf0
  v0 := Tryz.zeroValue0
  t3 := Tryz.underlying3
  a3 := Tryz.isAgg3
  z3 := Tryz.sizeOf3
  v3 := Tryz.zeroValue3
  t4 := Tryz.underlying4
  a4 := Tryz.isAgg4
  z4 := Tryz.sizeOf4
  v4 := Tryz.zeroValue4
  t5 := Tryz.underlying5
  a5 := Tryz.isAgg5
  z5 := Tryz.sizeOf5
  v5 := Tryz.zeroValue5
  t9 := Tryz.underlying9
  a9 := Tryz.isAgg9
  z9 := Tryz.sizeOf9
  v9 := Tryz.zeroValue9
  t31 := Tryz.underlying24
  a31 := Tryz.isAgg24
  z31 := Tryz.sizeOf24
  v31 := Tryz.zeroValue24
  t46 := Tryz.underlying95
  a46 := Tryz.isAgg95
  z46 := Tryz.sizeOf95
  v46 := Tryz.zeroValue95
  t51 := Tryz.underlying242
  a51 := Tryz.isAgg242
  z51 := Tryz.sizeOf242
  v51 := Tryz.zeroValue242
  t53 := Tryz.underlying206
  a53 := Tryz.isAgg206
  z53 := Tryz.sizeOf206
  v53 := Tryz.zeroValue206
  t131 := Tryz.underlying64
  a131 := Tryz.isAgg64
  z131 := Tryz.sizeOf64
  v131 := Tryz.zeroValue64
  t182 := Tryz.underlying234
  a182 := Tryz.isAgg234
  z182 := Tryz.sizeOf234
  v182 := Tryz.zeroValue234
  t183 := Tryz.underlying235
  a183 := Tryz.isAgg235
  z183 := Tryz.sizeOf235
  v183 := Tryz.zeroValue235
  t218 := Tryz.underlying269
  a218 := Tryz.isAgg269
  z218 := Tryz.sizeOf269
  v218 := Tryz.zeroValue269
  t222 := Tryz.underlying273
  a222 := Tryz.isAgg273
  z222 := Tryz.sizeOf273
  v222 := Tryz.zeroValue273
  t228 := Tryz.underlying311
  a228 := Tryz.isAgg311
  z228 := Tryz.sizeOf311
  v228 := Tryz.zeroValue311
  t229 := Tryz.underlying312
  a229 := Tryz.isAgg312
  z229 := Tryz.sizeOf312
  v229 := Tryz.zeroValue312 }
open Go.Sort Go.RowKit in
theorem Tryz.sort_Strings (blk off cap : Nat) (ss : List (List UInt8)) (w : World) (hH : Holds encStr w blk off ss.toArray) (hblk : blk < w.heap.size) (hsz : ss.length < 4611686018427387904) :
    Calls Tryz.prog 153 #[.slice (some ⟨blk, off, none⟩) ss.length cap] w fun e w' =>
      e = .returned (.tuple #[]) ∧ ∃ n os, w' = grow (putRow encStr (Sort.ahead w n) blk off (ss.mergeSort fun x y => decide (x ≤ y)).toArray) os := Any.sort_Strings Tryz.lays192 blk off cap ss w hH hblk hsz
open Go.RowKit Go.Sort in
/-- .. and plain. (LAID: no walk: one application.) -/
theorem Tryz.sort_Strings_none (p : Option Addr) (cap : Nat) (w : World) :
    Calls Tryz.prog 153 #[.slice p 0 cap] w fun e w' => e = .returned (.tuple #[]) ∧ w' = w := Any.sort_Strings_none Tryz.lays192 p cap w
def Tryz.laysValid_ren : Go.Shelf.Ren := ⟨fun | 196 => 108 | 259 => 134 | n => n, fun | 9 => 9 | 4 => 4 | 3 => 3 | 5 => 5 | 12 => 12 | 119 => 166 | 0 => 0 | 46 => 95 | 139 => 169 | 138 => 168 | 53 => 206 | n => n, fun | 3 => 0 | 4 => 1 | n => n⟩
theorem Tryz.laysValid : Go.Proofs.Lays.n196 Tryz.prog Tryz.laysValid_ren := {
  mixed := by kernel_rfl
  f196 := Tryz.func108.trans (congrArg some (by kernel_rfl))
  f259 := Tryz.func134.trans (congrArg some (by kernel_rfl))
  t0 := Tryz.underlying0
  a0 := Tryz.isAgg0
  z0 := Tryz.sizeOf0
  v0 := Tryz.zeroValue0
  t3 := Tryz.underlying3
  a3 := Tryz.isAgg3
  z3 := Tryz.sizeOf3
  v3 := Tryz.zeroValue3
  t4 := Tryz.underlying4
  a4 := Tryz.isAgg4
  z4 := Tryz.sizeOf4
  v4 := Tryz.zeroValue4
  t5 := Tryz.underlying5
  a5 := Tryz.isAgg5
  z5 := Tryz.sizeOf5
  v5 := Tryz.zeroValue5
  t9 := Tryz.underlying9
  a9 := Tryz.isAgg9
  z9 := Tryz.sizeOf9
  v9 := Tryz.zeroValue9
  t12 := Tryz.underlying12
  a12 := Tryz.isAgg12
  z12 := Tryz.sizeOf12
  v12 := Tryz.zeroValue12
  t46 := Tryz.underlying95
  a46 := Tryz.isAgg95
  z46 := Tryz.sizeOf95
  v46 := Tryz.zeroValue95
  t53 := Tryz.underlying206
  a53 := Tryz.isAgg206
  z53 := Tryz.sizeOf206
  v53 := Tryz.zeroValue206
  t119 := Tryz.underlying166
  a119 := Tryz.isAgg166
  z119 := Tryz.sizeOf166
  t138 := Tryz.underlying168
  a138 := Tryz.isAgg168
  z138 := Tryz.sizeOf168
  v138 := Tryz.zeroValue168
  t139 := Tryz.underlying169
  a139 := Tryz.isAgg169
  z139 := Tryz.sizeOf169
  v139 := Tryz.zeroValue169
  g3 := by kernel_rfl
  g4 := by kernel_rfl }
end Go.Proofs
