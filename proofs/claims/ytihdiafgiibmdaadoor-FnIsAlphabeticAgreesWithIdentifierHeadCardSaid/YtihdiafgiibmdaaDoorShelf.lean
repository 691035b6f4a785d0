/-
  DERIVED: THE SHELF's CONTRACTS AT THIS DUMP, IN PLAIN WORDS (tools/lay-plain.mjs out of 'the shelf module.lean', which tools/lay-shelf.mjs wrote): THE SAME DECLARATIONS UNDER THE SAME NAMES: 'import', 'namespace', 'open', 'def', 'theorem' AND NOTHING ELSE: no command of the shelf's: FOR A HAND-IN. Each laying: the table of numbers ('.._ren') and one theorem, a field a fact of the dump's own or the kernel's comparison; each contract: ONE APPLICATION.
-/
import Derived.Shelf.Unicode.Latin
import Derived.Shelf.Unicode.Props
import Derived.Shelf.Unicode.DecodeSlow
import Derived.Shelf.Unicode.DecodeAny
import Derived.Shelf.Unicode.Is16White
import Derived.Shelf.Unicode.IsSpaceAny
import Derived.Shelf.Unicode.Is16Any
import Derived.Shelf.Unicode.Is32Any
import Derived.Shelf.Unicode.ExclAny
import Derived.Shelf.Unicode.PredsAny
import Derived.Test.YtihdiafgiibmdaaDoorProg
namespace Go.Proofs
open Go.Shelf
def Tryd.lays198_ren : Go.Shelf.Ren := ⟨fun | 198 => 21 | 261 => 22 | 311 => 24 | 312 => 25 | n => n, fun | 21 => 21 | 4 => 4 | 141 => 31 | 0 => 0 | 196 => 36 | 193 => 33 | 3 => 3 | 51 => 29 | 198 => 39 | 49 => 37 | 194 => 34 | 201 => 42 | 226 => 47 | 46 => 26 | 227 => 48 | n => n, fun | 5 => 3 | n => n⟩
theorem Tryd.lays198 : Go.Proofs.Lays.n198 Tryd.prog Tryd.lays198_ren := {
  mixed := by kernel_rfl
  f198 := Tryd.func21.trans (congrArg some (by kernel_rfl))
  f261 := Tryd.func22.trans (congrArg some (by kernel_rfl))
  f311 := Tryd.func24.trans (congrArg some (by kernel_rfl))
  f312 := Tryd.func25.trans (congrArg some (by kernel_rfl))
  t0 := Tryd.underlying0
  a0 := Tryd.isAgg0
  z0 := Tryd.sizeOf0
  v0 := Tryd.zeroValue0
  t3 := Tryd.underlying3
  a3 := Tryd.isAgg3
  z3 := Tryd.sizeOf3
  v3 := Tryd.zeroValue3
  t4 := Tryd.underlying4
  a4 := Tryd.isAgg4
  z4 := Tryd.sizeOf4
  v4 := Tryd.zeroValue4
  t21 := Tryd.underlying21
  a21 := Tryd.isAgg21
  z21 := Tryd.sizeOf21
  v21 := Tryd.zeroValue21
  t46 := Tryd.underlying26
  a46 := Tryd.isAgg26
  z46 := Tryd.sizeOf26
  v46 := Tryd.zeroValue26
  t49 := Tryd.underlying37
  a49 := Tryd.isAgg37
  z49 := Tryd.sizeOf37
  v49 := Tryd.zeroValue37
  t51 := Tryd.underlying29
  a51 := Tryd.isAgg29
  z51 := Tryd.sizeOf29
  v51 := Tryd.zeroValue29
  t141 := Tryd.underlying31
  a141 := Tryd.isAgg31
  z141 := Tryd.sizeOf31
  v141 := Tryd.zeroValue31
  t193 := Tryd.underlying33
  a193 := Tryd.isAgg33
  z193 := Tryd.sizeOf33
  v193 := Tryd.zeroValue33
  t194 := Tryd.underlying34
  a194 := Tryd.isAgg34
  z194 := Tryd.sizeOf34
  v194 := Tryd.zeroValue34
  t196 := Tryd.underlying36
  a196 := Tryd.isAgg36
  z196 := Tryd.sizeOf36
  v196 := Tryd.zeroValue36
  t198 := Tryd.underlying39
  a198 := Tryd.isAgg39
  z198 := Tryd.sizeOf39
  v198 := Tryd.zeroValue39
  t201 := Tryd.underlying42
  a201 := Tryd.isAgg42
  z201 := Tryd.sizeOf42
  v201 := Tryd.zeroValue42
  t226 := Tryd.underlying47
  a226 := Tryd.isAgg47
  z226 := Tryd.sizeOf47
  v226 := Tryd.zeroValue47
  t227 := Tryd.underlying48
  a227 := Tryd.isAgg48
  z227 := Tryd.sizeOf48
  v227 := Tryd.zeroValue48
  g5 := by kernel_rfl }
open Go.RowKit Go.Lib in
theorem Tryd.unicode_IsDigit (r : Int) (w : World) (h : r ≤ 255) :
    Calls Tryd.prog 21 #[.int .i32 r] w fun e w' => e = .returned (.bool (Lib.isDigitL r)) ∧ w' = w := Any.unicode_IsDigit Tryd.lays198 r w h
def Tryd.lays199_ren : Go.Shelf.Ren := ⟨fun | 199 => 18 | 261 => 22 | 311 => 24 | 312 => 25 | n => n, fun | 21 => 21 | 4 => 4 | 51 => 29 | 141 => 31 | 0 => 0 | 196 => 36 | 193 => 33 | 3 => 3 | 198 => 39 | 49 => 37 | 194 => 34 | 201 => 42 | 226 => 47 | 46 => 26 | 227 => 48 | n => n, fun | 6 => 0 | n => n⟩
theorem Tryd.lays199 : Go.Proofs.Lays.n199 Tryd.prog Tryd.lays199_ren := {
  mixed := by kernel_rfl
  f199 := Tryd.func18.trans (congrArg some (by kernel_rfl))
  f261 := Tryd.func22.trans (congrArg some (by kernel_rfl))
  f311 := Tryd.func24.trans (congrArg some (by kernel_rfl))
  f312 := Tryd.func25.trans (congrArg some (by kernel_rfl))
  t0 := Tryd.underlying0
  a0 := Tryd.isAgg0
  z0 := Tryd.sizeOf0
  v0 := Tryd.zeroValue0
  t3 := Tryd.underlying3
  a3 := Tryd.isAgg3
  z3 := Tryd.sizeOf3
  v3 := Tryd.zeroValue3
  t4 := Tryd.underlying4
  a4 := Tryd.isAgg4
  z4 := Tryd.sizeOf4
  v4 := Tryd.zeroValue4
  t21 := Tryd.underlying21
  a21 := Tryd.isAgg21
  z21 := Tryd.sizeOf21
  v21 := Tryd.zeroValue21
  t46 := Tryd.underlying26
  a46 := Tryd.isAgg26
  z46 := Tryd.sizeOf26
  v46 := Tryd.zeroValue26
  t49 := Tryd.underlying37
  a49 := Tryd.isAgg37
  z49 := Tryd.sizeOf37
  v49 := Tryd.zeroValue37
  t51 := Tryd.underlying29
  a51 := Tryd.isAgg29
  z51 := Tryd.sizeOf29
  v51 := Tryd.zeroValue29
  t141 := Tryd.underlying31
  a141 := Tryd.isAgg31
  z141 := Tryd.sizeOf31
  v141 := Tryd.zeroValue31
  t193 := Tryd.underlying33
  a193 := Tryd.isAgg33
  z193 := Tryd.sizeOf33
  v193 := Tryd.zeroValue33
  t194 := Tryd.underlying34
  a194 := Tryd.isAgg34
  z194 := Tryd.sizeOf34
  v194 := Tryd.zeroValue34
  t196 := Tryd.underlying36
  a196 := Tryd.isAgg36
  z196 := Tryd.sizeOf36
  v196 := Tryd.zeroValue36
  t198 := Tryd.underlying39
  a198 := Tryd.isAgg39
  z198 := Tryd.sizeOf39
  v198 := Tryd.zeroValue39
  t201 := Tryd.underlying42
  a201 := Tryd.isAgg42
  z201 := Tryd.sizeOf42
  v201 := Tryd.zeroValue42
  t226 := Tryd.underlying47
  a226 := Tryd.isAgg47
  z226 := Tryd.sizeOf47
  v226 := Tryd.zeroValue47
  t227 := Tryd.underlying48
  a227 := Tryd.isAgg48
  z227 := Tryd.sizeOf48
  v227 := Tryd.zeroValue48
  g6 := by kernel_rfl }
open Go.RowKit Go.Lib in
theorem Tryd.unicode_IsSpace (r : Int) (w : World) (h0 : 0 ≤ r) (h : r ≤ 255) :
    Calls Tryd.prog 18 #[.int .i32 r] w fun e w' => e = .returned (.bool (Lib.isSpaceL r)) ∧ w' = w := Any.unicode_IsSpace Tryd.lays199 r w h0 h
def Tryd.lays200_ren : Go.Shelf.Ren := ⟨fun | 200 => 20 | 261 => 22 | 311 => 24 | 312 => 25 | n => n, fun | 21 => 21 | 4 => 4 | 51 => 29 | 5 => 5 | 119 => 32 | 0 => 0 | 141 => 31 | 196 => 36 | 193 => 33 | 3 => 3 | 198 => 39 | 49 => 37 | 194 => 34 | 201 => 42 | 226 => 47 | 46 => 26 | 227 => 48 | n => n, fun | 7 => 1 | 8 => 2 | n => n⟩
theorem Tryd.lays200 : Go.Proofs.Lays.n200 Tryd.prog Tryd.lays200_ren := {
  mixed := by kernel_rfl
  f200 := Tryd.func20.trans (congrArg some (by kernel_rfl))
  f261 := Tryd.func22.trans (congrArg some (by kernel_rfl))
  f311 := Tryd.func24.trans (congrArg some (by kernel_rfl))
  f312 := Tryd.func25.trans (congrArg some (by kernel_rfl))
  t0 := Tryd.underlying0
  a0 := Tryd.isAgg0
  z0 := Tryd.sizeOf0
  v0 := Tryd.zeroValue0
  t3 := Tryd.underlying3
  a3 := Tryd.isAgg3
  z3 := Tryd.sizeOf3
  v3 := Tryd.zeroValue3
  t4 := Tryd.underlying4
  a4 := Tryd.isAgg4
  z4 := Tryd.sizeOf4
  v4 := Tryd.zeroValue4
  t5 := Tryd.underlying5
  a5 := Tryd.isAgg5
  z5 := Tryd.sizeOf5
  v5 := Tryd.zeroValue5
  t21 := Tryd.underlying21
  a21 := Tryd.isAgg21
  z21 := Tryd.sizeOf21
  v21 := Tryd.zeroValue21
  t46 := Tryd.underlying26
  a46 := Tryd.isAgg26
  z46 := Tryd.sizeOf26
  v46 := Tryd.zeroValue26
  t49 := Tryd.underlying37
  a49 := Tryd.isAgg37
  z49 := Tryd.sizeOf37
  v49 := Tryd.zeroValue37
  t51 := Tryd.underlying29
  a51 := Tryd.isAgg29
  z51 := Tryd.sizeOf29
  v51 := Tryd.zeroValue29
  t119 := Tryd.underlying32
  a119 := Tryd.isAgg32
  z119 := Tryd.sizeOf32
  t141 := Tryd.underlying31
  a141 := Tryd.isAgg31
  z141 := Tryd.sizeOf31
  v141 := Tryd.zeroValue31
  t193 := Tryd.underlying33
  a193 := Tryd.isAgg33
  z193 := Tryd.sizeOf33
  v193 := Tryd.zeroValue33
  t194 := Tryd.underlying34
  a194 := Tryd.isAgg34
  z194 := Tryd.sizeOf34
  v194 := Tryd.zeroValue34
  t196 := Tryd.underlying36
  a196 := Tryd.isAgg36
  z196 := Tryd.sizeOf36
  v196 := Tryd.zeroValue36
  t198 := Tryd.underlying39
  a198 := Tryd.isAgg39
  z198 := Tryd.sizeOf39
  v198 := Tryd.zeroValue39
  t201 := Tryd.underlying42
  a201 := Tryd.isAgg42
  z201 := Tryd.sizeOf42
  v201 := Tryd.zeroValue42
  t226 := Tryd.underlying47
  a226 := Tryd.isAgg47
  z226 := Tryd.sizeOf47
  v226 := Tryd.zeroValue47
  t227 := Tryd.underlying48
  a227 := Tryd.isAgg48
  z227 := Tryd.sizeOf48
  v227 := Tryd.zeroValue48
  g7 := by kernel_rfl
  g8 := by kernel_rfl }
open Go.RowKit Go.Lib in
theorem Tryd.unicode_IsLetter (c : Nat) (w : World) (hc : c < 256) (htab : Lib.TabIs Tryd.prog w "unicode.properties" .u8 Lib.propertiesTab) :
    Calls Tryd.prog 20 #[.int .i32 c] w fun e w' => e = .returned (.bool (Lib.isLetterL c)) ∧ w' = w := Any.unicode_IsLetter Tryd.lays200 (by kernel_rfl) c w hc htab
def Tryd.lays260_ren : Go.Shelf.Ren := ⟨fun | 260 => 23 | n => n, fun | 9 => 9 | 21 => 21 | 3 => 3 | 4 => 4 | 5 => 5 | 119 => 32 | 0 => 0 | 46 => 26 | 139 => 46 | 138 => 45 | n => n, fun | 3 => 4 | 4 => 5 | n => n⟩
theorem Tryd.lays260 : Go.Proofs.Lays.n260 Tryd.prog Tryd.lays260_ren := {
  mixed := by kernel_rfl
  f260 := Tryd.func23.trans (congrArg some (by kernel_rfl))
  t0 := Tryd.underlying0
  a0 := Tryd.isAgg0
  z0 := Tryd.sizeOf0
  v0 := Tryd.zeroValue0
  t3 := Tryd.underlying3
  a3 := Tryd.isAgg3
  z3 := Tryd.sizeOf3
  v3 := Tryd.zeroValue3
  t4 := Tryd.underlying4
  a4 := Tryd.isAgg4
  z4 := Tryd.sizeOf4
  v4 := Tryd.zeroValue4
  t5 := Tryd.underlying5
  a5 := Tryd.isAgg5
  z5 := Tryd.sizeOf5
  v5 := Tryd.zeroValue5
  t9 := Tryd.underlying9
  a9 := Tryd.isAgg9
  z9 := Tryd.sizeOf9
  v9 := Tryd.zeroValue9
  t21 := Tryd.underlying21
  a21 := Tryd.isAgg21
  z21 := Tryd.sizeOf21
  v21 := Tryd.zeroValue21
  t46 := Tryd.underlying26
  a46 := Tryd.isAgg26
  z46 := Tryd.sizeOf26
  v46 := Tryd.zeroValue26
  t119 := Tryd.underlying32
  a119 := Tryd.isAgg32
  z119 := Tryd.sizeOf32
  t138 := Tryd.underlying45
  a138 := Tryd.isAgg45
  z138 := Tryd.sizeOf45
  v138 := Tryd.zeroValue45
  t139 := Tryd.underlying46
  a139 := Tryd.isAgg46
  z139 := Tryd.sizeOf46
  v139 := Tryd.zeroValue46
  g3 := by kernel_rfl
  g4 := by kernel_rfl }
open Go.RowKit Go.Lib in
theorem Tryd.utf8_decodeRuneInStringSlow (s : ByteArray) (w : World) (hT : Lib.Utf8Tabs 4 5 w) :
    Calls Tryd.prog 23 #[.string s] w fun e w' => e = .returned (.tuple #[.int .i32 (Lib.decodeGo s).1, .int .i64 (Lib.decodeGo s).2]) ∧ Below w.heap.size w w' := Any.utf8_decodeRuneInStringSlow Tryd.lays260 s w hT
def Tryd.lays197_ren : Go.Shelf.Ren := ⟨fun | 197 => 19 | 260 => 23 | n => n, fun | 9 => 9 | 21 => 21 | 3 => 3 | 4 => 4 | 5 => 5 | 105 => 27 | 119 => 32 | 0 => 0 | 46 => 26 | 139 => 46 | 138 => 45 | n => n, fun | 3 => 4 | 4 => 5 | n => n⟩
theorem Tryd.lays197 : Go.Proofs.Lays.n197 Tryd.prog Tryd.lays197_ren := {
  mixed := by kernel_rfl
  f197 := Tryd.func19.trans (congrArg some (by kernel_rfl))
  f260 := Tryd.func23.trans (congrArg some (by kernel_rfl))
  t0 := Tryd.underlying0
  a0 := Tryd.isAgg0
  z0 := Tryd.sizeOf0
  v0 := Tryd.zeroValue0
  t3 := Tryd.underlying3
  a3 := Tryd.isAgg3
  z3 := Tryd.sizeOf3
  v3 := Tryd.zeroValue3
  t4 := Tryd.underlying4
  a4 := Tryd.isAgg4
  z4 := Tryd.sizeOf4
  v4 := Tryd.zeroValue4
  t5 := Tryd.underlying5
  a5 := Tryd.isAgg5
  z5 := Tryd.sizeOf5
  v5 := Tryd.zeroValue5
  t9 := Tryd.underlying9
  a9 := Tryd.isAgg9
  z9 := Tryd.sizeOf9
  v9 := Tryd.zeroValue9
  t21 := Tryd.underlying21
  a21 := Tryd.isAgg21
  z21 := Tryd.sizeOf21
  v21 := Tryd.zeroValue21
  t46 := Tryd.underlying26
  a46 := Tryd.isAgg26
  z46 := Tryd.sizeOf26
  v46 := Tryd.zeroValue26
  t105 := Tryd.underlying27
  a105 := Tryd.isAgg27
  z105 := Tryd.sizeOf27
  v105 := Tryd.zeroValue27
  t119 := Tryd.underlying32
  a119 := Tryd.isAgg32
  z119 := Tryd.sizeOf32
  t138 := Tryd.underlying45
  a138 := Tryd.isAgg45
  z138 := Tryd.sizeOf45
  v138 := Tryd.zeroValue45
  t139 := Tryd.underlying46
  a139 := Tryd.isAgg46
  z139 := Tryd.sizeOf46
  v139 := Tryd.zeroValue46
  g3 := by kernel_rfl
  g4 := by kernel_rfl }
open Go.RowKit Go.Lib in
/-- **unicode/utf8.DecodeRuneInString AT EVERY STRING.** (LAID: no walk: one application.) -/
theorem Tryd.utf8_DecodeRuneInString (s : ByteArray) (w : World) (hT : Lib.Utf8Tabs 4 5 w) :
    Calls Tryd.prog 19 #[.string s] w fun e w' => e = .returned (.tuple #[.int .i32 (Lib.decodeGo s).1, .int .i64 (Lib.decodeGo s).2]) ∧ Below w.heap.size w w' := Any.utf8_DecodeRuneInString Tryd.lays197 s w hT
def Tryd.lays311_ren : Go.Shelf.Ren := ⟨fun | 311 => 24 | n => n, fun | 193 => 33 | 49 => 37 | 4 => 4 | 3 => 3 | 0 => 0 | 226 => 47 | 198 => 39 | 46 => 26 | n => n, fun | n => n⟩
theorem Tryd.lays311 : Go.Proofs.Lays.n311 Tryd.prog Tryd.lays311_ren := {
  mixed := by kernel_rfl
  f311 := Tryd.func24.trans (congrArg some (by kernel_rfl))
  t0 := Tryd.underlying0
  a0 := Tryd.isAgg0
  z0 := Tryd.sizeOf0
  v0 := Tryd.zeroValue0
  t3 := Tryd.underlying3
  a3 := Tryd.isAgg3
  z3 := Tryd.sizeOf3
  v3 := Tryd.zeroValue3
  t4 := Tryd.underlying4
  a4 := Tryd.isAgg4
  z4 := Tryd.sizeOf4
  v4 := Tryd.zeroValue4
  t46 := Tryd.underlying26
  a46 := Tryd.isAgg26
  z46 := Tryd.sizeOf26
  v46 := Tryd.zeroValue26
  t49 := Tryd.underlying37
  a49 := Tryd.isAgg37
  z49 := Tryd.sizeOf37
  v49 := Tryd.zeroValue37
  t193 := Tryd.underlying33
  a193 := Tryd.isAgg33
  z193 := Tryd.sizeOf33
  v193 := Tryd.zeroValue33
  t198 := Tryd.underlying39
  a198 := Tryd.isAgg39
  z198 := Tryd.sizeOf39
  v198 := Tryd.zeroValue39
  t226 := Tryd.underlying47
  a226 := Tryd.isAgg47
  z226 := Tryd.sizeOf47
  v226 := Tryd.zeroValue47 }
open Go.RowKit Go.Lib in
theorem Tryd.unicode_is16_white (R oR : Nat) (z : Nat) (w : World) (hz : z < 65536) (hz0 : 255 < z) (c6 : w.cell? ⟨R, oR + 6, none⟩ = some (.int .u16 160)) (c7 : w.cell? ⟨R, oR + 7, none⟩ = some (.int .u16 5760)) (c8 : w.cell? ⟨R, oR + 8, none⟩ = some (.int .u16 5600)) (c9 : w.cell? ⟨R, oR + 9, none⟩ = some (.int .u16 8192)) (c10 : w.cell? ⟨R, oR + 10, none⟩ = some (.int .u16 8202)) (c11 : w.cell? ⟨R, oR + 11, none⟩ = some (.int .u16 1)) (c12 : w.cell? ⟨R, oR + 12, none⟩ = some (.int .u16 8232)) (c13 : w.cell? ⟨R, oR + 13, none⟩ = some (.int .u16 8233)) (c14 : w.cell? ⟨R, oR + 14, none⟩ = some (.int .u16 1)) (c15 : w.cell? ⟨R, oR + 15, none⟩ = some (.int .u16 8239)) (c16 : w.cell? ⟨R, oR + 16, none⟩ = some (.int .u16 8287)) (c17 : w.cell? ⟨R, oR + 17, none⟩ = some (.int .u16 48)) (c18 : w.cell? ⟨R, oR + 18, none⟩ = some (.int .u16 12288)) (c19 : w.cell? ⟨R, oR + 19, none⟩ = some (.int .u16 12288)) (c20 : w.cell? ⟨R, oR + 20, none⟩ = some (.int .u16 1)) :
    Calls Tryd.prog 24 #[.slice (some ⟨R, oR + 6, none⟩) 5 5, .int .u16 z] w fun e w' => e = .returned (.bool (Lib.isSpaceR z)) ∧ Below w.heap.size w w' := Any.unicode_is16_white Tryd.lays311 R oR z w hz hz0 c6 c7 c8 c9 c10 c11 c12 c13 c14 c15 c16 c17 c18 c19 c20
def Tryd.lays261_ren : Go.Shelf.Ren := ⟨fun | 261 => 22 | 311 => 24 | 312 => 25 | n => n, fun | 141 => 31 | 21 => 21 | 4 => 4 | 0 => 0 | 196 => 36 | 193 => 33 | 3 => 3 | 51 => 29 | 198 => 39 | 49 => 37 | 194 => 34 | 201 => 42 | 226 => 47 | 46 => 26 | 227 => 48 | n => n, fun | n => n⟩
theorem Tryd.lays261 : Go.Proofs.Lays.n261 Tryd.prog Tryd.lays261_ren := {
  mixed := by kernel_rfl
  f261 := Tryd.func22.trans (congrArg some (by kernel_rfl))
  f311 := Tryd.func24.trans (congrArg some (by kernel_rfl))
  f312 := Tryd.func25.trans (congrArg some (by kernel_rfl))
  t0 := Tryd.underlying0
  a0 := Tryd.isAgg0
  z0 := Tryd.sizeOf0
  v0 := Tryd.zeroValue0
  t3 := Tryd.underlying3
  a3 := Tryd.isAgg3
  z3 := Tryd.sizeOf3
  v3 := Tryd.zeroValue3
  t4 := Tryd.underlying4
  a4 := Tryd.isAgg4
  z4 := Tryd.sizeOf4
  v4 := Tryd.zeroValue4
  t21 := Tryd.underlying21
  a21 := Tryd.isAgg21
  z21 := Tryd.sizeOf21
  v21 := Tryd.zeroValue21
  t46 := Tryd.underlying26
  a46 := Tryd.isAgg26
  z46 := Tryd.sizeOf26
  v46 := Tryd.zeroValue26
  t49 := Tryd.underlying37
  a49 := Tryd.isAgg37
  z49 := Tryd.sizeOf37
  v49 := Tryd.zeroValue37
  t51 := Tryd.underlying29
  a51 := Tryd.isAgg29
  z51 := Tryd.sizeOf29
  v51 := Tryd.zeroValue29
  t141 := Tryd.underlying31
  a141 := Tryd.isAgg31
  z141 := Tryd.sizeOf31
  v141 := Tryd.zeroValue31
  t193 := Tryd.underlying33
  a193 := Tryd.isAgg33
  z193 := Tryd.sizeOf33
  v193 := Tryd.zeroValue33
  t194 := Tryd.underlying34
  a194 := Tryd.isAgg34
  z194 := Tryd.sizeOf34
  v194 := Tryd.zeroValue34
  t196 := Tryd.underlying36
  a196 := Tryd.isAgg36
  z196 := Tryd.sizeOf36
  v196 := Tryd.zeroValue36
  t198 := Tryd.underlying39
  a198 := Tryd.isAgg39
  z198 := Tryd.sizeOf39
  v198 := Tryd.zeroValue39
  t201 := Tryd.underlying42
  a201 := Tryd.isAgg42
  z201 := Tryd.sizeOf42
  v201 := Tryd.zeroValue42
  t226 := Tryd.underlying47
  a226 := Tryd.isAgg47
  z226 := Tryd.sizeOf47
  v226 := Tryd.zeroValue47
  t227 := Tryd.underlying48
  a227 := Tryd.isAgg48
  z227 := Tryd.sizeOf48
  v227 := Tryd.zeroValue48 }
open Go.RowKit Go.Lib in
/-- unicode.isExcludingLatin(White_Space, r), r beyond U+00FF or negative. (LAID: no walk: one application.) -/
theorem Tryd.unicode_isExcludingLatin_white (T oT R oR : Nat) (r : Int) (w : World) (hlo : -2147483648 ≤ r) (hhi : r ≤ 2147483647) (hr : r < 0 ∨ 255 < r) (h2 : w.cell? ⟨T, oT, none⟩ = some (.slice (some ⟨R, oR, none⟩) 7 7)) (h3 : w.cell? ⟨T, oT + 1, none⟩ = some (.slice none 0 0)) (h4 : w.cell? ⟨T, oT + 2, none⟩ = some (.int .i64 2)) (h5 : ∀ i, i < 21 → w.cell? ⟨R, oR + i, none⟩ = some (.int .u16 (whiteT.getD i 0))) :
    Calls Tryd.prog 22 #[.pointer (some ⟨T, oT, none⟩), .int .i32 r] w fun e w' => e = .returned (.bool (Lib.isSpaceZ r)) ∧ Below w.heap.size w w' := Any.unicode_isExcludingLatin_white Tryd.lays261 T oT R oR r w hlo hhi hr h2 h3 h4 h5
open Go.RowKit Go.Lib in
/-- **unicode.IsSpace AT EVERY int32.** (LAID: no walk: one application.) -/
theorem Tryd.unicode_IsSpace_any (r : Int) (w : World) (hlo : -2147483648 ≤ r) (hhi : r ≤ 2147483647) (hW : Lib.WhiteTab 0 w) :
    Calls Tryd.prog 18 #[.int .i32 r] w fun e w' => e = .returned (.bool (Lib.isSpaceZ r)) ∧ Below w.heap.size w w' := Any.unicode_IsSpace_any Tryd.lays199 r w hlo hhi hW
open Go.RowKit Go.Lib in
theorem Tryd.unicode_is16_any (T : Array Rg) (R oR cap : Nat) (z : Nat) (w : World) (hz : z < 65536) (hT : RgTab .u16 R oR T w) (hok : RgOk 65536 T) (hn : T.size ≤ 1000000000) :
    Calls Tryd.prog 24 #[.slice (some ⟨R, oR, none⟩) T.size cap, .int .u16 z] w fun e w' => e = .returned (.bool (is16Go T z)) ∧ ∃ q, w' = w.drewN q := Any.unicode_is16_any Tryd.lays311 T R oR cap z w hz hT hok hn
def Tryd.lays312_ren : Go.Shelf.Ren := ⟨fun | 312 => 25 | n => n, fun | 194 => 34 | 51 => 29 | 4 => 4 | 3 => 3 | 0 => 0 | 227 => 48 | 201 => 42 | 46 => 26 | n => n, fun | n => n⟩
theorem Tryd.lays312 : Go.Proofs.Lays.n312 Tryd.prog Tryd.lays312_ren := {
  mixed := by kernel_rfl
  f312 := Tryd.func25.trans (congrArg some (by kernel_rfl))
  t0 := Tryd.underlying0
  a0 := Tryd.isAgg0
  z0 := Tryd.sizeOf0
  v0 := Tryd.zeroValue0
  t3 := Tryd.underlying3
  a3 := Tryd.isAgg3
  z3 := Tryd.sizeOf3
  v3 := Tryd.zeroValue3
  t4 := Tryd.underlying4
  a4 := Tryd.isAgg4
  z4 := Tryd.sizeOf4
  v4 := Tryd.zeroValue4
  t46 := Tryd.underlying26
  a46 := Tryd.isAgg26
  z46 := Tryd.sizeOf26
  v46 := Tryd.zeroValue26
  t51 := Tryd.underlying29
  a51 := Tryd.isAgg29
  z51 := Tryd.sizeOf29
  v51 := Tryd.zeroValue29
  t194 := Tryd.underlying34
  a194 := Tryd.isAgg34
  z194 := Tryd.sizeOf34
  v194 := Tryd.zeroValue34
  t201 := Tryd.underlying42
  a201 := Tryd.isAgg42
  z201 := Tryd.sizeOf42
  v201 := Tryd.zeroValue42
  t227 := Tryd.underlying48
  a227 := Tryd.isAgg48
  z227 := Tryd.sizeOf48
  v227 := Tryd.zeroValue48 }
open Go.RowKit Go.Lib in
theorem Tryd.unicode_is32_any (T : Array Rg) (R oR cap : Nat) (z : Nat) (w : World) (hz : z < 4294967296) (hT : RgTab .u32 R oR T w) (hok : RgOk 4294967296 T) (hn : T.size ≤ 1000000000) :
    Calls Tryd.prog 25 #[.slice (some ⟨R, oR, none⟩) T.size cap, .int .u32 z] w fun e w' => e = .returned (.bool (is32Go T z)) ∧ Below w.heap.size w w' := Any.unicode_is32_any Tryd.lays312 T R oR cap z w hz hT hok hn
open Go.RowKit Go.Lib in
theorem Tryd.unicode_isExcludingLatin_any (Tb oT : Nat) (T : RTab) (r : Int) (w : World) (hlo : -2147483648 ≤ r) (hhi : r ≤ 2147483647) (hA : RTabAt Tb oT T w) (hok : RTabOk T) :
    Calls Tryd.prog 22 #[.pointer (some ⟨Tb, oT, none⟩), .int .i32 r] w fun e w' => e = .returned (.bool (exclGo T r)) ∧ Below w.heap.size w w' := Any.unicode_isExcludingLatin_any Tryd.lays261 Tb oT T r w hlo hhi hA hok
open Go.RowKit Go.Lib in
/-- unicode.IsLetter(r) AT EVERY int32, over whatever table the variable unicode.Letter leads to. (LAID: no walk: one application.) -/
theorem Tryd.unicode_IsLetter_any (T : RTab) (r : Int) (w : World) (hlo : -2147483648 ≤ r) (hhi : r ≤ 2147483647) (htab : Lib.TabIs Tryd.prog w "unicode.properties" .u8 Lib.propertiesTab) (hV : RVar 2 T w) (hok : RTabOk T) :
    Calls Tryd.prog 20 #[.int .i32 r] w fun e w' => e = .returned (.bool (if latin1 r then isLetterL r else exclGo T r)) ∧ Below w.heap.size w w' := Any.unicode_IsLetter_any Tryd.lays200 (by kernel_rfl) T r w hlo hhi htab hV hok
open Go.RowKit Go.Lib in
/-- unicode.IsDigit(r) AT EVERY int32, over whatever table the variable unicode.Digit leads to. (LAID: no walk: one application.) -/
theorem Tryd.unicode_IsDigit_any (T : RTab) (r : Int) (w : World) (hlo : -2147483648 ≤ r) (hhi : r ≤ 2147483647) (hV : RVar 3 T w) (hok : RTabOk T) :
    Calls Tryd.prog 21 #[.int .i32 r] w fun e w' => e = .returned (.bool (if r ≤ 255 then isDigitL r else exclGo T r)) ∧ Below w.heap.size w w' := Any.unicode_IsDigit_any Tryd.lays198 T r w hlo hhi hV hok
end Go.Proofs
