/-
  DERIVED: THE SHELF's CONTRACTS AT THIS DUMP, IN PLAIN WORDS (tools/lay-plain.mjs out of 'YtbkimfhlgpgoiaaGreatDoorShelfE.lean', which tools/lay-shelf.mjs wrote): THE SAME DECLARATIONS UNDER THE SAME NAMES: 'import', 'namespace', 'open', 'def', 'theorem' AND NOTHING ELSE: no command of the shelf's: FOR A HAND-IN. Each laying: the table of numbers ('.._ren') and one theorem, a field a fact of the dump's own or the kernel's comparison; each contract: ONE APPLICATION.
-/
import Derived.Shelf.Lays7
import Derived.Shelf.Spec.DecodeRune
import Derived.Shelf.Spec.DecodeLastRune
import Derived.Shelf.Spec.NilArms
import Derived.Shelf.Unicode.Is16White
import Derived.Shelf.Unicode.IsSpaceAny
import Derived.Shelf.Unicode.Is16Any
import Derived.Shelf.Unicode.Is32Any
import Derived.Shelf.Unicode.ExclAny
import Derived.Shelf.Unicode.PredsAny
import Derived.Shelf.Unicode.Latin
import Derived.Test.YtbkimfhlgpgoiaaGreatDoorProg
namespace Go.Proofs
open Go.Shelf
def Tryz.lays7_32_ren : Go.Shelf.Ren := ⟨fun | 32 => 70 | 49 => 113 | n => n, fun | 30 => 22 | 21 => 21 | 3 => 3 | 0 => 0 | 5 => 5 | 4 => 4 | 33 => 112 | 66 => 215 | 25 => 27 | 69 => 218 | 68 => 217 | n => n, fun | 2 => 2 | 3 => 3 | n => n⟩
theorem Tryz.lays7_32 : Go.Proofs.Lays7.n32 Tryz.prog Tryz.lays7_32_ren := {
  mixed := by kernel_rfl
  f32 := Tryz.func70.trans (congrArg some (by kernel_rfl))
  f49 := Tryz.func113.trans (congrArg some (by kernel_rfl))
  t0 := Tryz.underlying0
  a0 := Tryz.isAgg0
  z0 := Tryz.sizeOf0
  v0 := Tryz.zeroValue0
  i0 := by kernel_rfl
  t3 := Tryz.underlying3
  a3 := Tryz.isAgg3
  z3 := Tryz.sizeOf3
  v3 := Tryz.zeroValue3
  i3 := by kernel_rfl
  t4 := Tryz.underlying4
  a4 := Tryz.isAgg4
  z4 := Tryz.sizeOf4
  v4 := Tryz.zeroValue4
  i4 := by kernel_rfl
  t5 := Tryz.underlying5
  a5 := Tryz.isAgg5
  z5 := Tryz.sizeOf5
  v5 := Tryz.zeroValue5
  i5 := by kernel_rfl
  t21 := Tryz.underlying21
  a21 := Tryz.isAgg21
  z21 := Tryz.sizeOf21
  v21 := Tryz.zeroValue21
  i21 := by kernel_rfl
  t25 := Tryz.underlying27
  a25 := Tryz.isAgg27
  z25 := Tryz.sizeOf27
  v25 := Tryz.zeroValue27
  i25 := by kernel_rfl
  t30 := Tryz.underlying22
  a30 := Tryz.isAgg22
  z30 := Tryz.sizeOf22
  v30 := Tryz.zeroValue22
  i30 := by kernel_rfl
  t33 := Tryz.underlying112
  a33 := Tryz.isAgg112
  z33 := Tryz.sizeOf112
  v33 := Tryz.zeroValue112
  i33 := by kernel_rfl
  t66 := Tryz.underlying215
  a66 := Tryz.isAgg215
  z66 := Tryz.sizeOf215
  t68 := Tryz.underlying217
  a68 := Tryz.isAgg217
  z68 := Tryz.sizeOf217
  v68 := Tryz.zeroValue217
  i68 := by kernel_rfl
  t69 := Tryz.underlying218
  a69 := Tryz.isAgg218
  z69 := Tryz.sizeOf218
  v69 := Tryz.zeroValue218
  i69 := by kernel_rfl
  g2 := by kernel_rfl
  g3 := by kernel_rfl }
open Go.RowKit Go.Lib in
theorem Tryz.utf8_DecodeRune (s : ByteArray) (b off cap : Nat) (w : World) (hT : Lib.Utf8Tabs 2 3 w)
    (hp : ∀ j, j < s.size → w.cell? ⟨b, off + j, none⟩ = some (.int .u8 (s.get! j).toNat)) :
    Calls Tryz.prog 70 #[.slice (some ⟨b, off, none⟩) s.size cap] w fun e w' => e = .returned (.tuple #[.int .i32 (Lib.decodeGo s).1, .int .i64 (Lib.decodeGo s).2]) ∧ Below w.heap.size w w' := Any7.utf8_DecodeRune Tryz.lays7_32 s b off cap w hT hp
def Tryz.lays7_33_ren : Go.Shelf.Ren := ⟨fun | 33 => 115 | 50 => 130 | 32 => 70 | 49 => 113 | n => n, fun | 30 => 22 | 21 => 21 | 3 => 3 | 4 => 4 | 0 => 0 | 5 => 5 | 33 => 112 | 66 => 215 | 25 => 27 | 69 => 218 | 68 => 217 | n => n, fun | 2 => 2 | 3 => 3 | n => n⟩
theorem Tryz.lays7_33 : Go.Proofs.Lays7.n33 Tryz.prog Tryz.lays7_33_ren := {
  mixed := by kernel_rfl
  f32 := Tryz.func70.trans (congrArg some (by kernel_rfl))
  f33 := Tryz.func115.trans (congrArg some (by kernel_rfl))
  f49 := Tryz.func113.trans (congrArg some (by kernel_rfl))
  f50 := Tryz.func130.trans (congrArg some (by kernel_rfl))
  t0 := Tryz.underlying0
  a0 := Tryz.isAgg0
  z0 := Tryz.sizeOf0
  v0 := Tryz.zeroValue0
  i0 := by kernel_rfl
  t3 := Tryz.underlying3
  a3 := Tryz.isAgg3
  z3 := Tryz.sizeOf3
  v3 := Tryz.zeroValue3
  i3 := by kernel_rfl
  t4 := Tryz.underlying4
  a4 := Tryz.isAgg4
  z4 := Tryz.sizeOf4
  v4 := Tryz.zeroValue4
  i4 := by kernel_rfl
  t5 := Tryz.underlying5
  a5 := Tryz.isAgg5
  z5 := Tryz.sizeOf5
  v5 := Tryz.zeroValue5
  i5 := by kernel_rfl
  t21 := Tryz.underlying21
  a21 := Tryz.isAgg21
  z21 := Tryz.sizeOf21
  v21 := Tryz.zeroValue21
  i21 := by kernel_rfl
  t25 := Tryz.underlying27
  a25 := Tryz.isAgg27
  z25 := Tryz.sizeOf27
  v25 := Tryz.zeroValue27
  i25 := by kernel_rfl
  t30 := Tryz.underlying22
  a30 := Tryz.isAgg22
  z30 := Tryz.sizeOf22
  v30 := Tryz.zeroValue22
  i30 := by kernel_rfl
  t33 := Tryz.underlying112
  a33 := Tryz.isAgg112
  z33 := Tryz.sizeOf112
  v33 := Tryz.zeroValue112
  i33 := by kernel_rfl
  t66 := Tryz.underlying215
  a66 := Tryz.isAgg215
  z66 := Tryz.sizeOf215
  t68 := Tryz.underlying217
  a68 := Tryz.isAgg217
  z68 := Tryz.sizeOf217
  v68 := Tryz.zeroValue217
  i68 := by kernel_rfl
  t69 := Tryz.underlying218
  a69 := Tryz.isAgg218
  z69 := Tryz.sizeOf218
  v69 := Tryz.zeroValue218
  i69 := by kernel_rfl
  g2 := by kernel_rfl
  g3 := by kernel_rfl }
open Go.RowKit Go.Lib in
theorem Tryz.utf8_DecodeLastRune (s : ByteArray) (b off cap : Nat) (w : World) (hcap : s.size ≤ cap) (hp : ∀ j, j < s.size → w.cell? ⟨b, off + j, none⟩ = some (.int .u8 (s.get! j).toNat)) (hs : s.size ≤ 9223372036854775807) (hT : Lib.Utf8Tabs 2 3 w) :
    Calls Tryz.prog 115 #[.slice (some ⟨b, off, none⟩) s.size cap] w fun e w' => e = .returned (.tuple #[.int .i32 (Lib.decodeLastL s.data.toList).1, .int .i64 (Lib.decodeLastL s.data.toList).2]) ∧ Below w.heap.size w w' := Any7.utf8_DecodeLastRune Tryz.lays7_33 s b off cap w hcap hp hs hT
def Tryz.lays198_ren : Go.Shelf.Ren := ⟨fun | 198 => 78 | 261 => 84 | 311 => 116 | 312 => 117 | n => n, fun | 21 => 21 | 4 => 4 | 141 => 121 | 0 => 0 | 196 => 180 | 193 => 177 | 3 => 3 | 51 => 119 | 198 => 183 | 49 => 181 | 194 => 178 | 201 => 186 | 226 => 219 | 46 => 27 | 227 => 220 | n => n, fun | 5 => 1 | n => n⟩
theorem Tryz.lays198 : Go.Proofs.Lays.n198 Tryz.prog Tryz.lays198_ren := {
  mixed := by kernel_rfl
  f198 := Tryz.func78.trans (congrArg some (by kernel_rfl))
  f261 := Tryz.func84.trans (congrArg some (by kernel_rfl))
  f311 := Tryz.func116.trans (congrArg some (by kernel_rfl))
  f312 := Tryz.func117.trans (congrArg some (by kernel_rfl))
  t0 := Tryz.underlying0
  a0 := Tryz.isAgg0
  z0 := Tryz.sizeOf0
  v0 := Tryz.zeroValue0
  t3 := Tryz.underlying3
  a3 := Tryz.isAgg3
  z3 := Tryz.sizeOf3
  v3 := Tryz.zeroValue3
  t4 := Tryz.underlying4
  a4 := Tryz.isAgg4
  z4 := Tryz.sizeOf4
  v4 := Tryz.zeroValue4
  t21 := Tryz.underlying21
  a21 := Tryz.isAgg21
  z21 := Tryz.sizeOf21
  v21 := Tryz.zeroValue21
  t46 := Tryz.underlying27
  a46 := Tryz.isAgg27
  z46 := Tryz.sizeOf27
  v46 := Tryz.zeroValue27
  t49 := Tryz.underlying181
  a49 := Tryz.isAgg181
  z49 := Tryz.sizeOf181
  v49 := Tryz.zeroValue181
  t51 := Tryz.underlying119
  a51 := Tryz.isAgg119
  z51 := Tryz.sizeOf119
  v51 := Tryz.zeroValue119
  t141 := Tryz.underlying121
  a141 := Tryz.isAgg121
  z141 := Tryz.sizeOf121
  v141 := Tryz.zeroValue121
  t193 := Tryz.underlying177
  a193 := Tryz.isAgg177
  z193 := Tryz.sizeOf177
  v193 := Tryz.zeroValue177
  t194 := Tryz.underlying178
  a194 := Tryz.isAgg178
  z194 := Tryz.sizeOf178
  v194 := Tryz.zeroValue178
  t196 := Tryz.underlying180
  a196 := Tryz.isAgg180
  z196 := Tryz.sizeOf180
  v196 := Tryz.zeroValue180
  t198 := Tryz.underlying183
  a198 := Tryz.isAgg183
  z198 := Tryz.sizeOf183
  v198 := Tryz.zeroValue183
  t201 := Tryz.underlying186
  a201 := Tryz.isAgg186
  z201 := Tryz.sizeOf186
  v201 := Tryz.zeroValue186
  t226 := Tryz.underlying219
  a226 := Tryz.isAgg219
  z226 := Tryz.sizeOf219
  v226 := Tryz.zeroValue219
  t227 := Tryz.underlying220
  a227 := Tryz.isAgg220
  z227 := Tryz.sizeOf220
  v227 := Tryz.zeroValue220
  g5 := by kernel_rfl }
def Tryz.lays199_ren : Go.Shelf.Ren := ⟨fun | 199 => 51 | 261 => 84 | 311 => 116 | 312 => 117 | n => n, fun | 21 => 21 | 4 => 4 | 51 => 119 | 141 => 121 | 0 => 0 | 196 => 180 | 193 => 177 | 3 => 3 | 198 => 183 | 49 => 181 | 194 => 178 | 201 => 186 | 226 => 219 | 46 => 27 | 227 => 220 | n => n, fun | 6 => 0 | n => n⟩
theorem Tryz.lays199 : Go.Proofs.Lays.n199 Tryz.prog Tryz.lays199_ren := {
  mixed := by kernel_rfl
  f199 := Tryz.func51.trans (congrArg some (by kernel_rfl))
  f261 := Tryz.func84.trans (congrArg some (by kernel_rfl))
  f311 := Tryz.func116.trans (congrArg some (by kernel_rfl))
  f312 := Tryz.func117.trans (congrArg some (by kernel_rfl))
  t0 := Tryz.underlying0
  a0 := Tryz.isAgg0
  z0 := Tryz.sizeOf0
  v0 := Tryz.zeroValue0
  t3 := Tryz.underlying3
  a3 := Tryz.isAgg3
  z3 := Tryz.sizeOf3
  v3 := Tryz.zeroValue3
  t4 := Tryz.underlying4
  a4 := Tryz.isAgg4
  z4 := Tryz.sizeOf4
  v4 := Tryz.zeroValue4
  t21 := Tryz.underlying21
  a21 := Tryz.isAgg21
  z21 := Tryz.sizeOf21
  v21 := Tryz.zeroValue21
  t46 := Tryz.underlying27
  a46 := Tryz.isAgg27
  z46 := Tryz.sizeOf27
  v46 := Tryz.zeroValue27
  t49 := Tryz.underlying181
  a49 := Tryz.isAgg181
  z49 := Tryz.sizeOf181
  v49 := Tryz.zeroValue181
  t51 := Tryz.underlying119
  a51 := Tryz.isAgg119
  z51 := Tryz.sizeOf119
  v51 := Tryz.zeroValue119
  t141 := Tryz.underlying121
  a141 := Tryz.isAgg121
  z141 := Tryz.sizeOf121
  v141 := Tryz.zeroValue121
  t193 := Tryz.underlying177
  a193 := Tryz.isAgg177
  z193 := Tryz.sizeOf177
  v193 := Tryz.zeroValue177
  t194 := Tryz.underlying178
  a194 := Tryz.isAgg178
  z194 := Tryz.sizeOf178
  v194 := Tryz.zeroValue178
  t196 := Tryz.underlying180
  a196 := Tryz.isAgg180
  z196 := Tryz.sizeOf180
  v196 := Tryz.zeroValue180
  t198 := Tryz.underlying183
  a198 := Tryz.isAgg183
  z198 := Tryz.sizeOf183
  v198 := Tryz.zeroValue183
  t201 := Tryz.underlying186
  a201 := Tryz.isAgg186
  z201 := Tryz.sizeOf186
  v201 := Tryz.zeroValue186
  t226 := Tryz.underlying219
  a226 := Tryz.isAgg219
  z226 := Tryz.sizeOf219
  v226 := Tryz.zeroValue219
  t227 := Tryz.underlying220
  a227 := Tryz.isAgg220
  z227 := Tryz.sizeOf220
  v227 := Tryz.zeroValue220
  g6 := by kernel_rfl }
open Go.RowKit Go.Lib in
/-- **unicode.IsSpace AT EVERY int32.** (LAID: no walk: one application.) -/
theorem Tryz.unicode_IsSpace_any (r : Int) (w : World) (hlo : -2147483648 ≤ r) (hhi : r ≤ 2147483647) (hW : Lib.WhiteTab 0 w) :
    Calls Tryz.prog 51 #[.int .i32 r] w fun e w' => e = .returned (.bool (Lib.isSpaceZ r)) ∧ Below w.heap.size w w' := Any.unicode_IsSpace_any Tryz.lays199 r w hlo hhi hW
open Go.RowKit Go.Lib in
/-- unicode.IsDigit(r) AT EVERY int32, over whatever table the variable unicode.Digit leads to. (LAID: no walk: one application.) -/
theorem Tryz.unicode_IsDigit_any (T : RTab) (r : Int) (w : World) (hlo : -2147483648 ≤ r) (hhi : r ≤ 2147483647) (hV : RVar 1 T w) (hok : RTabOk T) :
    Calls Tryz.prog 78 #[.int .i32 r] w fun e w' => e = .returned (.bool (if r ≤ 255 then isDigitL r else exclGo T r)) ∧ Below w.heap.size w w' := Any.unicode_IsDigit_any Tryz.lays198 T r w hlo hhi hV hok
end Go.Proofs
