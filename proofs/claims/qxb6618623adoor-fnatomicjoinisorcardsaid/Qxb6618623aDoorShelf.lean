/-
  The library contracts on this law's road, laid in plain words by the kit's lay-shelf.mjs and lay-plain.mjs at this program's own dump (trimmed to what the proof takes).
-/
import Derived.Shelf.Strings.FieldsAny
import Derived.Shelf.Slices.Turned
import Derived.Test.Qxb6618623aDoorProg
namespace Go.Proofs
open Go.Shelf
def Tryd.lays157_ren : Go.Shelf.Ren := ⟨fun | 157 => 8 | 229 => 10 | 199 => 11 | 261 => 12 | 311 => 13 | 312 => 14 | n => n, fun | 9 => 9 | 31 => 31 | 3 => 3 | 5 => 5 | 4 => 4 | 119 => 34 | 0 => 0 | 40 => 36 | 152 => 37 | 21 => 21 | 154 => 39 | 51 => 40 | 141 => 42 | 196 => 46 | 193 => 43 | 198 => 49 | 49 => 47 | 194 => 44 | 201 => 52 | 226 => 54 | 46 => 55 | 227 => 56 | n => n, fun | 0 => 0 | 6 => 1 | n => n⟩
theorem Tryd.lays157 : Go.Proofs.Lays.n157 Tryd.prog Tryd.lays157_ren := {
  mixed := by kernel_rfl
  f157 := Tryd.func8.trans (congrArg some (by kernel_rfl))
  f199 := Tryd.func11.trans (congrArg some (by kernel_rfl))
  f229 := Tryd.func10.trans (congrArg some (by kernel_rfl))
  f261 := Tryd.func12.trans (congrArg some (by kernel_rfl))
  f311 := Tryd.func13.trans (congrArg some (by kernel_rfl))
  f312 := Tryd.func14.trans (congrArg some (by kernel_rfl))
  t0 := Tryd.underlying0
  a0 := Tryd.isAgg0
  z0 := Tryd.sizeOf0
  v0 := Tryd.zeroValue0
  t3 := Tryd.underlying3
  a3 := Tryd.isAgg3
  z3 := Tryd.sizeOf3
  v3 := Tryd.zeroValue3
  t4 := Tryd.underlying4
  a4 := Tryd.isAgg4
  z4 := Tryd.sizeOf4
  v4 := Tryd.zeroValue4
  t5 := Tryd.underlying5
  a5 := Tryd.isAgg5
  z5 := Tryd.sizeOf5
  v5 := Tryd.zeroValue5
  t9 := Tryd.underlying9
  a9 := Tryd.isAgg9
  z9 := Tryd.sizeOf9
  v9 := Tryd.zeroValue9
  t21 := Tryd.underlying21
  a21 := Tryd.isAgg21
  z21 := Tryd.sizeOf21
  v21 := Tryd.zeroValue21
  t31 := Tryd.underlying31
  a31 := Tryd.isAgg31
  z31 := Tryd.sizeOf31
  v31 := Tryd.zeroValue31
  t40 := Tryd.underlying36
  a40 := Tryd.isAgg36
  z40 := Tryd.sizeOf36
  v40 := Tryd.zeroValue36
  t46 := Tryd.underlying55
  a46 := Tryd.isAgg55
  z46 := Tryd.sizeOf55
  v46 := Tryd.zeroValue55
  t49 := Tryd.underlying47
  a49 := Tryd.isAgg47
  z49 := Tryd.sizeOf47
  v49 := Tryd.zeroValue47
  t51 := Tryd.underlying40
  a51 := Tryd.isAgg40
  z51 := Tryd.sizeOf40
  v51 := Tryd.zeroValue40
  t119 := Tryd.underlying34
  a119 := Tryd.isAgg34
  z119 := Tryd.sizeOf34
  t141 := Tryd.underlying42
  a141 := Tryd.isAgg42
  z141 := Tryd.sizeOf42
  v141 := Tryd.zeroValue42
  t152 := Tryd.underlying37
  a152 := Tryd.isAgg37
  z152 := Tryd.sizeOf37
  v152 := Tryd.zeroValue37
  t154 := Tryd.underlying39
  a154 := Tryd.isAgg39
  z154 := Tryd.sizeOf39
  v154 := Tryd.zeroValue39
  t193 := Tryd.underlying43
  a193 := Tryd.isAgg43
  z193 := Tryd.sizeOf43
  v193 := Tryd.zeroValue43
  t194 := Tryd.underlying44
  a194 := Tryd.isAgg44
  z194 := Tryd.sizeOf44
  v194 := Tryd.zeroValue44
  t196 := Tryd.underlying46
  a196 := Tryd.isAgg46
  z196 := Tryd.sizeOf46
  v196 := Tryd.zeroValue46
  t198 := Tryd.underlying49
  a198 := Tryd.isAgg49
  z198 := Tryd.sizeOf49
  v198 := Tryd.zeroValue49
  t201 := Tryd.underlying52
  a201 := Tryd.isAgg52
  z201 := Tryd.sizeOf52
  v201 := Tryd.zeroValue52
  t226 := Tryd.underlying54
  a226 := Tryd.isAgg54
  z226 := Tryd.sizeOf54
  v226 := Tryd.zeroValue54
  t227 := Tryd.underlying56
  a227 := Tryd.isAgg56
  z227 := Tryd.sizeOf56
  v227 := Tryd.zeroValue56
  g0 := by kernel_rfl
  g6 := by kernel_rfl }
open Go.RowKit Go.Lib in
/-- **strings.Fields AT EVERY STRING, VALID UTF-8 OR NOT.** (LAID: no walk: one application.) -/
theorem Tryd.strings_Fields_any (s : ByteArray) (w : World) (hs : s.size < 4294967281) (htab : Lib.TabIs Tryd.prog w "strings.asciiSpace" .u8 Lib.asciiSpaceTab) (hW : Lib.WhiteTab 1 w) :
    Calls Tryd.prog 8 #[.string s] w fun e w' => ∃ A, e = .returned (.slice (some ⟨A, 0, none⟩) (Lib.fieldsD s.data.toList).length (Lib.fieldsD s.data.toList).length) ∧ w.heap.size ≤ A ∧
      w'.ownsRow w.heap.size 9 1 (.slice (some ⟨A, 0, none⟩) (Lib.fieldsD s.data.toList).length (Lib.fieldsD s.data.toList).length) (Lib.fieldsD s.data.toList).length ((Lib.fieldsD s.data.toList).map fun x => Value.string ⟨x.toArray⟩) ∧ Below w.heap.size w w' := Any.strings_Fields_any Tryd.lays157 (by kernel_rfl) (by kernel_rfl) (by kernel_rfl) s w hs htab hW
def Tryd.lays110_ren : Go.Shelf.Ren := ⟨fun | 110 => 7 | 109 => 9 | n => n, fun | 31 => 31 | 9 => 9 | 4 => 4 | 3 => 3 | 0 => 0 | n => n, fun | n => n⟩
theorem Tryd.lays110 : Go.Proofs.Lays.n110 Tryd.prog Tryd.lays110_ren := {
  mixed := by kernel_rfl
  f109 := Tryd.func9.trans (congrArg some (by kernel_rfl))
  f110 := Tryd.func7.trans (congrArg some (by kernel_rfl))
  t0 := Tryd.underlying0
  a0 := Tryd.isAgg0
  z0 := Tryd.sizeOf0
  v0 := Tryd.zeroValue0
  t3 := Tryd.underlying3
  a3 := Tryd.isAgg3
  z3 := Tryd.sizeOf3
  v3 := Tryd.zeroValue3
  t4 := Tryd.underlying4
  a4 := Tryd.isAgg4
  z4 := Tryd.sizeOf4
  v4 := Tryd.zeroValue4
  t9 := Tryd.underlying9
  a9 := Tryd.isAgg9
  z9 := Tryd.sizeOf9
  v9 := Tryd.zeroValue9
  t31 := Tryd.underlying31
  a31 := Tryd.isAgg31
  z31 := Tryd.sizeOf31
  v31 := Tryd.zeroValue31 }
open Go.Lib in
/-- slices.Contains at []string: "Contains reports whether v is present in s.": IT RETURNS 'Lib.containsS (the elements) v', which is true just where v is among them ('Lib.containsS_iff'); the world is as it was. ITS CALLEE slices.Index IS MET BY ITS OWN CONTRACT OFF THE SHELF (lay that first): no loop is walked here. (LAID: no walk: one application.) -/
theorem Tryd.slices_Contains_string (b off n c : Nat) (zs : List ByteArray) (x : ByteArray) (w : World) (hz : n ≤ zs.length) (hbig : n ≤ 9223372036854775807) (hc : ∀ j, j < zs.length → w.cell? ⟨b, off + j, none⟩ = some (.string (zs.getD j ByteArray.empty))) :
    Calls Tryd.prog 7 #[.slice (some ⟨b, off, none⟩) n c, .string x] w fun e w' => e = .returned (.bool (Lib.containsS (zs.take n) x)) ∧ w' = w := Any.slices_Contains_string Tryd.lays110 b off n c zs x w hz hbig hc
open Go.Lib in
/-- The same at a slice of length 0, a nil one too. (LAID: no walk: one application.) -/
theorem Tryd.slices_Contains_string_empty (a : Option Addr) (c : Nat) (x : ByteArray) (w : World) :
    Calls Tryd.prog 7 #[.slice a 0 c, .string x] w fun e w' => e = .returned (.bool false) ∧ w' = w := Any.slices_Contains_string_empty Tryd.lays110 a c x w
def Tryd.lays199_ren : Go.Shelf.Ren := ⟨fun | 199 => 11 | 261 => 12 | 311 => 13 | 312 => 14 | n => n, fun | 21 => 21 | 4 => 4 | 51 => 40 | 141 => 42 | 0 => 0 | 196 => 46 | 193 => 43 | 3 => 3 | 198 => 49 | 49 => 47 | 194 => 44 | 201 => 52 | 226 => 54 | 46 => 55 | 227 => 56 | n => n, fun | 6 => 1 | n => n⟩
theorem Tryd.lays199 : Go.Proofs.Lays.n199 Tryd.prog Tryd.lays199_ren := {
  mixed := by kernel_rfl
  f199 := Tryd.func11.trans (congrArg some (by kernel_rfl))
  f261 := Tryd.func12.trans (congrArg some (by kernel_rfl))
  f311 := Tryd.func13.trans (congrArg some (by kernel_rfl))
  f312 := Tryd.func14.trans (congrArg some (by kernel_rfl))
  t0 := Tryd.underlying0
  a0 := Tryd.isAgg0
  z0 := Tryd.sizeOf0
  v0 := Tryd.zeroValue0
  t3 := Tryd.underlying3
  a3 := Tryd.isAgg3
  z3 := Tryd.sizeOf3
  v3 := Tryd.zeroValue3
  t4 := Tryd.underlying4
  a4 := Tryd.isAgg4
  z4 := Tryd.sizeOf4
  v4 := Tryd.zeroValue4
  t21 := Tryd.underlying21
  a21 := Tryd.isAgg21
  z21 := Tryd.sizeOf21
  v21 := Tryd.zeroValue21
  t46 := Tryd.underlying55
  a46 := Tryd.isAgg55
  z46 := Tryd.sizeOf55
  v46 := Tryd.zeroValue55
  t49 := Tryd.underlying47
  a49 := Tryd.isAgg47
  z49 := Tryd.sizeOf47
  v49 := Tryd.zeroValue47
  t51 := Tryd.underlying40
  a51 := Tryd.isAgg40
  z51 := Tryd.sizeOf40
  v51 := Tryd.zeroValue40
  t141 := Tryd.underlying42
  a141 := Tryd.isAgg42
  z141 := Tryd.sizeOf42
  v141 := Tryd.zeroValue42
  t193 := Tryd.underlying43
  a193 := Tryd.isAgg43
  z193 := Tryd.sizeOf43
  v193 := Tryd.zeroValue43
  t194 := Tryd.underlying44
  a194 := Tryd.isAgg44
  z194 := Tryd.sizeOf44
  v194 := Tryd.zeroValue44
  t196 := Tryd.underlying46
  a196 := Tryd.isAgg46
  z196 := Tryd.sizeOf46
  v196 := Tryd.zeroValue46
  t198 := Tryd.underlying49
  a198 := Tryd.isAgg49
  z198 := Tryd.sizeOf49
  v198 := Tryd.zeroValue49
  t201 := Tryd.underlying52
  a201 := Tryd.isAgg52
  z201 := Tryd.sizeOf52
  v201 := Tryd.zeroValue52
  t226 := Tryd.underlying54
  a226 := Tryd.isAgg54
  z226 := Tryd.sizeOf54
  v226 := Tryd.zeroValue54
  t227 := Tryd.underlying56
  a227 := Tryd.isAgg56
  z227 := Tryd.sizeOf56
  v227 := Tryd.zeroValue56
  g6 := by kernel_rfl }
end Go.Proofs
