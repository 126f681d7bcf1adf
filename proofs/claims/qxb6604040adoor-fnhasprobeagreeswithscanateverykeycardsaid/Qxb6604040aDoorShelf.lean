/-
  The library's contract for strings.Fields at this dump, laid by the kit's tools (lay-shelf, lay-plain) for this program.
-/
import Derived.Shelf.Strings.Fields
import Derived.Test.Qxb6604040aDoorProg
namespace Go.Proofs
open Go.Shelf
def Tryd.lays157_ren : Go.Shelf.Ren := ⟨fun | 157 => 31 | 229 => 33 | 199 => 34 | 261 => 35 | 311 => 36 | 312 => 37 | n => n, fun | 9 => 9 | 31 => 23 | 3 => 3 | 5 => 5 | 4 => 4 | 119 => 54 | 0 => 0 | 40 => 56 | 152 => 57 | 21 => 21 | 154 => 59 | 51 => 60 | 141 => 62 | 196 => 66 | 193 => 63 | 198 => 69 | 49 => 67 | 194 => 64 | 201 => 72 | 226 => 74 | 46 => 40 | 227 => 75 | n => n, fun | 0 => 0 | 6 => 1 | n => n⟩
theorem Tryd.lays157 : Go.Proofs.Lays.n157 Tryd.prog Tryd.lays157_ren := {
  mixed := by kernel_rfl
  f157 := Tryd.func31.trans (congrArg some (by kernel_rfl))
  f199 := Tryd.func34.trans (congrArg some (by kernel_rfl))
  f229 := Tryd.func33.trans (congrArg some (by kernel_rfl))
  f261 := Tryd.func35.trans (congrArg some (by kernel_rfl))
  f311 := Tryd.func36.trans (congrArg some (by kernel_rfl))
  f312 := Tryd.func37.trans (congrArg some (by kernel_rfl))
  t0 := Tryd.underlying0
  a0 := Tryd.isAgg0
  z0 := Tryd.sizeOf0
  v0 := Tryd.zeroValue0
  t3 := Tryd.underlying3
  a3 := Tryd.isAgg3
  z3 := Tryd.sizeOf3
  v3 := Tryd.zeroValue3
  t4 := Tryd.underlying4
  a4 := Tryd.isAgg4
  z4 := Tryd.sizeOf4
  v4 := Tryd.zeroValue4
  t5 := Tryd.underlying5
  a5 := Tryd.isAgg5
  z5 := Tryd.sizeOf5
  v5 := Tryd.zeroValue5
  t9 := Tryd.underlying9
  a9 := Tryd.isAgg9
  z9 := Tryd.sizeOf9
  v9 := Tryd.zeroValue9
  t21 := Tryd.underlying21
  a21 := Tryd.isAgg21
  z21 := Tryd.sizeOf21
  v21 := Tryd.zeroValue21
  t31 := Tryd.underlying23
  a31 := Tryd.isAgg23
  z31 := Tryd.sizeOf23
  v31 := Tryd.zeroValue23
  t40 := Tryd.underlying56
  a40 := Tryd.isAgg56
  z40 := Tryd.sizeOf56
  v40 := Tryd.zeroValue56
  t46 := Tryd.underlying40
  a46 := Tryd.isAgg40
  z46 := Tryd.sizeOf40
  v46 := Tryd.zeroValue40
  t49 := Tryd.underlying67
  a49 := Tryd.isAgg67
  z49 := Tryd.sizeOf67
  v49 := Tryd.zeroValue67
  t51 := Tryd.underlying60
  a51 := Tryd.isAgg60
  z51 := Tryd.sizeOf60
  v51 := Tryd.zeroValue60
  t119 := Tryd.underlying54
  a119 := Tryd.isAgg54
  z119 := Tryd.sizeOf54
  t141 := Tryd.underlying62
  a141 := Tryd.isAgg62
  z141 := Tryd.sizeOf62
  v141 := Tryd.zeroValue62
  t152 := Tryd.underlying57
  a152 := Tryd.isAgg57
  z152 := Tryd.sizeOf57
  v152 := Tryd.zeroValue57
  t154 := Tryd.underlying59
  a154 := Tryd.isAgg59
  z154 := Tryd.sizeOf59
  v154 := Tryd.zeroValue59
  t193 := Tryd.underlying63
  a193 := Tryd.isAgg63
  z193 := Tryd.sizeOf63
  v193 := Tryd.zeroValue63
  t194 := Tryd.underlying64
  a194 := Tryd.isAgg64
  z194 := Tryd.sizeOf64
  v194 := Tryd.zeroValue64
  t196 := Tryd.underlying66
  a196 := Tryd.isAgg66
  z196 := Tryd.sizeOf66
  v196 := Tryd.zeroValue66
  t198 := Tryd.underlying69
  a198 := Tryd.isAgg69
  z198 := Tryd.sizeOf69
  v198 := Tryd.zeroValue69
  t201 := Tryd.underlying72
  a201 := Tryd.isAgg72
  z201 := Tryd.sizeOf72
  v201 := Tryd.zeroValue72
  t226 := Tryd.underlying74
  a226 := Tryd.isAgg74
  z226 := Tryd.sizeOf74
  v226 := Tryd.zeroValue74
  t227 := Tryd.underlying75
  a227 := Tryd.isAgg75
  z227 := Tryd.sizeOf75
  v227 := Tryd.zeroValue75
  g0 := by kernel_rfl
  g6 := by kernel_rfl }
open Go.RowKit Go.Lib in
/-- strings.Fields, the table by 'Lib.TabIs' (as strings.TrimSpace's contract). 'hg': the table's number, by its name: at a dump 'by kernel_rfl'. (LAID: no walk: one application.) -/
theorem Tryd.strings_Fields (s : ByteArray) (w : World) (hs : s.size < 4294967281) (hascii : ∀ (j : Nat) b, s.data.toList[j]? = some b → b.toNat < 128) (htab : Lib.TabIs Tryd.prog w "strings.asciiSpace" .u8 Lib.asciiSpaceTab) :
    Calls Tryd.prog 31 #[.string s] w fun e w' =>
      e = .returned (.slice (some ⟨w.heap.size, 0, none⟩) (Lib.fields s.data.toList).length (Lib.fields s.data.toList).length) ∧ w' = w.alloc (.cells ((Lib.fields s.data.toList).map fun l => Value.string ⟨l.toArray⟩).toArray 9) := Any.strings_Fields Tryd.lays157 (by kernel_rfl) (by kernel_rfl) s w hs hascii htab
end Go.Proofs
