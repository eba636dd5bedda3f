/-
  The numbers at which this program holds utf8.ValidString and what it reaches (a table that the kit's lay-plain tool printed), and its contract out of the kit's shelf.
-/
import Derived.Shelf.Unicode.ValidAny
import Derived.Test.YtlbhelibgifaaaaDoorProg
namespace Go.Proofs.YtlbhelibgifaaaaDoor
open Go.Shelf Go.RowKit
def valid_ren : Go.Shelf.Ren := ⟨fun | 196 => 24 | 259 => 26 | n => n, fun | 9 => 9 | 4 => 4 | 3 => 3 | 5 => 5 | 12 => 12 | 119 => 35 | 0 => 0 | 46 => 39 | 139 => 38 | 138 => 37 | 53 => 40 | n => n, fun | 3 => 0 | 4 => 1 | n => n⟩
theorem laysValid : Go.Proofs.Lays.n196 Tryd.prog valid_ren := {
  mixed := by kernel_rfl
  f196 := Tryd.func24.trans (congrArg some (by kernel_rfl))
  f259 := Tryd.func26.trans (congrArg some (by kernel_rfl))
  t0 := Tryd.underlying0
  a0 := Tryd.isAgg0
  z0 := Tryd.sizeOf0
  v0 := Tryd.zeroValue0
  t3 := Tryd.underlying3
  a3 := Tryd.isAgg3
  z3 := Tryd.sizeOf3
  v3 := Tryd.zeroValue3
  t4 := Tryd.underlying4
  a4 := Tryd.isAgg4
  z4 := Tryd.sizeOf4
  v4 := Tryd.zeroValue4
  t5 := Tryd.underlying5
  a5 := Tryd.isAgg5
  z5 := Tryd.sizeOf5
  v5 := Tryd.zeroValue5
  t9 := Tryd.underlying9
  a9 := Tryd.isAgg9
  z9 := Tryd.sizeOf9
  v9 := Tryd.zeroValue9
  t12 := Tryd.underlying12
  a12 := Tryd.isAgg12
  z12 := Tryd.sizeOf12
  v12 := Tryd.zeroValue12
  t46 := Tryd.underlying39
  a46 := Tryd.isAgg39
  z46 := Tryd.sizeOf39
  v46 := Tryd.zeroValue39
  t53 := Tryd.underlying40
  a53 := Tryd.isAgg40
  z53 := Tryd.sizeOf40
  v53 := Tryd.zeroValue40
  t119 := Tryd.underlying35
  a119 := Tryd.isAgg35
  z119 := Tryd.sizeOf35
  t138 := Tryd.underlying37
  a138 := Tryd.isAgg37
  z138 := Tryd.sizeOf37
  v138 := Tryd.zeroValue37
  t139 := Tryd.underlying38
  a139 := Tryd.isAgg38
  z139 := Tryd.sizeOf38
  v139 := Tryd.zeroValue38
  g3 := by kernel_rfl
  g4 := by kernel_rfl }

/-- utf8.ValidString's two tables lie as their initialisers lay them. -/
def Tabs (w : World) : Prop := Lib.Utf8Tabs (valid_ren.g 3) (valid_ren.g 4) w
theorem Tabs.below {B : Nat} {w w' : World} (h : Tabs w) (hb : Below B w w') (hB : B = w.heap.size) : Tabs w' := by
  subst hB; exact Utf8Tabs_below h hb
theorem valid_any (s : ByteArray) (w : World) (hs : s.size ≤ 9223372036854775807) (hT : Tabs w) :
    Calls Tryd.prog 24 #[.string s] w fun e w' => e = .returned (.bool (Lib.validD s.data.toList)) ∧ Below w.heap.size w w' :=
  Any.utf8_ValidString laysValid s w hs hT
end Go.Proofs.YtlbhelibgifaaaaDoor
