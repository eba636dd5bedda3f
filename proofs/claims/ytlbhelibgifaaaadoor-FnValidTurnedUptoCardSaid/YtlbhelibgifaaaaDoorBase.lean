/-
  What all the cards of this seat share: that the two listed tables of unicode/utf8, read as listed, are what utf8.ValidString's contract asks; and a world that holds them, for the witness.
-/
import Derived.Test.YtlbhelibgifaaaaDoorCards
import Derived.Test.YtlbhelibgifaaaaDoorTie
import Derived.Test.YtlbhelibgifaaaaDoorShelf
import Derived.WalkKit
import Derived.ProofKit
import Derived.OpenShut
import Derived.Deep.DeepHandedRow
import Derived.Deep.DeepWitnessRowRef
import Derived.Lib.LaidTab
import Derived.Lib.LaidIn
import Derived.Lib.LaidU8T
namespace Go.Proofs.YtlbhelibgifaaaaDoor
open Go.ChangeShapes Go.WideShapes Go.ChangeAt Go.RowKit Go.Shelf Go.Lib

theorem own : ownKnob Tryd.prog.godebug = none := by kernel_rfl
/-- What every row of this seat lists. -/
def laidL : List (String × DataW Unit) := Rows.fnExactValidPathRow.laid
theorem first_eq : Rows.laid_unicode_utf8_first = Lib.firstData := by kernel_rfl
theorem accept_eq : (Rows.laid_unicode_utf8_acceptRanges : DataW Unit) = Lib.acceptData := by kernel_rfl
theorem laid_plain {W : World} (h : laidMetH Tryd.prog laidL W) : laidMet Tryd.prog laidL W := h
theorem tabs_of {W : World} (h : laidMetH Tryd.prog laidL W) : Tabs W := by
  have h2 := laid_plain h
  refine utf8Tabs_of_readsT (U8Types.of196 laysValid) ⟨by kernel_rfl, by kernel_rfl, by kernel_rfl, by kernel_rfl, by kernel_rfl, by kernel_rfl, by kernel_rfl⟩ ?_ ?_
  · rw [← first_eq]; exact Lib.laidMet.reads h2 (.tail _ (.head _))
  · rw [← accept_eq]; exact Lib.laidMet.reads h2 (.head _)

/-- A world for the witness: the settled one, the two tables holding what is listed. -/
noncomputable def laidWorld (os : Os) : World :=
  let w0 := World.holding Tryd.prog os ⟨#[], #[], []⟩
  let put (h : Array Obj) (g : Nat) (cs : Array Value) : Array Obj := h.modify g fun
    | .cells _ t frozen => .cells cs t frozen
    | o => o
  let h1 := put w0.heap 0 (Lib.firstTab.map fun z => Value.int .u8 z).toArray
  let h2 := put h1 1 ((List.range 16).flatMap fun i => [Value.int .u8 (Lib.accLo i), Value.int .u8 (Lib.accHi i)]).toArray
  { w0 with heap := h2 }
theorem laid_met (os : Os) (args : Array Value) : laidMet Tryd.prog laidL ((laidWorld os).forCall (fun _ _ => 0) ⟨#[], args, []⟩).memory :=
  (LaidIn.of_run (l := laidL) [1, 0] 8 (by kernel_rfl) (by kernel_rfl) (by kernel_rfl) (by kernel_rfl)).met
end Go.Proofs.YtlbhelibgifaaaaDoor
