/- A world that lays the listed variables: the witness of the six cards. -/
import Derived.Test.YtbjfahhfcdnkaaaGreatDoorRows
import Derived.WalkKit
import Derived.ProofKit
import Derived.Lay
import Derived.LaidMore
import Derived.LaidOnce
namespace Go.Proofs.YtbjfahhfcdnkaaaGreatDoor
open Go.ChangeShapes Go.WideShapes Go.ChangeAt Go.RowKit

def laidList : List (String × DataW Unit) := [("unicode/utf8.acceptRanges", Rows.laid_unicode_utf8_acceptRanges), ("bytes.ErrTooLarge", Rows.laid_bytes_ErrTooLarge), ("unicode/utf8.first", Rows.laid_unicode_utf8_first)]

theorem own : ownKnob Tryz.prog.godebug = none := by kernel_rfl
set_option maxRecDepth 100000 in
theorem wit_met (os : Os) (args : Array Value) : laidMetH Tryz.prog laidList ((World.laidAll Tryz.prog os laidList).forCall (fun _ _ => 0) ⟨#[], args, []⟩).memory := by
  rw [MakeChecks.laidMetH_plain _ _ _ (by kernel_rfl)]
  exact laidMet_laidAll _ (by kernel_rfl) (by kernel_rfl)
end Go.Proofs.YtbjfahhfcdnkaaaGreatDoor
