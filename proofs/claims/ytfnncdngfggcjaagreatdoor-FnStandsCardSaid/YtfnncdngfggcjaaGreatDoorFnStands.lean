/- The law FnStands answers true at every input, and leaves its arguments as they were: proved on the condition that the package-level variables of its row's list (io.EOF, bufio.ErrBufferFull, strings.asciiSpace, the two tables of math/bits) hold what the program's text lays, which the card ties. -/
import Derived.Test.YtfnncdngfggcjaaGreatDoorStandsD
import Derived.Test.YtfnncdngfggcjaaGreatDoorCards
import Derived.Test.YtfnncdngfggcjaaGreatDoorTie
import Derived.ProofKit
import Derived.OpenShut
import Derived.Deep.DeepHandedRow
import Derived.ChangeMaps5
namespace Go.Proofs.YtfnncdngfggcjaaGreatDoor
open Go.ChangeShapes Go.WideShapes Go.ChangeAt Go.RowKit Go.ChangeMaps

theorem plainStands (f : FuncId) (fn : Func) (hf : Tryz.pinned.checked.prog.funcNamed "loop.example/pub-g03070/laws.FnStands" = some f) (hfn : Tryz.pinned.checked.prog.funcs[f]? = some fn) :
    true = Tryz.pinned.checked.prog.looks [] ∧ ∀ (j : Nat) t, fn.params[j]? = some t → Tryz.pinned.checked.prog.wantsStandIn t = false := by
  obtain rfl : f = 11 := Option.some.inj ((show Tryz.prog.funcNamed "loop.example/pub-g03070/laws.FnStands" = some 11 by kernel_rfl).symm.trans hf) |>.symm
  obtain rfl : fn = Tryz.f11 := (Option.some.inj (Tryz.func11.symm.trans hfn)).symm
  refine ⟨by kernel_rfl, fun j t ht => ?_⟩
  rw [Tryz.params11] at ht
  have hm : t = 9 ∨ t = 9 ∨ t = 9 ∨ t = 4 ∨ t = 9 ∨ t = 9 := by simpa using Array.mem_of_getElem? ht
  rcases hm with rfl | rfl | rfl | rfl | rfl | rfl
  · exact (show Tryz.prog.wantsStandIn 9 = false by kernel_rfl)
  · exact (show Tryz.prog.wantsStandIn 9 = false by kernel_rfl)
  · exact (show Tryz.prog.wantsStandIn 9 = false by kernel_rfl)
  · exact (show Tryz.prog.wantsStandIn 4 = false by kernel_rfl)
  · exact (show Tryz.prog.wantsStandIn 9 = false by kernel_rfl)
  · exact (show Tryz.prog.wantsStandIn 9 = false by kernel_rfl)

/-- The card. -/
theorem cardStands : Rows.FnStandsCardSaid :=
  Claim7.holds_tied_plain_at .later [] _ _ _ _ saidStands (fun _ h => by cases h) (by kernel_rfl) (fun _ h => by cases h) fnStands_row_tie rfl ⟨rfl, rfl⟩ (by kernel_rfl) rfl plainStands (by kernel_rfl)

end Go.Proofs.YtfnncdngfggcjaaGreatDoor
