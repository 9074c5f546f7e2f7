/- The closed facts of the row FnTold, each for itself: a look at the program's form. Conditions: none. -/
import Derived.Test.YtipmpeekfajlcaaGreatDoorRows
import Derived.Lay
import Derived.LaidMore
import Derived.ProofKit
import Derived.Stop.Joined
namespace Go.Proofs.YtipmpeekfajlcaaGreatDoor.fnTold
open Go.ChangeShapes Go.WideShapes Go.ChangeAt Go.RowKit

theorem j1 : Rows.fnToldRow.wf (OpenSpec.ofChange Rows.fnToldSpec) = true := by kernel_rfl
theorem j2 : laidOutB Tryz.prog = true := by kernel_rfl
theorem j3 : mapsRowed Tryz.prog = true := by kernel_rfl
theorem j4 : Tryz.f3.params.all (Tryz.prog.readableRec ·) = true := by kernel_rfl
theorem j5 : namedTie Tryz.prog Rows.fnToldRow.named Rows.fnToldSpec.vars = true := by kernel_rfl
theorem j6 : (Rows.fnToldRow.stops == []) = true := by kernel_rfl
theorem j7 : (Tryz.prog.stops == []) = true := by kernel_rfl
theorem j8 : (Rows.fnToldRow.knobs == []) = true := by kernel_rfl
theorem j9 : (Tryz.prog.stopKnobs == []) = true := by kernel_rfl
theorem j10 : (Rows.fnToldRow.inPlace == Tryz.prog.inPlace 3) = true := by kernel_rfl
theorem j11 : (Rows.fnToldRow.unfollowed == Tryz.prog.unfollowed 3) = true := by kernel_rfl
theorem j12 : (Rows.fnToldRow.recurses == Tryz.prog.recurses 3) = true := by kernel_rfl
theorem j13 : (Rows.fnToldRow.named == Tryz.prog.varsNamed 3) = true := by kernel_rfl
theorem j14 : (Rows.fnToldRow.maps == (Tryz.f3.params.toList ++ Rows.fnToldSpec.plain.varTypes Tryz.prog).any (Tryz.prog.mapsRec ·)) = true := by kernel_rfl
theorem j15 : (Rows.fnToldRow.ifaces == (Tryz.f3.params.toList ++ Rows.fnToldSpec.plain.varTypes Tryz.prog).any (Tryz.prog.ifacesRec ·)) = true := by kernel_rfl
theorem j16 : (Rows.fnToldRow.mapsOut == Tryz.prog.mapsAmong Tryz.f3.resultTypes.toList) = true := by kernel_rfl
theorem j17 : (Rows.fnToldRow.loops == (Tryz.f3.params.toList ++ Rows.fnToldSpec.plain.varTypes Tryz.prog).any (Tryz.prog.loopsFrom ·)) = true := by kernel_rfl
theorem j18 : (Rows.fnToldRow.wideKeys == (Tryz.f3.params.toList ++ Rows.fnToldSpec.plain.varTypes Tryz.prog ++ Tryz.f3.resultTypes.toList).any (Tryz.prog.wideKeysFrom ·)) = true := by kernel_rfl
theorem j19 : Rows.fnToldSpec.vars.all (Tryz.prog.varReadable ·) = true := by kernel_rfl
theorem j20 : Tryz.f3.resultTypes.all (fun t => Tryz.prog.readableRec t && decide (t < Tryz.prog.types.size)) = true := by kernel_rfl
theorem j21 : (Rows.fnToldRow.ifacesOut == Tryz.f3.resultTypes.toList.any (Tryz.prog.ifacesRec ·)) = true := by kernel_rfl
theorem j22 : (Rows.fnToldRow.loopsOut == Tryz.f3.resultTypes.toList.any (Tryz.prog.loopsFrom ·)) = true := by kernel_rfl
theorem j23 : (Rows.fnToldRow.plainKeys == Tryz.prog.plainKeys) = true := by kernel_rfl
theorem j24 : Rows.fnToldRow.shortTexts.isNone = true := by kernel_rfl
theorem j25 : Tryz.prog.stopsHeard = true := by kernel_rfl
theorem j26 : Tryz.prog.mayEnter = true := by kernel_rfl
theorem j27 : (Rows.fnToldRow.lifted == Tryz.prog.liftsFinal) = true := by kernel_rfl
theorem j28 : (Tryz.prog.make == some Rows.fnToldRow.make) = true := by kernel_rfl
theorem j29 : (Rows.fnToldRow.kinds == (if Rows.fnToldRow.domain.isEmpty then [] else Tryz.f3.params.toList.map fun t => match Tryz.prog.underlying t with | some (.int k) => some k | _ => none)) = true := by kernel_rfl
theorem j30 : (Rows.fnToldRow.pinned == Rows.fnToldRow.pinnedBy) = true := by kernel_rfl
theorem j31 : (Rows.fnToldRow.veiled == (Tryz.f3.params.toList ++ Rows.fnToldSpec.plain.varTypes Tryz.prog ++ Tryz.f3.resultTypes.toList).any (Tryz.prog.veiledRec ·)) = true := by kernel_rfl
theorem j32 : Rows.fnToldRow.veiledFits Tryz.prog Tryz.f3.params.toList (Tryz.f3.params.toList ++ Rows.fnToldSpec.plain.varTypes Tryz.prog ++ Tryz.f3.resultTypes.toList) = true := by kernel_rfl

theorem two {a b : Bool} (h : a = true) (k : b = true) : (a && b) = true := by rw [h, k]; rfl

set_option maxRecDepth 100000 in
theorem closed : joinedFacts Tryz.prog 3 Tryz.f3 Rows.fnToldSpec Rows.fnToldRow = true := by
  unfold joinedFacts
  exact two (two (two (two (two (two (two (two (two (two (two (two (two (two (two (two (two (two (two (two (two (two (two (two (two (two (two (two (two (two (two j1 j2) j3) j4) j5) j6) j7) j8) j9) j10) j11) j12) j13) j14) j15) j16) j17) j18) j19) j20) j21) j22) j23) j24) j25) j26) j27) j28) j29) j30) j31) j32

theorem funcNamed : Tryz.prog.funcNamed Rows.fnToldRow.func = some 3 := by kernel_rfl
theorem wrapper_of : Tryz.f3.isWrapper Tryz.prog Rows.fnToldRow.wrapper Rows.fnToldRow.mainSum := by unfold Func.isWrapper; first | (rw [if_pos (by decide +kernel)]; kernel_rfl) | (rw [if_neg (by decide +kernel)]; exact ⟨rfl, rfl⟩)
theorem instance_of : Tryz.f3.isInstance Tryz.prog Rows.fnToldRow.origin Rows.fnToldRow.targs := of_decide_eq_true (by kernel_rfl)
end Go.Proofs.YtipmpeekfajlcaaGreatDoor.fnTold
