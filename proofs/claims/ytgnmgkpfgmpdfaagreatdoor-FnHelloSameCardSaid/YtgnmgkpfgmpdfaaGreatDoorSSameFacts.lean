/- The closed facts of the row of laws.FnHelloSame, one by one: together they fell the kernel by memory. -/
import Derived.Test.YtgnmgkpfgmpdfaaGreatDoorCards
import Derived.JoinedOf
import Derived.Stop.Joined
import Derived.ProofKit
set_option linter.unusedVariables false
set_option linter.unusedSimpArgs false
namespace Go.Proofs.YtgnmgkpfgmpdfaaGreatDoor
theorem and2 {a b : Bool} (h : a = true) (k : b = true) : (a && b) = true := by rw [h, k]; rfl
set_option maxRecDepth 100000
theorem j1 : Rows.fnHelloSameRow.wf (OpenSpec.ofChange Rows.fnHelloSameSpec) = true := by kernel_rfl
theorem j2 : laidOutB Tryz.prog = true := by kernel_rfl
theorem j3 : mapsRowed Tryz.prog = true := by kernel_rfl
theorem j4 : Tryz.f4.params.all (Tryz.prog.readableRec ·) = true := by kernel_rfl
theorem j5 : namedTie Tryz.prog Rows.fnHelloSameRow.named Rows.fnHelloSameSpec.vars = true := by kernel_rfl
theorem j6 : (Rows.fnHelloSameRow.stops == []) = true := by kernel_rfl
theorem j7 : (Tryz.prog.stops == []) = true := by kernel_rfl
theorem j8 : (Rows.fnHelloSameRow.knobs == []) = true := by kernel_rfl
theorem j9 : (Tryz.prog.stopKnobs == []) = true := by kernel_rfl
theorem j10 : (Rows.fnHelloSameRow.inPlace == Tryz.prog.inPlace 4) = true := by kernel_rfl
theorem j11 : (Rows.fnHelloSameRow.unfollowed == Tryz.prog.unfollowed 4) = true := by kernel_rfl
theorem j12 : (Rows.fnHelloSameRow.recurses == Tryz.prog.recurses 4) = true := by kernel_rfl
theorem j13 : (Rows.fnHelloSameRow.named == Tryz.prog.varsNamed 4) = true := by kernel_rfl
theorem j14 : (Rows.fnHelloSameRow.maps == (Tryz.f4.params.toList ++ Rows.fnHelloSameSpec.plain.varTypes Tryz.prog).any (Tryz.prog.mapsRec ·)) = true := by kernel_rfl
theorem j15 : (Rows.fnHelloSameRow.ifaces == (Tryz.f4.params.toList ++ Rows.fnHelloSameSpec.plain.varTypes Tryz.prog).any (Tryz.prog.ifacesRec ·)) = true := by kernel_rfl
theorem j16 : (Rows.fnHelloSameRow.mapsOut == Tryz.prog.mapsAmong Tryz.f4.resultTypes.toList) = true := by kernel_rfl
theorem j17 : (Rows.fnHelloSameRow.loops == (Tryz.f4.params.toList ++ Rows.fnHelloSameSpec.plain.varTypes Tryz.prog).any (Tryz.prog.loopsFrom ·)) = true := by kernel_rfl
theorem j18 : (Rows.fnHelloSameRow.wideKeys == (Tryz.f4.params.toList ++ Rows.fnHelloSameSpec.plain.varTypes Tryz.prog ++ Tryz.f4.resultTypes.toList).any (Tryz.prog.wideKeysFrom ·)) = true := by kernel_rfl
theorem j19 : Rows.fnHelloSameSpec.vars.all (Tryz.prog.varReadable ·) = true := by kernel_rfl
theorem j20 : Tryz.f4.resultTypes.all (fun t => Tryz.prog.readableRec t && decide (t < Tryz.prog.types.size)) = true := by kernel_rfl
theorem j21 : (Rows.fnHelloSameRow.ifacesOut == Tryz.f4.resultTypes.toList.any (Tryz.prog.ifacesRec ·)) = true := by kernel_rfl
theorem j22 : (Rows.fnHelloSameRow.loopsOut == Tryz.f4.resultTypes.toList.any (Tryz.prog.loopsFrom ·)) = true := by kernel_rfl
theorem j23 : (Rows.fnHelloSameRow.plainKeys == Tryz.prog.plainKeys) = true := by kernel_rfl
theorem j24 : Rows.fnHelloSameRow.shortTexts.isNone = true := by kernel_rfl
theorem j25 : Tryz.prog.stopsHeard = true := by kernel_rfl
theorem j26 : Tryz.prog.mayEnter = true := by kernel_rfl
theorem j27 : (Rows.fnHelloSameRow.lifted == Tryz.prog.liftsFinal) = true := by kernel_rfl
theorem j28 : (Tryz.prog.make == some Rows.fnHelloSameRow.make) = true := by kernel_rfl
theorem j29 : (Rows.fnHelloSameRow.kinds == (if Rows.fnHelloSameRow.domain.isEmpty then [] else Tryz.f4.params.toList.map fun t => match Tryz.prog.underlying t with | some (.int k) => some k | _ => none)) = true := by kernel_rfl
theorem j30 : (Rows.fnHelloSameRow.pinned == Rows.fnHelloSameRow.pinnedBy) = true := by kernel_rfl
theorem j31 : (Rows.fnHelloSameRow.veiled == (Tryz.f4.params.toList ++ Rows.fnHelloSameSpec.plain.varTypes Tryz.prog ++ Tryz.f4.resultTypes.toList).any (Tryz.prog.veiledRec ·)) = true := by kernel_rfl
theorem j32 : Rows.fnHelloSameRow.veiledFits Tryz.prog Tryz.f4.params.toList (Tryz.f4.params.toList ++ Rows.fnHelloSameSpec.plain.varTypes Tryz.prog ++ Tryz.f4.resultTypes.toList) = true := by kernel_rfl
theorem same_closed : joinedFacts Tryz.prog 4 Tryz.f4 Rows.fnHelloSameSpec Rows.fnHelloSameRow = true := by
  unfold joinedFacts
  exact (and2 (and2 (and2 (and2 (and2 (and2 (and2 (and2 (and2 (and2 (and2 (and2 (and2 (and2 (and2 (and2 (and2 (and2 (and2 (and2 (and2 (and2 (and2 (and2 (and2 (and2 (and2 (and2 (and2 (and2 (and2 j1 j2) j3) j4) j5) j6) j7) j8) j9) j10) j11) j12) j13) j14) j15) j16) j17) j18) j19) j20) j21) j22) j23) j24) j25) j26) j27) j28) j29) j30) j31) j32)
end Go.Proofs.YtgnmgkpfgmpdfaaGreatDoor
