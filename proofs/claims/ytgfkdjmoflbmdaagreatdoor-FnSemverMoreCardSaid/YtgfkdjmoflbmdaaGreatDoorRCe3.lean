/- FnSemverMore: the row's closed facts, one by one. -/
import Derived.Test.YtgfkdjmoflbmdaaGreatDoorRows
import Derived.JoinedCond
namespace Go.Proofs.YtgfkdjmoflbmdaaGreatDoor.SemverMore
open Go
theorem k0 : (Rows.fnSemverMoreRow.wf (OpenSpec.ofChange (OpenSpec.ofChange Rows.fnSemverMoreSpec).bare)) = true := by kernel_rfl
theorem k1 : laidOutB Tryz.pinned.checked.prog = true := by kernel_rfl
theorem k2 : mapsRowed Tryz.pinned.checked.prog = true := by kernel_rfl
theorem k3 : Tryz.f3.params.all (Tryz.pinned.checked.prog.readableRec ·) = true := by kernel_rfl
theorem k4 : namedTie Tryz.pinned.checked.prog Rows.fnSemverMoreRow.named (OpenSpec.ofChange Rows.fnSemverMoreSpec).bare.vars = true := by kernel_rfl
theorem k5 : (Rows.fnSemverMoreRow.stops == []) = true := by kernel_rfl
theorem k6 : (Tryz.pinned.checked.prog.stops == []) = true := by kernel_rfl
theorem k7 : (Rows.fnSemverMoreRow.knobs == []) = true := by kernel_rfl
theorem k8 : (Tryz.pinned.checked.prog.stopKnobs == []) = true := by kernel_rfl
theorem k9 : (Rows.fnSemverMoreRow.inPlace == Tryz.pinned.checked.prog.inPlace 3) = true := by kernel_rfl
theorem k10 : (Rows.fnSemverMoreRow.unfollowed == Tryz.pinned.checked.prog.unfollowed 3) = true := by kernel_rfl
theorem k11 : (Rows.fnSemverMoreRow.recurses == Tryz.pinned.checked.prog.recurses 3) = true := by kernel_rfl
theorem k12 : (Rows.fnSemverMoreRow.named == Tryz.pinned.checked.prog.varsNamed 3) = true := by kernel_rfl
theorem k13 : (Rows.fnSemverMoreRow.maps == (Tryz.f3.params.toList ++ (OpenSpec.ofChange Rows.fnSemverMoreSpec).bare.plain.varTypes Tryz.pinned.checked.prog).any (Tryz.pinned.checked.prog.mapsRec ·)) = true := by kernel_rfl
theorem k14 : (Rows.fnSemverMoreRow.ifaces == (Tryz.f3.params.toList ++ (OpenSpec.ofChange Rows.fnSemverMoreSpec).bare.plain.varTypes Tryz.pinned.checked.prog).any (Tryz.pinned.checked.prog.ifacesRec ·)) = true := by kernel_rfl
theorem k15 : (Rows.fnSemverMoreRow.mapsOut == Tryz.pinned.checked.prog.mapsAmong Tryz.f3.resultTypes.toList) = true := by kernel_rfl
theorem k16 : (Rows.fnSemverMoreRow.loops == (Tryz.f3.params.toList ++ (OpenSpec.ofChange Rows.fnSemverMoreSpec).bare.plain.varTypes Tryz.pinned.checked.prog).any (Tryz.pinned.checked.prog.loopsFrom ·)) = true := by kernel_rfl
theorem k17 : (Rows.fnSemverMoreRow.wideKeys == (Tryz.f3.params.toList ++ (OpenSpec.ofChange Rows.fnSemverMoreSpec).bare.plain.varTypes Tryz.pinned.checked.prog ++ Tryz.f3.resultTypes.toList).any (Tryz.pinned.checked.prog.wideKeysFrom ·)) = true := by kernel_rfl
theorem k18 : (OpenSpec.ofChange Rows.fnSemverMoreSpec).bare.vars.all (Tryz.pinned.checked.prog.varReadable ·) = true := by kernel_rfl
theorem k19 : Tryz.f3.resultTypes.all (fun t => Tryz.pinned.checked.prog.readableRec t && decide (t < Tryz.pinned.checked.prog.types.size)) = true := by kernel_rfl
theorem k20 : (Rows.fnSemverMoreRow.ifacesOut == Tryz.f3.resultTypes.toList.any (Tryz.pinned.checked.prog.ifacesRec ·)) = true := by kernel_rfl
theorem k21 : (Rows.fnSemverMoreRow.loopsOut == Tryz.f3.resultTypes.toList.any (Tryz.pinned.checked.prog.loopsFrom ·)) = true := by kernel_rfl
theorem k22 : (Rows.fnSemverMoreRow.plainKeys == Tryz.pinned.checked.prog.plainKeys) = true := by kernel_rfl
theorem k23 : Rows.fnSemverMoreRow.shortTexts.isNone = true := by kernel_rfl
theorem k24 : Tryz.pinned.checked.prog.stopsHeard = true := by kernel_rfl
theorem k25 : Tryz.pinned.checked.prog.mayEnter = true := by kernel_rfl
theorem k26 : (Rows.fnSemverMoreRow.lifted == Tryz.pinned.checked.prog.liftsFinal) = true := by kernel_rfl
theorem k27 : (Tryz.pinned.checked.prog.make == some Rows.fnSemverMoreRow.make) = true := by kernel_rfl
theorem k28 : (Rows.fnSemverMoreRow.kinds == (if Rows.fnSemverMoreRow.domain.isEmpty then [] else Tryz.f3.params.toList.map fun t => match Tryz.pinned.checked.prog.underlying t with | some (.int k) => some k | _ => none)) = true := by kernel_rfl
theorem k29 : (Rows.fnSemverMoreRow.pinned == Rows.fnSemverMoreRow.pinnedBy) = true := by kernel_rfl
theorem k30 : (Rows.fnSemverMoreRow.veiled == (Tryz.f3.params.toList ++ (OpenSpec.ofChange Rows.fnSemverMoreSpec).bare.plain.varTypes Tryz.pinned.checked.prog ++ Tryz.f3.resultTypes.toList).any (Tryz.pinned.checked.prog.veiledRec ·)) = true := by kernel_rfl
theorem k31 : Rows.fnSemverMoreRow.veiledFits Tryz.pinned.checked.prog Tryz.f3.params.toList (Tryz.f3.params.toList ++ (OpenSpec.ofChange Rows.fnSemverMoreSpec).bare.plain.varTypes Tryz.pinned.checked.prog ++ Tryz.f3.resultTypes.toList) = true := by kernel_rfl
end Go.Proofs.YtgfkdjmoflbmdaaGreatDoor.SemverMore
