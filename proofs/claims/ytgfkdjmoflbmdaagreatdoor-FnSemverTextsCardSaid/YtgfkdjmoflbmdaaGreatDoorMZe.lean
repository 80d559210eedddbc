/- FnSemverTexts: the row's closed facts, one by one. -/
import Derived.Test.YtgfkdjmoflbmdaaGreatDoorRows
import Derived.JoinedCond
namespace Go.Proofs.YtgfkdjmoflbmdaaGreatDoor.SemverTexts
open Go
theorem k0 : (Rows.fnSemverTextsRow.wf (OpenSpec.ofChange (OpenSpec.ofChange Rows.fnSemverTextsSpec).bare)) = true := by kernel_rfl
theorem k1 : laidOutB Tryz.pinned.checked.prog = true := by kernel_rfl
theorem k2 : mapsRowed Tryz.pinned.checked.prog = true := by kernel_rfl
theorem k3 : Tryz.f4.params.all (Tryz.pinned.checked.prog.readableRec ·) = true := by kernel_rfl
theorem k4 : namedTie Tryz.pinned.checked.prog Rows.fnSemverTextsRow.named (OpenSpec.ofChange Rows.fnSemverTextsSpec).bare.vars = true := by kernel_rfl
theorem k5 : (Rows.fnSemverTextsRow.stops == []) = true := by kernel_rfl
theorem k6 : (Tryz.pinned.checked.prog.stops == []) = true := by kernel_rfl
theorem k7 : (Rows.fnSemverTextsRow.knobs == []) = true := by kernel_rfl
theorem k8 : (Tryz.pinned.checked.prog.stopKnobs == []) = true := by kernel_rfl
theorem k9 : (Rows.fnSemverTextsRow.inPlace == Tryz.pinned.checked.prog.inPlace 4) = true := by kernel_rfl
theorem k10 : (Rows.fnSemverTextsRow.unfollowed == Tryz.pinned.checked.prog.unfollowed 4) = true := by kernel_rfl
theorem k11 : (Rows.fnSemverTextsRow.recurses == Tryz.pinned.checked.prog.recurses 4) = true := by kernel_rfl
theorem k12 : (Rows.fnSemverTextsRow.named == Tryz.pinned.checked.prog.varsNamed 4) = true := by kernel_rfl
theorem k13 : (Rows.fnSemverTextsRow.maps == (Tryz.f4.params.toList ++ (OpenSpec.ofChange Rows.fnSemverTextsSpec).bare.plain.varTypes Tryz.pinned.checked.prog).any (Tryz.pinned.checked.prog.mapsRec ·)) = true := by kernel_rfl
theorem k14 : (Rows.fnSemverTextsRow.ifaces == (Tryz.f4.params.toList ++ (OpenSpec.ofChange Rows.fnSemverTextsSpec).bare.plain.varTypes Tryz.pinned.checked.prog).any (Tryz.pinned.checked.prog.ifacesRec ·)) = true := by kernel_rfl
theorem k15 : (Rows.fnSemverTextsRow.mapsOut == Tryz.pinned.checked.prog.mapsAmong Tryz.f4.resultTypes.toList) = true := by kernel_rfl
theorem k16 : (Rows.fnSemverTextsRow.loops == (Tryz.f4.params.toList ++ (OpenSpec.ofChange Rows.fnSemverTextsSpec).bare.plain.varTypes Tryz.pinned.checked.prog).any (Tryz.pinned.checked.prog.loopsFrom ·)) = true := by kernel_rfl
theorem k17 : (Rows.fnSemverTextsRow.wideKeys == (Tryz.f4.params.toList ++ (OpenSpec.ofChange Rows.fnSemverTextsSpec).bare.plain.varTypes Tryz.pinned.checked.prog ++ Tryz.f4.resultTypes.toList).any (Tryz.pinned.checked.prog.wideKeysFrom ·)) = true := by kernel_rfl
theorem k18 : (OpenSpec.ofChange Rows.fnSemverTextsSpec).bare.vars.all (Tryz.pinned.checked.prog.varReadable ·) = true := by kernel_rfl
theorem k19 : Tryz.f4.resultTypes.all (fun t => Tryz.pinned.checked.prog.readableRec t && decide (t < Tryz.pinned.checked.prog.types.size)) = true := by kernel_rfl
theorem k20 : (Rows.fnSemverTextsRow.ifacesOut == Tryz.f4.resultTypes.toList.any (Tryz.pinned.checked.prog.ifacesRec ·)) = true := by kernel_rfl
theorem k21 : (Rows.fnSemverTextsRow.loopsOut == Tryz.f4.resultTypes.toList.any (Tryz.pinned.checked.prog.loopsFrom ·)) = true := by kernel_rfl
theorem k22 : (Rows.fnSemverTextsRow.plainKeys == Tryz.pinned.checked.prog.plainKeys) = true := by kernel_rfl
theorem k23 : Rows.fnSemverTextsRow.shortTexts.isNone = true := by kernel_rfl
theorem k24 : Tryz.pinned.checked.prog.stopsHeard = true := by kernel_rfl
theorem k25 : Tryz.pinned.checked.prog.mayEnter = true := by kernel_rfl
theorem k26 : (Rows.fnSemverTextsRow.lifted == Tryz.pinned.checked.prog.liftsFinal) = true := by kernel_rfl
theorem k27 : (Tryz.pinned.checked.prog.make == some Rows.fnSemverTextsRow.make) = true := by kernel_rfl
theorem k28 : (Rows.fnSemverTextsRow.kinds == (if Rows.fnSemverTextsRow.domain.isEmpty then [] else Tryz.f4.params.toList.map fun t => match Tryz.pinned.checked.prog.underlying t with | some (.int k) => some k | _ => none)) = true := by kernel_rfl
theorem k29 : (Rows.fnSemverTextsRow.pinned == Rows.fnSemverTextsRow.pinnedBy) = true := by kernel_rfl
theorem k30 : (Rows.fnSemverTextsRow.veiled == (Tryz.f4.params.toList ++ (OpenSpec.ofChange Rows.fnSemverTextsSpec).bare.plain.varTypes Tryz.pinned.checked.prog ++ Tryz.f4.resultTypes.toList).any (Tryz.pinned.checked.prog.veiledRec ·)) = true := by kernel_rfl
theorem k31 : Rows.fnSemverTextsRow.veiledFits Tryz.pinned.checked.prog Tryz.f4.params.toList (Tryz.f4.params.toList ++ (OpenSpec.ofChange Rows.fnSemverTextsSpec).bare.plain.varTypes Tryz.pinned.checked.prog ++ Tryz.f4.resultTypes.toList) = true := by kernel_rfl
end Go.Proofs.YtgfkdjmoflbmdaaGreatDoor.SemverTexts
