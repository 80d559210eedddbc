/- FnNuGetTexts: the row's closed facts, one by one. -/
import Derived.Test.YtgfkdjmoflbmdaaGreatDoorRows
import Derived.JoinedCond
namespace Go.Proofs.YtgfkdjmoflbmdaaGreatDoor.NuGetTexts
open Go
theorem k0 : (Rows.fnNuGetTextsRow.wf (OpenSpec.ofChange (OpenSpec.ofChange Rows.fnNuGetTextsSpec).bare)) = true := by kernel_rfl
theorem k1 : laidOutB Tryz.pinned.checked.prog = true := by kernel_rfl
theorem k2 : mapsRowed Tryz.pinned.checked.prog = true := by kernel_rfl
theorem k3 : Tryz.f13.params.all (Tryz.pinned.checked.prog.readableRec ·) = true := by kernel_rfl
theorem k4 : namedTie Tryz.pinned.checked.prog Rows.fnNuGetTextsRow.named (OpenSpec.ofChange Rows.fnNuGetTextsSpec).bare.vars = true := by kernel_rfl
theorem k5 : (Rows.fnNuGetTextsRow.stops == []) = true := by kernel_rfl
theorem k6 : (Tryz.pinned.checked.prog.stops == []) = true := by kernel_rfl
theorem k7 : (Rows.fnNuGetTextsRow.knobs == []) = true := by kernel_rfl
theorem k8 : (Tryz.pinned.checked.prog.stopKnobs == []) = true := by kernel_rfl
theorem k9 : (Rows.fnNuGetTextsRow.inPlace == Tryz.pinned.checked.prog.inPlace 13) = true := by kernel_rfl
theorem k10 : (Rows.fnNuGetTextsRow.unfollowed == Tryz.pinned.checked.prog.unfollowed 13) = true := by kernel_rfl
theorem k11 : (Rows.fnNuGetTextsRow.recurses == Tryz.pinned.checked.prog.recurses 13) = true := by kernel_rfl
theorem k12 : (Rows.fnNuGetTextsRow.named == Tryz.pinned.checked.prog.varsNamed 13) = true := by kernel_rfl
theorem k13 : (Rows.fnNuGetTextsRow.maps == (Tryz.f13.params.toList ++ (OpenSpec.ofChange Rows.fnNuGetTextsSpec).bare.plain.varTypes Tryz.pinned.checked.prog).any (Tryz.pinned.checked.prog.mapsRec ·)) = true := by kernel_rfl
theorem k14 : (Rows.fnNuGetTextsRow.ifaces == (Tryz.f13.params.toList ++ (OpenSpec.ofChange Rows.fnNuGetTextsSpec).bare.plain.varTypes Tryz.pinned.checked.prog).any (Tryz.pinned.checked.prog.ifacesRec ·)) = true := by kernel_rfl
theorem k15 : (Rows.fnNuGetTextsRow.mapsOut == Tryz.pinned.checked.prog.mapsAmong Tryz.f13.resultTypes.toList) = true := by kernel_rfl
theorem k16 : (Rows.fnNuGetTextsRow.loops == (Tryz.f13.params.toList ++ (OpenSpec.ofChange Rows.fnNuGetTextsSpec).bare.plain.varTypes Tryz.pinned.checked.prog).any (Tryz.pinned.checked.prog.loopsFrom ·)) = true := by kernel_rfl
theorem k17 : (Rows.fnNuGetTextsRow.wideKeys == (Tryz.f13.params.toList ++ (OpenSpec.ofChange Rows.fnNuGetTextsSpec).bare.plain.varTypes Tryz.pinned.checked.prog ++ Tryz.f13.resultTypes.toList).any (Tryz.pinned.checked.prog.wideKeysFrom ·)) = true := by kernel_rfl
theorem k18 : (OpenSpec.ofChange Rows.fnNuGetTextsSpec).bare.vars.all (Tryz.pinned.checked.prog.varReadable ·) = true := by kernel_rfl
theorem k19 : Tryz.f13.resultTypes.all (fun t => Tryz.pinned.checked.prog.readableRec t && decide (t < Tryz.pinned.checked.prog.types.size)) = true := by kernel_rfl
theorem k20 : (Rows.fnNuGetTextsRow.ifacesOut == Tryz.f13.resultTypes.toList.any (Tryz.pinned.checked.prog.ifacesRec ·)) = true := by kernel_rfl
theorem k21 : (Rows.fnNuGetTextsRow.loopsOut == Tryz.f13.resultTypes.toList.any (Tryz.pinned.checked.prog.loopsFrom ·)) = true := by kernel_rfl
theorem k22 : (Rows.fnNuGetTextsRow.plainKeys == Tryz.pinned.checked.prog.plainKeys) = true := by kernel_rfl
theorem k23 : Rows.fnNuGetTextsRow.shortTexts.isNone = true := by kernel_rfl
theorem k24 : Tryz.pinned.checked.prog.stopsHeard = true := by kernel_rfl
theorem k25 : Tryz.pinned.checked.prog.mayEnter = true := by kernel_rfl
theorem k26 : (Rows.fnNuGetTextsRow.lifted == Tryz.pinned.checked.prog.liftsFinal) = true := by kernel_rfl
theorem k27 : (Tryz.pinned.checked.prog.make == some Rows.fnNuGetTextsRow.make) = true := by kernel_rfl
theorem k28 : (Rows.fnNuGetTextsRow.kinds == (if Rows.fnNuGetTextsRow.domain.isEmpty then [] else Tryz.f13.params.toList.map fun t => match Tryz.pinned.checked.prog.underlying t with | some (.int k) => some k | _ => none)) = true := by kernel_rfl
theorem k29 : (Rows.fnNuGetTextsRow.pinned == Rows.fnNuGetTextsRow.pinnedBy) = true := by kernel_rfl
theorem k30 : (Rows.fnNuGetTextsRow.veiled == (Tryz.f13.params.toList ++ (OpenSpec.ofChange Rows.fnNuGetTextsSpec).bare.plain.varTypes Tryz.pinned.checked.prog ++ Tryz.f13.resultTypes.toList).any (Tryz.pinned.checked.prog.veiledRec ·)) = true := by kernel_rfl
theorem k31 : Rows.fnNuGetTextsRow.veiledFits Tryz.pinned.checked.prog Tryz.f13.params.toList (Tryz.f13.params.toList ++ (OpenSpec.ofChange Rows.fnNuGetTextsSpec).bare.plain.varTypes Tryz.pinned.checked.prog ++ Tryz.f13.resultTypes.toList) = true := by kernel_rfl
end Go.Proofs.YtgfkdjmoflbmdaaGreatDoor.NuGetTexts
