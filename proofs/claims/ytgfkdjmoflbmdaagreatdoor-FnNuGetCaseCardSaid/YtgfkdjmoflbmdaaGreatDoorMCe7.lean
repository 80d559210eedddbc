/- FnNuGetCase: the row's closed facts, one by one. -/
import Derived.Test.YtgfkdjmoflbmdaaGreatDoorRows
import Derived.JoinedCond
namespace Go.Proofs.YtgfkdjmoflbmdaaGreatDoor.NuGetCase
open Go
theorem k0 : (Rows.fnNuGetCaseRow.wf (OpenSpec.ofChange (OpenSpec.ofChange Rows.fnNuGetCaseSpec).bare)) = true := by kernel_rfl
theorem k1 : laidOutB Tryz.pinned.checked.prog = true := by kernel_rfl
theorem k2 : mapsRowed Tryz.pinned.checked.prog = true := by kernel_rfl
theorem k3 : Tryz.f7.params.all (Tryz.pinned.checked.prog.readableRec ·) = true := by kernel_rfl
theorem k4 : namedTie Tryz.pinned.checked.prog Rows.fnNuGetCaseRow.named (OpenSpec.ofChange Rows.fnNuGetCaseSpec).bare.vars = true := by kernel_rfl
theorem k5 : (Rows.fnNuGetCaseRow.stops == []) = true := by kernel_rfl
theorem k6 : (Tryz.pinned.checked.prog.stops == []) = true := by kernel_rfl
theorem k7 : (Rows.fnNuGetCaseRow.knobs == []) = true := by kernel_rfl
theorem k8 : (Tryz.pinned.checked.prog.stopKnobs == []) = true := by kernel_rfl
theorem k9 : (Rows.fnNuGetCaseRow.inPlace == Tryz.pinned.checked.prog.inPlace 7) = true := by kernel_rfl
theorem k10 : (Rows.fnNuGetCaseRow.unfollowed == Tryz.pinned.checked.prog.unfollowed 7) = true := by kernel_rfl
theorem k11 : (Rows.fnNuGetCaseRow.recurses == Tryz.pinned.checked.prog.recurses 7) = true := by kernel_rfl
theorem k12 : (Rows.fnNuGetCaseRow.named == Tryz.pinned.checked.prog.varsNamed 7) = true := by kernel_rfl
theorem k13 : (Rows.fnNuGetCaseRow.maps == (Tryz.f7.params.toList ++ (OpenSpec.ofChange Rows.fnNuGetCaseSpec).bare.plain.varTypes Tryz.pinned.checked.prog).any (Tryz.pinned.checked.prog.mapsRec ·)) = true := by kernel_rfl
theorem k14 : (Rows.fnNuGetCaseRow.ifaces == (Tryz.f7.params.toList ++ (OpenSpec.ofChange Rows.fnNuGetCaseSpec).bare.plain.varTypes Tryz.pinned.checked.prog).any (Tryz.pinned.checked.prog.ifacesRec ·)) = true := by kernel_rfl
theorem k15 : (Rows.fnNuGetCaseRow.mapsOut == Tryz.pinned.checked.prog.mapsAmong Tryz.f7.resultTypes.toList) = true := by kernel_rfl
theorem k16 : (Rows.fnNuGetCaseRow.loops == (Tryz.f7.params.toList ++ (OpenSpec.ofChange Rows.fnNuGetCaseSpec).bare.plain.varTypes Tryz.pinned.checked.prog).any (Tryz.pinned.checked.prog.loopsFrom ·)) = true := by kernel_rfl
theorem k17 : (Rows.fnNuGetCaseRow.wideKeys == (Tryz.f7.params.toList ++ (OpenSpec.ofChange Rows.fnNuGetCaseSpec).bare.plain.varTypes Tryz.pinned.checked.prog ++ Tryz.f7.resultTypes.toList).any (Tryz.pinned.checked.prog.wideKeysFrom ·)) = true := by kernel_rfl
theorem k18 : (OpenSpec.ofChange Rows.fnNuGetCaseSpec).bare.vars.all (Tryz.pinned.checked.prog.varReadable ·) = true := by kernel_rfl
theorem k19 : Tryz.f7.resultTypes.all (fun t => Tryz.pinned.checked.prog.readableRec t && decide (t < Tryz.pinned.checked.prog.types.size)) = true := by kernel_rfl
theorem k20 : (Rows.fnNuGetCaseRow.ifacesOut == Tryz.f7.resultTypes.toList.any (Tryz.pinned.checked.prog.ifacesRec ·)) = true := by kernel_rfl
theorem k21 : (Rows.fnNuGetCaseRow.loopsOut == Tryz.f7.resultTypes.toList.any (Tryz.pinned.checked.prog.loopsFrom ·)) = true := by kernel_rfl
theorem k22 : (Rows.fnNuGetCaseRow.plainKeys == Tryz.pinned.checked.prog.plainKeys) = true := by kernel_rfl
theorem k23 : Rows.fnNuGetCaseRow.shortTexts.isNone = true := by kernel_rfl
theorem k24 : Tryz.pinned.checked.prog.stopsHeard = true := by kernel_rfl
theorem k25 : Tryz.pinned.checked.prog.mayEnter = true := by kernel_rfl
theorem k26 : (Rows.fnNuGetCaseRow.lifted == Tryz.pinned.checked.prog.liftsFinal) = true := by kernel_rfl
theorem k27 : (Tryz.pinned.checked.prog.make == some Rows.fnNuGetCaseRow.make) = true := by kernel_rfl
theorem k28 : (Rows.fnNuGetCaseRow.kinds == (if Rows.fnNuGetCaseRow.domain.isEmpty then [] else Tryz.f7.params.toList.map fun t => match Tryz.pinned.checked.prog.underlying t with | some (.int k) => some k | _ => none)) = true := by kernel_rfl
theorem k29 : (Rows.fnNuGetCaseRow.pinned == Rows.fnNuGetCaseRow.pinnedBy) = true := by kernel_rfl
theorem k30 : (Rows.fnNuGetCaseRow.veiled == (Tryz.f7.params.toList ++ (OpenSpec.ofChange Rows.fnNuGetCaseSpec).bare.plain.varTypes Tryz.pinned.checked.prog ++ Tryz.f7.resultTypes.toList).any (Tryz.pinned.checked.prog.veiledRec ·)) = true := by kernel_rfl
theorem k31 : Rows.fnNuGetCaseRow.veiledFits Tryz.pinned.checked.prog Tryz.f7.params.toList (Tryz.f7.params.toList ++ (OpenSpec.ofChange Rows.fnNuGetCaseSpec).bare.plain.varTypes Tryz.pinned.checked.prog ++ Tryz.f7.resultTypes.toList) = true := by kernel_rfl
end Go.Proofs.YtgfkdjmoflbmdaaGreatDoor.NuGetCase
