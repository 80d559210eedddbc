/- FnNuGetSorted: the row's closed facts, one by one. -/
import Derived.Test.YtgfkdjmoflbmdaaGreatDoorRows
import Derived.JoinedCond
namespace Go.Proofs.YtgfkdjmoflbmdaaGreatDoor.NuGetSorted
open Go
theorem k0 : (Rows.fnNuGetSortedRow.wf (OpenSpec.ofChange (OpenSpec.ofChange Rows.fnNuGetSortedSpec).bare)) = true := by kernel_rfl
theorem k1 : laidOutB Tryz.pinned.checked.prog = true := by kernel_rfl
theorem k2 : mapsRowed Tryz.pinned.checked.prog = true := by kernel_rfl
theorem k3 : Tryz.f9.params.all (Tryz.pinned.checked.prog.readableRec ·) = true := by kernel_rfl
theorem k4 : namedTie Tryz.pinned.checked.prog Rows.fnNuGetSortedRow.named (OpenSpec.ofChange Rows.fnNuGetSortedSpec).bare.vars = true := by kernel_rfl
theorem k5 : (Rows.fnNuGetSortedRow.stops == []) = true := by kernel_rfl
theorem k6 : (Tryz.pinned.checked.prog.stops == []) = true := by kernel_rfl
theorem k7 : (Rows.fnNuGetSortedRow.knobs == []) = true := by kernel_rfl
theorem k8 : (Tryz.pinned.checked.prog.stopKnobs == []) = true := by kernel_rfl
theorem k9 : (Rows.fnNuGetSortedRow.inPlace == Tryz.pinned.checked.prog.inPlace 9) = true := by kernel_rfl
theorem k10 : (Rows.fnNuGetSortedRow.unfollowed == Tryz.pinned.checked.prog.unfollowed 9) = true := by kernel_rfl
theorem k11 : (Rows.fnNuGetSortedRow.recurses == Tryz.pinned.checked.prog.recurses 9) = true := by kernel_rfl
theorem k12 : (Rows.fnNuGetSortedRow.named == Tryz.pinned.checked.prog.varsNamed 9) = true := by kernel_rfl
theorem k13 : (Rows.fnNuGetSortedRow.maps == (Tryz.f9.params.toList ++ (OpenSpec.ofChange Rows.fnNuGetSortedSpec).bare.plain.varTypes Tryz.pinned.checked.prog).any (Tryz.pinned.checked.prog.mapsRec ·)) = true := by kernel_rfl
theorem k14 : (Rows.fnNuGetSortedRow.ifaces == (Tryz.f9.params.toList ++ (OpenSpec.ofChange Rows.fnNuGetSortedSpec).bare.plain.varTypes Tryz.pinned.checked.prog).any (Tryz.pinned.checked.prog.ifacesRec ·)) = true := by kernel_rfl
theorem k15 : (Rows.fnNuGetSortedRow.mapsOut == Tryz.pinned.checked.prog.mapsAmong Tryz.f9.resultTypes.toList) = true := by kernel_rfl
theorem k16 : (Rows.fnNuGetSortedRow.loops == (Tryz.f9.params.toList ++ (OpenSpec.ofChange Rows.fnNuGetSortedSpec).bare.plain.varTypes Tryz.pinned.checked.prog).any (Tryz.pinned.checked.prog.loopsFrom ·)) = true := by kernel_rfl
theorem k17 : (Rows.fnNuGetSortedRow.wideKeys == (Tryz.f9.params.toList ++ (OpenSpec.ofChange Rows.fnNuGetSortedSpec).bare.plain.varTypes Tryz.pinned.checked.prog ++ Tryz.f9.resultTypes.toList).any (Tryz.pinned.checked.prog.wideKeysFrom ·)) = true := by kernel_rfl
theorem k18 : (OpenSpec.ofChange Rows.fnNuGetSortedSpec).bare.vars.all (Tryz.pinned.checked.prog.varReadable ·) = true := by kernel_rfl
theorem k19 : Tryz.f9.resultTypes.all (fun t => Tryz.pinned.checked.prog.readableRec t && decide (t < Tryz.pinned.checked.prog.types.size)) = true := by kernel_rfl
theorem k20 : (Rows.fnNuGetSortedRow.ifacesOut == Tryz.f9.resultTypes.toList.any (Tryz.pinned.checked.prog.ifacesRec ·)) = true := by kernel_rfl
theorem k21 : (Rows.fnNuGetSortedRow.loopsOut == Tryz.f9.resultTypes.toList.any (Tryz.pinned.checked.prog.loopsFrom ·)) = true := by kernel_rfl
theorem k22 : (Rows.fnNuGetSortedRow.plainKeys == Tryz.pinned.checked.prog.plainKeys) = true := by kernel_rfl
theorem k23 : Rows.fnNuGetSortedRow.shortTexts.isNone = true := by kernel_rfl
theorem k24 : Tryz.pinned.checked.prog.stopsHeard = true := by kernel_rfl
theorem k25 : Tryz.pinned.checked.prog.mayEnter = true := by kernel_rfl
theorem k26 : (Rows.fnNuGetSortedRow.lifted == Tryz.pinned.checked.prog.liftsFinal) = true := by kernel_rfl
theorem k27 : (Tryz.pinned.checked.prog.make == some Rows.fnNuGetSortedRow.make) = true := by kernel_rfl
theorem k28 : (Rows.fnNuGetSortedRow.kinds == (if Rows.fnNuGetSortedRow.domain.isEmpty then [] else Tryz.f9.params.toList.map fun t => match Tryz.pinned.checked.prog.underlying t with | some (.int k) => some k | _ => none)) = true := by kernel_rfl
theorem k29 : (Rows.fnNuGetSortedRow.pinned == Rows.fnNuGetSortedRow.pinnedBy) = true := by kernel_rfl
theorem k30 : (Rows.fnNuGetSortedRow.veiled == (Tryz.f9.params.toList ++ (OpenSpec.ofChange Rows.fnNuGetSortedSpec).bare.plain.varTypes Tryz.pinned.checked.prog ++ Tryz.f9.resultTypes.toList).any (Tryz.pinned.checked.prog.veiledRec ·)) = true := by kernel_rfl
theorem k31 : Rows.fnNuGetSortedRow.veiledFits Tryz.pinned.checked.prog Tryz.f9.params.toList (Tryz.f9.params.toList ++ (OpenSpec.ofChange Rows.fnNuGetSortedSpec).bare.plain.varTypes Tryz.pinned.checked.prog ++ Tryz.f9.resultTypes.toList) = true := by kernel_rfl
end Go.Proofs.YtgfkdjmoflbmdaaGreatDoor.NuGetSorted
