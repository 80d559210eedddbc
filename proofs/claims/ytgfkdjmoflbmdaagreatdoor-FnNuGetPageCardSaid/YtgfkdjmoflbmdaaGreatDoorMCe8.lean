/- FnNuGetPage: the row's closed facts, one by one. -/
import Derived.Test.YtgfkdjmoflbmdaaGreatDoorRows
import Derived.JoinedCond
namespace Go.Proofs.YtgfkdjmoflbmdaaGreatDoor.NuGetPage
open Go
theorem k0 : (Rows.fnNuGetPageRow.wf (OpenSpec.ofChange (OpenSpec.ofChange Rows.fnNuGetPageSpec).bare)) = true := by kernel_rfl
theorem k1 : laidOutB Tryz.pinned.checked.prog = true := by kernel_rfl
theorem k2 : mapsRowed Tryz.pinned.checked.prog = true := by kernel_rfl
theorem k3 : Tryz.f8.params.all (Tryz.pinned.checked.prog.readableRec ·) = true := by kernel_rfl
theorem k4 : namedTie Tryz.pinned.checked.prog Rows.fnNuGetPageRow.named (OpenSpec.ofChange Rows.fnNuGetPageSpec).bare.vars = true := by kernel_rfl
theorem k5 : (Rows.fnNuGetPageRow.stops == []) = true := by kernel_rfl
theorem k6 : (Tryz.pinned.checked.prog.stops == []) = true := by kernel_rfl
theorem k7 : (Rows.fnNuGetPageRow.knobs == []) = true := by kernel_rfl
theorem k8 : (Tryz.pinned.checked.prog.stopKnobs == []) = true := by kernel_rfl
theorem k9 : (Rows.fnNuGetPageRow.inPlace == Tryz.pinned.checked.prog.inPlace 8) = true := by kernel_rfl
theorem k10 : (Rows.fnNuGetPageRow.unfollowed == Tryz.pinned.checked.prog.unfollowed 8) = true := by kernel_rfl
theorem k11 : (Rows.fnNuGetPageRow.recurses == Tryz.pinned.checked.prog.recurses 8) = true := by kernel_rfl
theorem k12 : (Rows.fnNuGetPageRow.named == Tryz.pinned.checked.prog.varsNamed 8) = true := by kernel_rfl
theorem k13 : (Rows.fnNuGetPageRow.maps == (Tryz.f8.params.toList ++ (OpenSpec.ofChange Rows.fnNuGetPageSpec).bare.plain.varTypes Tryz.pinned.checked.prog).any (Tryz.pinned.checked.prog.mapsRec ·)) = true := by kernel_rfl
theorem k14 : (Rows.fnNuGetPageRow.ifaces == (Tryz.f8.params.toList ++ (OpenSpec.ofChange Rows.fnNuGetPageSpec).bare.plain.varTypes Tryz.pinned.checked.prog).any (Tryz.pinned.checked.prog.ifacesRec ·)) = true := by kernel_rfl
theorem k15 : (Rows.fnNuGetPageRow.mapsOut == Tryz.pinned.checked.prog.mapsAmong Tryz.f8.resultTypes.toList) = true := by kernel_rfl
theorem k16 : (Rows.fnNuGetPageRow.loops == (Tryz.f8.params.toList ++ (OpenSpec.ofChange Rows.fnNuGetPageSpec).bare.plain.varTypes Tryz.pinned.checked.prog).any (Tryz.pinned.checked.prog.loopsFrom ·)) = true := by kernel_rfl
theorem k17 : (Rows.fnNuGetPageRow.wideKeys == (Tryz.f8.params.toList ++ (OpenSpec.ofChange Rows.fnNuGetPageSpec).bare.plain.varTypes Tryz.pinned.checked.prog ++ Tryz.f8.resultTypes.toList).any (Tryz.pinned.checked.prog.wideKeysFrom ·)) = true := by kernel_rfl
theorem k18 : (OpenSpec.ofChange Rows.fnNuGetPageSpec).bare.vars.all (Tryz.pinned.checked.prog.varReadable ·) = true := by kernel_rfl
theorem k19 : Tryz.f8.resultTypes.all (fun t => Tryz.pinned.checked.prog.readableRec t && decide (t < Tryz.pinned.checked.prog.types.size)) = true := by kernel_rfl
theorem k20 : (Rows.fnNuGetPageRow.ifacesOut == Tryz.f8.resultTypes.toList.any (Tryz.pinned.checked.prog.ifacesRec ·)) = true := by kernel_rfl
theorem k21 : (Rows.fnNuGetPageRow.loopsOut == Tryz.f8.resultTypes.toList.any (Tryz.pinned.checked.prog.loopsFrom ·)) = true := by kernel_rfl
theorem k22 : (Rows.fnNuGetPageRow.plainKeys == Tryz.pinned.checked.prog.plainKeys) = true := by kernel_rfl
theorem k23 : Rows.fnNuGetPageRow.shortTexts.isNone = true := by kernel_rfl
theorem k24 : Tryz.pinned.checked.prog.stopsHeard = true := by kernel_rfl
theorem k25 : Tryz.pinned.checked.prog.mayEnter = true := by kernel_rfl
theorem k26 : (Rows.fnNuGetPageRow.lifted == Tryz.pinned.checked.prog.liftsFinal) = true := by kernel_rfl
theorem k27 : (Tryz.pinned.checked.prog.make == some Rows.fnNuGetPageRow.make) = true := by kernel_rfl
theorem k28 : (Rows.fnNuGetPageRow.kinds == (if Rows.fnNuGetPageRow.domain.isEmpty then [] else Tryz.f8.params.toList.map fun t => match Tryz.pinned.checked.prog.underlying t with | some (.int k) => some k | _ => none)) = true := by kernel_rfl
theorem k29 : (Rows.fnNuGetPageRow.pinned == Rows.fnNuGetPageRow.pinnedBy) = true := by kernel_rfl
theorem k30 : (Rows.fnNuGetPageRow.veiled == (Tryz.f8.params.toList ++ (OpenSpec.ofChange Rows.fnNuGetPageSpec).bare.plain.varTypes Tryz.pinned.checked.prog ++ Tryz.f8.resultTypes.toList).any (Tryz.pinned.checked.prog.veiledRec ·)) = true := by kernel_rfl
theorem k31 : Rows.fnNuGetPageRow.veiledFits Tryz.pinned.checked.prog Tryz.f8.params.toList (Tryz.f8.params.toList ++ (OpenSpec.ofChange Rows.fnNuGetPageSpec).bare.plain.varTypes Tryz.pinned.checked.prog ++ Tryz.f8.resultTypes.toList) = true := by kernel_rfl
end Go.Proofs.YtgfkdjmoflbmdaaGreatDoor.NuGetPage
