/- FnNuGetMore: the row's closed facts, one by one. -/
import Derived.Test.YtgfkdjmoflbmdaaGreatDoorRows
import Derived.JoinedCond
namespace Go.Proofs.YtgfkdjmoflbmdaaGreatDoor.NuGetMore
open Go
theorem k0 : (Rows.fnNuGetMoreRow.wf (OpenSpec.ofChange (OpenSpec.ofChange Rows.fnNuGetMoreSpec).bare)) = true := by kernel_rfl
theorem k1 : laidOutB Tryz.pinned.checked.prog = true := by kernel_rfl
theorem k2 : mapsRowed Tryz.pinned.checked.prog = true := by kernel_rfl
theorem k3 : Tryz.f12.params.all (Tryz.pinned.checked.prog.readableRec ·) = true := by kernel_rfl
theorem k4 : namedTie Tryz.pinned.checked.prog Rows.fnNuGetMoreRow.named (OpenSpec.ofChange Rows.fnNuGetMoreSpec).bare.vars = true := by kernel_rfl
theorem k5 : (Rows.fnNuGetMoreRow.stops == []) = true := by kernel_rfl
theorem k6 : (Tryz.pinned.checked.prog.stops == []) = true := by kernel_rfl
theorem k7 : (Rows.fnNuGetMoreRow.knobs == []) = true := by kernel_rfl
theorem k8 : (Tryz.pinned.checked.prog.stopKnobs == []) = true := by kernel_rfl
theorem k9 : (Rows.fnNuGetMoreRow.inPlace == Tryz.pinned.checked.prog.inPlace 12) = true := by kernel_rfl
theorem k10 : (Rows.fnNuGetMoreRow.unfollowed == Tryz.pinned.checked.prog.unfollowed 12) = true := by kernel_rfl
theorem k11 : (Rows.fnNuGetMoreRow.recurses == Tryz.pinned.checked.prog.recurses 12) = true := by kernel_rfl
theorem k12 : (Rows.fnNuGetMoreRow.named == Tryz.pinned.checked.prog.varsNamed 12) = true := by kernel_rfl
theorem k13 : (Rows.fnNuGetMoreRow.maps == (Tryz.f12.params.toList ++ (OpenSpec.ofChange Rows.fnNuGetMoreSpec).bare.plain.varTypes Tryz.pinned.checked.prog).any (Tryz.pinned.checked.prog.mapsRec ·)) = true := by kernel_rfl
theorem k14 : (Rows.fnNuGetMoreRow.ifaces == (Tryz.f12.params.toList ++ (OpenSpec.ofChange Rows.fnNuGetMoreSpec).bare.plain.varTypes Tryz.pinned.checked.prog).any (Tryz.pinned.checked.prog.ifacesRec ·)) = true := by kernel_rfl
theorem k15 : (Rows.fnNuGetMoreRow.mapsOut == Tryz.pinned.checked.prog.mapsAmong Tryz.f12.resultTypes.toList) = true := by kernel_rfl
theorem k16 : (Rows.fnNuGetMoreRow.loops == (Tryz.f12.params.toList ++ (OpenSpec.ofChange Rows.fnNuGetMoreSpec).bare.plain.varTypes Tryz.pinned.checked.prog).any (Tryz.pinned.checked.prog.loopsFrom ·)) = true := by kernel_rfl
theorem k17 : (Rows.fnNuGetMoreRow.wideKeys == (Tryz.f12.params.toList ++ (OpenSpec.ofChange Rows.fnNuGetMoreSpec).bare.plain.varTypes Tryz.pinned.checked.prog ++ Tryz.f12.resultTypes.toList).any (Tryz.pinned.checked.prog.wideKeysFrom ·)) = true := by kernel_rfl
theorem k18 : (OpenSpec.ofChange Rows.fnNuGetMoreSpec).bare.vars.all (Tryz.pinned.checked.prog.varReadable ·) = true := by kernel_rfl
theorem k19 : Tryz.f12.resultTypes.all (fun t => Tryz.pinned.checked.prog.readableRec t && decide (t < Tryz.pinned.checked.prog.types.size)) = true := by kernel_rfl
theorem k20 : (Rows.fnNuGetMoreRow.ifacesOut == Tryz.f12.resultTypes.toList.any (Tryz.pinned.checked.prog.ifacesRec ·)) = true := by kernel_rfl
theorem k21 : (Rows.fnNuGetMoreRow.loopsOut == Tryz.f12.resultTypes.toList.any (Tryz.pinned.checked.prog.loopsFrom ·)) = true := by kernel_rfl
theorem k22 : (Rows.fnNuGetMoreRow.plainKeys == Tryz.pinned.checked.prog.plainKeys) = true := by kernel_rfl
theorem k23 : Rows.fnNuGetMoreRow.shortTexts.isNone = true := by kernel_rfl
theorem k24 : Tryz.pinned.checked.prog.stopsHeard = true := by kernel_rfl
theorem k25 : Tryz.pinned.checked.prog.mayEnter = true := by kernel_rfl
theorem k26 : (Rows.fnNuGetMoreRow.lifted == Tryz.pinned.checked.prog.liftsFinal) = true := by kernel_rfl
theorem k27 : (Tryz.pinned.checked.prog.make == some Rows.fnNuGetMoreRow.make) = true := by kernel_rfl
theorem k28 : (Rows.fnNuGetMoreRow.kinds == (if Rows.fnNuGetMoreRow.domain.isEmpty then [] else Tryz.f12.params.toList.map fun t => match Tryz.pinned.checked.prog.underlying t with | some (.int k) => some k | _ => none)) = true := by kernel_rfl
theorem k29 : (Rows.fnNuGetMoreRow.pinned == Rows.fnNuGetMoreRow.pinnedBy) = true := by kernel_rfl
theorem k30 : (Rows.fnNuGetMoreRow.veiled == (Tryz.f12.params.toList ++ (OpenSpec.ofChange Rows.fnNuGetMoreSpec).bare.plain.varTypes Tryz.pinned.checked.prog ++ Tryz.f12.resultTypes.toList).any (Tryz.pinned.checked.prog.veiledRec ·)) = true := by kernel_rfl
theorem k31 : Rows.fnNuGetMoreRow.veiledFits Tryz.pinned.checked.prog Tryz.f12.params.toList (Tryz.f12.params.toList ++ (OpenSpec.ofChange Rows.fnNuGetMoreSpec).bare.plain.varTypes Tryz.pinned.checked.prog ++ Tryz.f12.resultTypes.toList) = true := by kernel_rfl
end Go.Proofs.YtgfkdjmoflbmdaaGreatDoor.NuGetMore
