/- FnHackageOrder: the row's closed facts, one by one. -/
import Derived.Test.YtgfkdjmoflbmdaaGreatDoorRows
import Derived.JoinedCond
namespace Go.Proofs.YtgfkdjmoflbmdaaGreatDoor.HackageOrder
open Go
theorem k0 : (Rows.fnHackageOrderRow.wf (OpenSpec.ofChange (OpenSpec.ofChange Rows.fnHackageOrderSpec).bare)) = true := by kernel_rfl
theorem k1 : laidOutB Tryz.pinned.checked.prog = true := by kernel_rfl
theorem k2 : mapsRowed Tryz.pinned.checked.prog = true := by kernel_rfl
theorem k3 : Tryz.f10.params.all (Tryz.pinned.checked.prog.readableRec ·) = true := by kernel_rfl
theorem k4 : namedTie Tryz.pinned.checked.prog Rows.fnHackageOrderRow.named (OpenSpec.ofChange Rows.fnHackageOrderSpec).bare.vars = true := by kernel_rfl
theorem k5 : (Rows.fnHackageOrderRow.stops == []) = true := by kernel_rfl
theorem k6 : (Tryz.pinned.checked.prog.stops == []) = true := by kernel_rfl
theorem k7 : (Rows.fnHackageOrderRow.knobs == []) = true := by kernel_rfl
theorem k8 : (Tryz.pinned.checked.prog.stopKnobs == []) = true := by kernel_rfl
theorem k9 : (Rows.fnHackageOrderRow.inPlace == Tryz.pinned.checked.prog.inPlace 10) = true := by kernel_rfl
theorem k10 : (Rows.fnHackageOrderRow.unfollowed == Tryz.pinned.checked.prog.unfollowed 10) = true := by kernel_rfl
theorem k11 : (Rows.fnHackageOrderRow.recurses == Tryz.pinned.checked.prog.recurses 10) = true := by kernel_rfl
theorem k12 : (Rows.fnHackageOrderRow.named == Tryz.pinned.checked.prog.varsNamed 10) = true := by kernel_rfl
theorem k13 : (Rows.fnHackageOrderRow.maps == (Tryz.f10.params.toList ++ (OpenSpec.ofChange Rows.fnHackageOrderSpec).bare.plain.varTypes Tryz.pinned.checked.prog).any (Tryz.pinned.checked.prog.mapsRec ·)) = true := by kernel_rfl
theorem k14 : (Rows.fnHackageOrderRow.ifaces == (Tryz.f10.params.toList ++ (OpenSpec.ofChange Rows.fnHackageOrderSpec).bare.plain.varTypes Tryz.pinned.checked.prog).any (Tryz.pinned.checked.prog.ifacesRec ·)) = true := by kernel_rfl
theorem k15 : (Rows.fnHackageOrderRow.mapsOut == Tryz.pinned.checked.prog.mapsAmong Tryz.f10.resultTypes.toList) = true := by kernel_rfl
theorem k16 : (Rows.fnHackageOrderRow.loops == (Tryz.f10.params.toList ++ (OpenSpec.ofChange Rows.fnHackageOrderSpec).bare.plain.varTypes Tryz.pinned.checked.prog).any (Tryz.pinned.checked.prog.loopsFrom ·)) = true := by kernel_rfl
theorem k17 : (Rows.fnHackageOrderRow.wideKeys == (Tryz.f10.params.toList ++ (OpenSpec.ofChange Rows.fnHackageOrderSpec).bare.plain.varTypes Tryz.pinned.checked.prog ++ Tryz.f10.resultTypes.toList).any (Tryz.pinned.checked.prog.wideKeysFrom ·)) = true := by kernel_rfl
theorem k18 : (OpenSpec.ofChange Rows.fnHackageOrderSpec).bare.vars.all (Tryz.pinned.checked.prog.varReadable ·) = true := by kernel_rfl
theorem k19 : Tryz.f10.resultTypes.all (fun t => Tryz.pinned.checked.prog.readableRec t && decide (t < Tryz.pinned.checked.prog.types.size)) = true := by kernel_rfl
theorem k20 : (Rows.fnHackageOrderRow.ifacesOut == Tryz.f10.resultTypes.toList.any (Tryz.pinned.checked.prog.ifacesRec ·)) = true := by kernel_rfl
theorem k21 : (Rows.fnHackageOrderRow.loopsOut == Tryz.f10.resultTypes.toList.any (Tryz.pinned.checked.prog.loopsFrom ·)) = true := by kernel_rfl
theorem k22 : (Rows.fnHackageOrderRow.plainKeys == Tryz.pinned.checked.prog.plainKeys) = true := by kernel_rfl
theorem k23 : Rows.fnHackageOrderRow.shortTexts.isNone = true := by kernel_rfl
theorem k24 : Tryz.pinned.checked.prog.stopsHeard = true := by kernel_rfl
theorem k25 : Tryz.pinned.checked.prog.mayEnter = true := by kernel_rfl
theorem k26 : (Rows.fnHackageOrderRow.lifted == Tryz.pinned.checked.prog.liftsFinal) = true := by kernel_rfl
theorem k27 : (Tryz.pinned.checked.prog.make == some Rows.fnHackageOrderRow.make) = true := by kernel_rfl
theorem k28 : (Rows.fnHackageOrderRow.kinds == (if Rows.fnHackageOrderRow.domain.isEmpty then [] else Tryz.f10.params.toList.map fun t => match Tryz.pinned.checked.prog.underlying t with | some (.int k) => some k | _ => none)) = true := by kernel_rfl
theorem k29 : (Rows.fnHackageOrderRow.pinned == Rows.fnHackageOrderRow.pinnedBy) = true := by kernel_rfl
theorem k30 : (Rows.fnHackageOrderRow.veiled == (Tryz.f10.params.toList ++ (OpenSpec.ofChange Rows.fnHackageOrderSpec).bare.plain.varTypes Tryz.pinned.checked.prog ++ Tryz.f10.resultTypes.toList).any (Tryz.pinned.checked.prog.veiledRec ·)) = true := by kernel_rfl
theorem k31 : Rows.fnHackageOrderRow.veiledFits Tryz.pinned.checked.prog Tryz.f10.params.toList (Tryz.f10.params.toList ++ (OpenSpec.ofChange Rows.fnHackageOrderSpec).bare.plain.varTypes Tryz.pinned.checked.prog ++ Tryz.f10.resultTypes.toList) = true := by kernel_rfl
end Go.Proofs.YtgfkdjmoflbmdaaGreatDoor.HackageOrder
