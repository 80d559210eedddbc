/- FnPubTexts: the row's closed facts, one by one. -/
import Derived.Test.YtgfkdjmoflbmdaaGreatDoorRows
import Derived.JoinedCond
namespace Go.Proofs.YtgfkdjmoflbmdaaGreatDoor.PubTexts
open Go
theorem k0 : (Rows.fnPubTextsRow.wf (OpenSpec.ofChange (OpenSpec.ofChange Rows.fnPubTextsSpec).bare)) = true := by kernel_rfl
theorem k1 : laidOutB Tryz.pinned.checked.prog = true := by kernel_rfl
theorem k2 : mapsRowed Tryz.pinned.checked.prog = true := by kernel_rfl
theorem k3 : Tryz.f6.params.all (Tryz.pinned.checked.prog.readableRec ·) = true := by kernel_rfl
theorem k4 : namedTie Tryz.pinned.checked.prog Rows.fnPubTextsRow.named (OpenSpec.ofChange Rows.fnPubTextsSpec).bare.vars = true := by kernel_rfl
theorem k5 : (Rows.fnPubTextsRow.stops == []) = true := by kernel_rfl
theorem k6 : (Tryz.pinned.checked.prog.stops == []) = true := by kernel_rfl
theorem k7 : (Rows.fnPubTextsRow.knobs == []) = true := by kernel_rfl
theorem k8 : (Tryz.pinned.checked.prog.stopKnobs == []) = true := by kernel_rfl
theorem k9 : (Rows.fnPubTextsRow.inPlace == Tryz.pinned.checked.prog.inPlace 6) = true := by kernel_rfl
theorem k10 : (Rows.fnPubTextsRow.unfollowed == Tryz.pinned.checked.prog.unfollowed 6) = true := by kernel_rfl
theorem k11 : (Rows.fnPubTextsRow.recurses == Tryz.pinned.checked.prog.recurses 6) = true := by kernel_rfl
theorem k12 : (Rows.fnPubTextsRow.named == Tryz.pinned.checked.prog.varsNamed 6) = true := by kernel_rfl
theorem k13 : (Rows.fnPubTextsRow.maps == (Tryz.f6.params.toList ++ (OpenSpec.ofChange Rows.fnPubTextsSpec).bare.plain.varTypes Tryz.pinned.checked.prog).any (Tryz.pinned.checked.prog.mapsRec ·)) = true := by kernel_rfl
theorem k14 : (Rows.fnPubTextsRow.ifaces == (Tryz.f6.params.toList ++ (OpenSpec.ofChange Rows.fnPubTextsSpec).bare.plain.varTypes Tryz.pinned.checked.prog).any (Tryz.pinned.checked.prog.ifacesRec ·)) = true := by kernel_rfl
theorem k15 : (Rows.fnPubTextsRow.mapsOut == Tryz.pinned.checked.prog.mapsAmong Tryz.f6.resultTypes.toList) = true := by kernel_rfl
theorem k16 : (Rows.fnPubTextsRow.loops == (Tryz.f6.params.toList ++ (OpenSpec.ofChange Rows.fnPubTextsSpec).bare.plain.varTypes Tryz.pinned.checked.prog).any (Tryz.pinned.checked.prog.loopsFrom ·)) = true := by kernel_rfl
theorem k17 : (Rows.fnPubTextsRow.wideKeys == (Tryz.f6.params.toList ++ (OpenSpec.ofChange Rows.fnPubTextsSpec).bare.plain.varTypes Tryz.pinned.checked.prog ++ Tryz.f6.resultTypes.toList).any (Tryz.pinned.checked.prog.wideKeysFrom ·)) = true := by kernel_rfl
theorem k18 : (OpenSpec.ofChange Rows.fnPubTextsSpec).bare.vars.all (Tryz.pinned.checked.prog.varReadable ·) = true := by kernel_rfl
theorem k19 : Tryz.f6.resultTypes.all (fun t => Tryz.pinned.checked.prog.readableRec t && decide (t < Tryz.pinned.checked.prog.types.size)) = true := by kernel_rfl
theorem k20 : (Rows.fnPubTextsRow.ifacesOut == Tryz.f6.resultTypes.toList.any (Tryz.pinned.checked.prog.ifacesRec ·)) = true := by kernel_rfl
theorem k21 : (Rows.fnPubTextsRow.loopsOut == Tryz.f6.resultTypes.toList.any (Tryz.pinned.checked.prog.loopsFrom ·)) = true := by kernel_rfl
theorem k22 : (Rows.fnPubTextsRow.plainKeys == Tryz.pinned.checked.prog.plainKeys) = true := by kernel_rfl
theorem k23 : Rows.fnPubTextsRow.shortTexts.isNone = true := by kernel_rfl
theorem k24 : Tryz.pinned.checked.prog.stopsHeard = true := by kernel_rfl
theorem k25 : Tryz.pinned.checked.prog.mayEnter = true := by kernel_rfl
theorem k26 : (Rows.fnPubTextsRow.lifted == Tryz.pinned.checked.prog.liftsFinal) = true := by kernel_rfl
theorem k27 : (Tryz.pinned.checked.prog.make == some Rows.fnPubTextsRow.make) = true := by kernel_rfl
theorem k28 : (Rows.fnPubTextsRow.kinds == (if Rows.fnPubTextsRow.domain.isEmpty then [] else Tryz.f6.params.toList.map fun t => match Tryz.pinned.checked.prog.underlying t with | some (.int k) => some k | _ => none)) = true := by kernel_rfl
theorem k29 : (Rows.fnPubTextsRow.pinned == Rows.fnPubTextsRow.pinnedBy) = true := by kernel_rfl
theorem k30 : (Rows.fnPubTextsRow.veiled == (Tryz.f6.params.toList ++ (OpenSpec.ofChange Rows.fnPubTextsSpec).bare.plain.varTypes Tryz.pinned.checked.prog ++ Tryz.f6.resultTypes.toList).any (Tryz.pinned.checked.prog.veiledRec ·)) = true := by kernel_rfl
theorem k31 : Rows.fnPubTextsRow.veiledFits Tryz.pinned.checked.prog Tryz.f6.params.toList (Tryz.f6.params.toList ++ (OpenSpec.ofChange Rows.fnPubTextsSpec).bare.plain.varTypes Tryz.pinned.checked.prog ++ Tryz.f6.resultTypes.toList) = true := by kernel_rfl
end Go.Proofs.YtgfkdjmoflbmdaaGreatDoor.PubTexts
