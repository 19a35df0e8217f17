/- The closed facts of FnDecodeSilent's row, one by one (all at once are too great for the kernel). Conditions: none. -/
import Derived.Test.YticdagnbnmnidaaGreatDoorCards
import Derived.Deep.DeepHandedRow
import Derived.JoinedOf
set_option linter.unusedSimpArgs false
set_option linter.unusedVariables false
namespace Go.Proofs.YticdagnbnmnidaaGreatDoor
theorem decodeSilent_k0 : Rows.fnDecodeSilentRow.wf (OpenSpec.ofChange (OpenSpec.ofChange Rows.fnDecodeSilentSpec).bare) = true := by kernel_rfl
theorem decodeSilent_k1 : laidOutB Tryz.pinned.checked.prog = true := by kernel_rfl
theorem decodeSilent_k2 : mapsRowed Tryz.pinned.checked.prog = true := by kernel_rfl
theorem decodeSilent_k3 : Tryz.f5.params.all (Tryz.pinned.checked.prog.readableRec ·) = true := by kernel_rfl
theorem decodeSilent_k4 : namedTie Tryz.pinned.checked.prog Rows.fnDecodeSilentRow.named (OpenSpec.ofChange Rows.fnDecodeSilentSpec).bare.vars = true := by kernel_rfl
theorem decodeSilent_k5 : (Rows.fnDecodeSilentRow.stops == []) = true := by kernel_rfl
theorem decodeSilent_k6 : (Tryz.pinned.checked.prog.stops == []) = true := by kernel_rfl
theorem decodeSilent_k7 : (Rows.fnDecodeSilentRow.knobs == []) = true := by kernel_rfl
theorem decodeSilent_k8 : (Tryz.pinned.checked.prog.stopKnobs == []) = true := by kernel_rfl
theorem decodeSilent_k9 : (Rows.fnDecodeSilentRow.inPlace == Tryz.pinned.checked.prog.inPlace 5) = true := by kernel_rfl
theorem decodeSilent_k10 : (Rows.fnDecodeSilentRow.unfollowed == Tryz.pinned.checked.prog.unfollowed 5) = true := by kernel_rfl
theorem decodeSilent_k11 : (Rows.fnDecodeSilentRow.recurses == Tryz.pinned.checked.prog.recurses 5) = true := by kernel_rfl
theorem decodeSilent_k12 : (Rows.fnDecodeSilentRow.named == Tryz.pinned.checked.prog.varsNamed 5) = true := by kernel_rfl
theorem decodeSilent_k13 : (Rows.fnDecodeSilentRow.maps == (Tryz.f5.params.toList ++ (OpenSpec.ofChange Rows.fnDecodeSilentSpec).bare.plain.varTypes Tryz.pinned.checked.prog).any (Tryz.pinned.checked.prog.mapsRec ·)) = true := by kernel_rfl
theorem decodeSilent_k14 : (Rows.fnDecodeSilentRow.ifaces == (Tryz.f5.params.toList ++ (OpenSpec.ofChange Rows.fnDecodeSilentSpec).bare.plain.varTypes Tryz.pinned.checked.prog).any (Tryz.pinned.checked.prog.ifacesRec ·)) = true := by kernel_rfl
theorem decodeSilent_k15 : (Rows.fnDecodeSilentRow.mapsOut == Tryz.pinned.checked.prog.mapsAmong Tryz.f5.resultTypes.toList) = true := by kernel_rfl
theorem decodeSilent_k16 : (Rows.fnDecodeSilentRow.loops == (Tryz.f5.params.toList ++ (OpenSpec.ofChange Rows.fnDecodeSilentSpec).bare.plain.varTypes Tryz.pinned.checked.prog).any (Tryz.pinned.checked.prog.loopsFrom ·)) = true := by kernel_rfl
theorem decodeSilent_k17 : (Rows.fnDecodeSilentRow.wideKeys == (Tryz.f5.params.toList ++ (OpenSpec.ofChange Rows.fnDecodeSilentSpec).bare.plain.varTypes Tryz.pinned.checked.prog ++ Tryz.f5.resultTypes.toList).any (Tryz.pinned.checked.prog.wideKeysFrom ·)) = true := by kernel_rfl
theorem decodeSilent_k18 : (OpenSpec.ofChange Rows.fnDecodeSilentSpec).bare.vars.all (Tryz.pinned.checked.prog.varReadable ·) = true := by kernel_rfl
theorem decodeSilent_k19 : Tryz.f5.resultTypes.all (fun t => Tryz.pinned.checked.prog.readableRec t && decide (t < Tryz.pinned.checked.prog.types.size)) = true := by kernel_rfl
theorem decodeSilent_k20 : (Rows.fnDecodeSilentRow.ifacesOut == Tryz.f5.resultTypes.toList.any (Tryz.pinned.checked.prog.ifacesRec ·)) = true := by kernel_rfl
theorem decodeSilent_k21 : (Rows.fnDecodeSilentRow.loopsOut == Tryz.f5.resultTypes.toList.any (Tryz.pinned.checked.prog.loopsFrom ·)) = true := by kernel_rfl
theorem decodeSilent_k22 : (Rows.fnDecodeSilentRow.plainKeys == Tryz.pinned.checked.prog.plainKeys) = true := by kernel_rfl
theorem decodeSilent_k23 : Rows.fnDecodeSilentRow.shortTexts.isNone = true := by kernel_rfl
theorem decodeSilent_k24 : Tryz.pinned.checked.prog.stopsHeard = true := by kernel_rfl
theorem decodeSilent_k25 : Tryz.pinned.checked.prog.mayEnter = true := by kernel_rfl
theorem decodeSilent_k26 : (Rows.fnDecodeSilentRow.lifted == Tryz.pinned.checked.prog.liftsFinal) = true := by kernel_rfl
theorem decodeSilent_k27 : (Tryz.pinned.checked.prog.make == some Rows.fnDecodeSilentRow.make) = true := by kernel_rfl
theorem decodeSilent_k28 : (Rows.fnDecodeSilentRow.kinds == (if Rows.fnDecodeSilentRow.domain.isEmpty then [] else Tryz.f5.params.toList.map fun t => match Tryz.pinned.checked.prog.underlying t with | some (.int k) => some k | _ => none)) = true := by kernel_rfl
theorem decodeSilent_k29 : (Rows.fnDecodeSilentRow.pinned == Rows.fnDecodeSilentRow.pinnedBy) = true := by kernel_rfl
theorem decodeSilent_k30 : (Rows.fnDecodeSilentRow.veiled == (Tryz.f5.params.toList ++ (OpenSpec.ofChange Rows.fnDecodeSilentSpec).bare.plain.varTypes Tryz.pinned.checked.prog ++ Tryz.f5.resultTypes.toList).any (Tryz.pinned.checked.prog.veiledRec ·)) = true := by kernel_rfl
theorem decodeSilent_k31 : Rows.fnDecodeSilentRow.veiledFits Tryz.pinned.checked.prog Tryz.f5.params.toList (Tryz.f5.params.toList ++ (OpenSpec.ofChange Rows.fnDecodeSilentSpec).bare.plain.varTypes Tryz.pinned.checked.prog ++ Tryz.f5.resultTypes.toList) = true := by kernel_rfl
set_option maxRecDepth 100000 in
theorem decodeSilent_closed : joinedFacts Tryz.pinned.checked.prog 5 Tryz.f5 (OpenSpec.ofChange Rows.fnDecodeSilentSpec).bare Rows.fnDecodeSilentRow = true := by
  unfold joinedFacts
  simp only [Bool.and_eq_true]
  exact ⟨⟨⟨⟨⟨⟨⟨⟨⟨⟨⟨⟨⟨⟨⟨⟨⟨⟨⟨⟨⟨⟨⟨⟨⟨⟨⟨⟨⟨⟨⟨decodeSilent_k0, decodeSilent_k1⟩, decodeSilent_k2⟩, decodeSilent_k3⟩, decodeSilent_k4⟩, decodeSilent_k5⟩, decodeSilent_k6⟩, decodeSilent_k7⟩, decodeSilent_k8⟩, decodeSilent_k9⟩, decodeSilent_k10⟩, decodeSilent_k11⟩, decodeSilent_k12⟩, decodeSilent_k13⟩, decodeSilent_k14⟩, decodeSilent_k15⟩, decodeSilent_k16⟩, decodeSilent_k17⟩, decodeSilent_k18⟩, decodeSilent_k19⟩, decodeSilent_k20⟩, decodeSilent_k21⟩, decodeSilent_k22⟩, decodeSilent_k23⟩, decodeSilent_k24⟩, decodeSilent_k25⟩, decodeSilent_k26⟩, decodeSilent_k27⟩, decodeSilent_k28⟩, decodeSilent_k29⟩, decodeSilent_k30⟩, decodeSilent_k31⟩
end Go.Proofs.YticdagnbnmnidaaGreatDoor
