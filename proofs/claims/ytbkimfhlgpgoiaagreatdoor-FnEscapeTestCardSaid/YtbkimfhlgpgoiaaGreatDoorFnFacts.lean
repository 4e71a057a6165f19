/- The closed facts of the row of laws.FnEscapeTest, each by the kernel. Conditions: none. -/
import Derived.Test.YtbkimfhlgpgoiaaGreatDoorRows
import Derived.JoinedOf
import Derived.KernelRfl
namespace Go.Proofs.YtbkimfhlgpgoiaaGreatDoor
set_option maxRecDepth 100000
theorem fnEscapeTest_fact0 : ((Rows.fnEscapeTestRow).wf (OpenSpec.ofChange Rows.fnEscapeTestSpec)) = true := by kernel_rfl
theorem fnEscapeTest_fact1 : (laidOutB Tryz.prog) = true := by kernel_rfl
theorem fnEscapeTest_fact2 : (mapsRowed Tryz.prog) = true := by kernel_rfl
theorem fnEscapeTest_fact3 : ((Tryz.f4).params.all ((Tryz.prog).readableRec ·)) = true := by kernel_rfl
theorem fnEscapeTest_fact4 : (namedTie Tryz.prog (Rows.fnEscapeTestRow).named (Rows.fnEscapeTestSpec).vars) = true := by kernel_rfl
theorem fnEscapeTest_fact5 : (((Rows.fnEscapeTestRow).stops == [])) = true := by kernel_rfl
theorem fnEscapeTest_fact6 : (((Tryz.prog).stops == [])) = true := by kernel_rfl
theorem fnEscapeTest_fact7 : (((Rows.fnEscapeTestRow).knobs == [])) = true := by kernel_rfl
theorem fnEscapeTest_fact8 : (((Tryz.prog).stopKnobs == [])) = true := by kernel_rfl
theorem fnEscapeTest_fact9 : (((Rows.fnEscapeTestRow).inPlace == (Tryz.prog).inPlace 4)) = true := by kernel_rfl
theorem fnEscapeTest_fact10 : (((Rows.fnEscapeTestRow).unfollowed == (Tryz.prog).unfollowed 4)) = true := by kernel_rfl
theorem fnEscapeTest_fact11 : (((Rows.fnEscapeTestRow).recurses == (Tryz.prog).recurses 4)) = true := by kernel_rfl
theorem fnEscapeTest_fact12 : (((Rows.fnEscapeTestRow).named == (Tryz.prog).varsNamed 4)) = true := by kernel_rfl
theorem fnEscapeTest_fact13 : (((Rows.fnEscapeTestRow).maps == ((Tryz.f4).params.toList ++ (Rows.fnEscapeTestSpec).plain.varTypes Tryz.prog).any ((Tryz.prog).mapsRec ·))) = true := by kernel_rfl
theorem fnEscapeTest_fact14 : (((Rows.fnEscapeTestRow).ifaces == ((Tryz.f4).params.toList ++ (Rows.fnEscapeTestSpec).plain.varTypes Tryz.prog).any ((Tryz.prog).ifacesRec ·))) = true := by kernel_rfl
theorem fnEscapeTest_fact15 : (((Rows.fnEscapeTestRow).mapsOut == (Tryz.prog).mapsAmong (Tryz.f4).resultTypes.toList)) = true := by kernel_rfl
theorem fnEscapeTest_fact16 : (((Rows.fnEscapeTestRow).loops == ((Tryz.f4).params.toList ++ (Rows.fnEscapeTestSpec).plain.varTypes Tryz.prog).any ((Tryz.prog).loopsFrom ·))) = true := by kernel_rfl
theorem fnEscapeTest_fact17 : (((Rows.fnEscapeTestRow).wideKeys == ((Tryz.f4).params.toList ++ (Rows.fnEscapeTestSpec).plain.varTypes Tryz.prog ++ (Tryz.f4).resultTypes.toList).any ((Tryz.prog).wideKeysFrom ·))) = true := by kernel_rfl
theorem fnEscapeTest_fact18 : ((Rows.fnEscapeTestSpec).vars.all ((Tryz.prog).varReadable ·)) = true := by kernel_rfl
theorem fnEscapeTest_fact19 : ((Tryz.f4).resultTypes.all (fun t => (Tryz.prog).readableRec t && decide (t < (Tryz.prog).types.size))) = true := by kernel_rfl
theorem fnEscapeTest_fact20 : (((Rows.fnEscapeTestRow).ifacesOut == (Tryz.f4).resultTypes.toList.any ((Tryz.prog).ifacesRec ·))) = true := by kernel_rfl
theorem fnEscapeTest_fact21 : (((Rows.fnEscapeTestRow).loopsOut == (Tryz.f4).resultTypes.toList.any ((Tryz.prog).loopsFrom ·))) = true := by kernel_rfl
theorem fnEscapeTest_fact22 : (((Rows.fnEscapeTestRow).plainKeys == (Tryz.prog).plainKeys)) = true := by kernel_rfl
theorem fnEscapeTest_fact23 : ((Rows.fnEscapeTestRow).shortTexts.isNone) = true := by kernel_rfl
theorem fnEscapeTest_fact24 : ((Tryz.prog).stopsHeard) = true := by kernel_rfl
theorem fnEscapeTest_fact25 : ((Tryz.prog).mayEnter) = true := by kernel_rfl
theorem fnEscapeTest_fact26 : (((Rows.fnEscapeTestRow).lifted == (Tryz.prog).liftsFinal)) = true := by kernel_rfl
theorem fnEscapeTest_fact27 : (((Tryz.prog).make == some (Rows.fnEscapeTestRow).make)) = true := by kernel_rfl
theorem fnEscapeTest_fact28 : (((Rows.fnEscapeTestRow).kinds == (if (Rows.fnEscapeTestRow).domain.isEmpty then [] else (Tryz.f4).params.toList.map fun t => match (Tryz.prog).underlying t with | some (.int k) => some k | _ => none))) = true := by kernel_rfl
theorem fnEscapeTest_fact29 : (((Rows.fnEscapeTestRow).pinned == (Rows.fnEscapeTestRow).pinnedBy)) = true := by kernel_rfl
theorem fnEscapeTest_fact30 : (((Rows.fnEscapeTestRow).veiled == ((Tryz.f4).params.toList ++ (Rows.fnEscapeTestSpec).plain.varTypes Tryz.prog ++ (Tryz.f4).resultTypes.toList).any ((Tryz.prog).veiledRec ·))) = true := by kernel_rfl
theorem fnEscapeTest_fact31 : ((Rows.fnEscapeTestRow).veiledFits Tryz.prog (Tryz.f4).params.toList ((Tryz.f4).params.toList ++ (Rows.fnEscapeTestSpec).plain.varTypes Tryz.prog ++ (Tryz.f4).resultTypes.toList)) = true := by kernel_rfl
theorem and_two {a b : Bool} (ha : a = true) (hb : b = true) : (a && b) = true := by rw [ha, hb]; rfl
theorem fnEscapeTest_closed : joinedFacts Tryz.prog 4 Tryz.f4 Rows.fnEscapeTestSpec Rows.fnEscapeTestRow = true := by
  unfold joinedFacts
  exact and_two (and_two (and_two (and_two (and_two (and_two (and_two (and_two (and_two (and_two (and_two (and_two (and_two (and_two (and_two (and_two (and_two (and_two (and_two (and_two (and_two (and_two (and_two (and_two (and_two (and_two (and_two (and_two (and_two (and_two (and_two (fnEscapeTest_fact0) fnEscapeTest_fact1) fnEscapeTest_fact2) fnEscapeTest_fact3) fnEscapeTest_fact4) fnEscapeTest_fact5) fnEscapeTest_fact6) fnEscapeTest_fact7) fnEscapeTest_fact8) fnEscapeTest_fact9) fnEscapeTest_fact10) fnEscapeTest_fact11) fnEscapeTest_fact12) fnEscapeTest_fact13) fnEscapeTest_fact14) fnEscapeTest_fact15) fnEscapeTest_fact16) fnEscapeTest_fact17) fnEscapeTest_fact18) fnEscapeTest_fact19) fnEscapeTest_fact20) fnEscapeTest_fact21) fnEscapeTest_fact22) fnEscapeTest_fact23) fnEscapeTest_fact24) fnEscapeTest_fact25) fnEscapeTest_fact26) fnEscapeTest_fact27) fnEscapeTest_fact28) fnEscapeTest_fact29) fnEscapeTest_fact30) fnEscapeTest_fact31
end Go.Proofs.YtbkimfhlgpgoiaaGreatDoor
