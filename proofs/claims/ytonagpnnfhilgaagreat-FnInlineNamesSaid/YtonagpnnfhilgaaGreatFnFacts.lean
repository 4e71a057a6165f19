/- The closed facts of the row of laws.FnInlineNames, each by the kernel. Conditions: none. -/
import Derived.Test.YtonagpnnfhilgaaGreatRows
import Derived.JoinedOf
import Derived.KernelRfl
namespace Go.Proofs.YtonagpnnfhilgaaGreat
set_option maxRecDepth 100000
theorem fnInlineNames_fact0 : ((Rows.fnInlineNamesRow).wf (OpenSpec.ofChange Rows.fnInlineNamesSpec)) = true := by kernel_rfl
theorem fnInlineNames_fact1 : (laidOutB Tryz.prog) = true := by kernel_rfl
theorem fnInlineNames_fact2 : (mapsRowed Tryz.prog) = true := by kernel_rfl
theorem fnInlineNames_fact3 : ((Tryz.f3).params.all ((Tryz.prog).readableRec ·)) = true := by kernel_rfl
theorem fnInlineNames_fact4 : (namedTie Tryz.prog (Rows.fnInlineNamesRow).named (Rows.fnInlineNamesSpec).vars) = true := by kernel_rfl
theorem fnInlineNames_fact5 : (((Rows.fnInlineNamesRow).stops == [])) = true := by kernel_rfl
theorem fnInlineNames_fact6 : (((Tryz.prog).stops == [])) = true := by kernel_rfl
theorem fnInlineNames_fact7 : (((Rows.fnInlineNamesRow).knobs == [])) = true := by kernel_rfl
theorem fnInlineNames_fact8 : (((Tryz.prog).stopKnobs == [])) = true := by kernel_rfl
theorem fnInlineNames_fact9 : (((Rows.fnInlineNamesRow).inPlace == (Tryz.prog).inPlace 3)) = true := by kernel_rfl
theorem fnInlineNames_fact10 : (((Rows.fnInlineNamesRow).unfollowed == (Tryz.prog).unfollowed 3)) = true := by kernel_rfl
theorem fnInlineNames_fact11 : (((Rows.fnInlineNamesRow).recurses == (Tryz.prog).recurses 3)) = true := by kernel_rfl
theorem fnInlineNames_fact12 : (((Rows.fnInlineNamesRow).named == (Tryz.prog).varsNamed 3)) = true := by kernel_rfl
theorem fnInlineNames_fact13 : (((Rows.fnInlineNamesRow).maps == ((Tryz.f3).params.toList ++ (Rows.fnInlineNamesSpec).plain.varTypes Tryz.prog).any ((Tryz.prog).mapsRec ·))) = true := by kernel_rfl
theorem fnInlineNames_fact14 : (((Rows.fnInlineNamesRow).ifaces == ((Tryz.f3).params.toList ++ (Rows.fnInlineNamesSpec).plain.varTypes Tryz.prog).any ((Tryz.prog).ifacesRec ·))) = true := by kernel_rfl
theorem fnInlineNames_fact15 : (((Rows.fnInlineNamesRow).mapsOut == (Tryz.prog).mapsAmong (Tryz.f3).resultTypes.toList)) = true := by kernel_rfl
theorem fnInlineNames_fact16 : (((Rows.fnInlineNamesRow).loops == ((Tryz.f3).params.toList ++ (Rows.fnInlineNamesSpec).plain.varTypes Tryz.prog).any ((Tryz.prog).loopsFrom ·))) = true := by kernel_rfl
theorem fnInlineNames_fact17 : (((Rows.fnInlineNamesRow).wideKeys == ((Tryz.f3).params.toList ++ (Rows.fnInlineNamesSpec).plain.varTypes Tryz.prog ++ (Tryz.f3).resultTypes.toList).any ((Tryz.prog).wideKeysFrom ·))) = true := by kernel_rfl
theorem fnInlineNames_fact18 : ((Rows.fnInlineNamesSpec).vars.all ((Tryz.prog).varReadable ·)) = true := by kernel_rfl
theorem fnInlineNames_fact19 : ((Tryz.f3).resultTypes.all (fun t => (Tryz.prog).readableRec t && decide (t < (Tryz.prog).types.size))) = true := by kernel_rfl
theorem fnInlineNames_fact20 : (((Rows.fnInlineNamesRow).ifacesOut == (Tryz.f3).resultTypes.toList.any ((Tryz.prog).ifacesRec ·))) = true := by kernel_rfl
theorem fnInlineNames_fact21 : (((Rows.fnInlineNamesRow).loopsOut == (Tryz.f3).resultTypes.toList.any ((Tryz.prog).loopsFrom ·))) = true := by kernel_rfl
theorem fnInlineNames_fact22 : (((Rows.fnInlineNamesRow).plainKeys == (Tryz.prog).plainKeys)) = true := by kernel_rfl
theorem fnInlineNames_fact23 : ((Rows.fnInlineNamesRow).shortTexts.isNone) = true := by kernel_rfl
theorem fnInlineNames_fact24 : ((Tryz.prog).stopsHeard) = true := by kernel_rfl
theorem fnInlineNames_fact25 : ((Tryz.prog).mayEnter) = true := by kernel_rfl
theorem fnInlineNames_fact26 : (((Rows.fnInlineNamesRow).lifted == (Tryz.prog).liftsFinal)) = true := by kernel_rfl
theorem fnInlineNames_fact27 : (((Tryz.prog).make == some (Rows.fnInlineNamesRow).make)) = true := by kernel_rfl
theorem fnInlineNames_fact28 : (((Rows.fnInlineNamesRow).kinds == (if (Rows.fnInlineNamesRow).domain.isEmpty then [] else (Tryz.f3).params.toList.map fun t => match (Tryz.prog).underlying t with | some (.int k) => some k | _ => none))) = true := by kernel_rfl
theorem fnInlineNames_fact29 : (((Rows.fnInlineNamesRow).pinned == (Rows.fnInlineNamesRow).pinnedBy)) = true := by kernel_rfl
theorem fnInlineNames_fact30 : (((Rows.fnInlineNamesRow).veiled == ((Tryz.f3).params.toList ++ (Rows.fnInlineNamesSpec).plain.varTypes Tryz.prog ++ (Tryz.f3).resultTypes.toList).any ((Tryz.prog).veiledRec ·))) = true := by kernel_rfl
theorem fnInlineNames_fact31 : ((Rows.fnInlineNamesRow).veiledFits Tryz.prog (Tryz.f3).params.toList ((Tryz.f3).params.toList ++ (Rows.fnInlineNamesSpec).plain.varTypes Tryz.prog ++ (Tryz.f3).resultTypes.toList)) = true := by kernel_rfl
theorem and_two {a b : Bool} (ha : a = true) (hb : b = true) : (a && b) = true := by rw [ha, hb]; rfl
theorem fnInlineNames_closed : joinedFacts Tryz.prog 3 Tryz.f3 Rows.fnInlineNamesSpec Rows.fnInlineNamesRow = true := by
  unfold joinedFacts
  exact and_two (and_two (and_two (and_two (and_two (and_two (and_two (and_two (and_two (and_two (and_two (and_two (and_two (and_two (and_two (and_two (and_two (and_two (and_two (and_two (and_two (and_two (and_two (and_two (and_two (and_two (and_two (and_two (and_two (and_two (and_two (fnInlineNames_fact0) fnInlineNames_fact1) fnInlineNames_fact2) fnInlineNames_fact3) fnInlineNames_fact4) fnInlineNames_fact5) fnInlineNames_fact6) fnInlineNames_fact7) fnInlineNames_fact8) fnInlineNames_fact9) fnInlineNames_fact10) fnInlineNames_fact11) fnInlineNames_fact12) fnInlineNames_fact13) fnInlineNames_fact14) fnInlineNames_fact15) fnInlineNames_fact16) fnInlineNames_fact17) fnInlineNames_fact18) fnInlineNames_fact19) fnInlineNames_fact20) fnInlineNames_fact21) fnInlineNames_fact22) fnInlineNames_fact23) fnInlineNames_fact24) fnInlineNames_fact25) fnInlineNames_fact26) fnInlineNames_fact27) fnInlineNames_fact28) fnInlineNames_fact29) fnInlineNames_fact30) fnInlineNames_fact31

end Go.Proofs.YtonagpnnfhilgaaGreat
