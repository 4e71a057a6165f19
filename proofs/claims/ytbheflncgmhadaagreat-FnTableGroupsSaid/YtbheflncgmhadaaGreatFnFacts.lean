/- The closed facts of the row of laws.FnTableGroups, each by the kernel. Conditions: none. -/
import Derived.Test.YtbheflncgmhadaaGreatRows
import Derived.JoinedOf
import Derived.KernelRfl
namespace Go.Proofs.YtbheflncgmhadaaGreat
set_option maxRecDepth 100000
theorem fnTableGroups_fact0 : ((Rows.fnTableGroupsRow).wf (OpenSpec.ofChange Rows.fnTableGroupsSpec)) = true := by kernel_rfl
theorem fnTableGroups_fact1 : (laidOutB Tryz.prog) = true := by kernel_rfl
theorem fnTableGroups_fact2 : (mapsRowed Tryz.prog) = true := by kernel_rfl
theorem fnTableGroups_fact3 : ((Tryz.f3).params.all ((Tryz.prog).readableRec ·)) = true := by kernel_rfl
theorem fnTableGroups_fact4 : (namedTie Tryz.prog (Rows.fnTableGroupsRow).named (Rows.fnTableGroupsSpec).vars) = true := by kernel_rfl
theorem fnTableGroups_fact5 : (((Rows.fnTableGroupsRow).stops == [])) = true := by kernel_rfl
theorem fnTableGroups_fact6 : (((Tryz.prog).stops == [])) = true := by kernel_rfl
theorem fnTableGroups_fact7 : (((Rows.fnTableGroupsRow).knobs == [])) = true := by kernel_rfl
theorem fnTableGroups_fact8 : (((Tryz.prog).stopKnobs == [])) = true := by kernel_rfl
theorem fnTableGroups_fact9 : (((Rows.fnTableGroupsRow).inPlace == (Tryz.prog).inPlace 3)) = true := by kernel_rfl
theorem fnTableGroups_fact10 : (((Rows.fnTableGroupsRow).unfollowed == (Tryz.prog).unfollowed 3)) = true := by kernel_rfl
theorem fnTableGroups_fact11 : (((Rows.fnTableGroupsRow).recurses == (Tryz.prog).recurses 3)) = true := by kernel_rfl
theorem fnTableGroups_fact12 : (((Rows.fnTableGroupsRow).named == (Tryz.prog).varsNamed 3)) = true := by kernel_rfl
theorem fnTableGroups_fact13 : (((Rows.fnTableGroupsRow).maps == ((Tryz.f3).params.toList ++ (Rows.fnTableGroupsSpec).plain.varTypes Tryz.prog).any ((Tryz.prog).mapsRec ·))) = true := by kernel_rfl
theorem fnTableGroups_fact14 : (((Rows.fnTableGroupsRow).ifaces == ((Tryz.f3).params.toList ++ (Rows.fnTableGroupsSpec).plain.varTypes Tryz.prog).any ((Tryz.prog).ifacesRec ·))) = true := by kernel_rfl
theorem fnTableGroups_fact15 : (((Rows.fnTableGroupsRow).mapsOut == (Tryz.prog).mapsAmong (Tryz.f3).resultTypes.toList)) = true := by kernel_rfl
theorem fnTableGroups_fact16 : (((Rows.fnTableGroupsRow).loops == ((Tryz.f3).params.toList ++ (Rows.fnTableGroupsSpec).plain.varTypes Tryz.prog).any ((Tryz.prog).loopsFrom ·))) = true := by kernel_rfl
theorem fnTableGroups_fact17 : (((Rows.fnTableGroupsRow).wideKeys == ((Tryz.f3).params.toList ++ (Rows.fnTableGroupsSpec).plain.varTypes Tryz.prog ++ (Tryz.f3).resultTypes.toList).any ((Tryz.prog).wideKeysFrom ·))) = true := by kernel_rfl
theorem fnTableGroups_fact18 : ((Rows.fnTableGroupsSpec).vars.all ((Tryz.prog).varReadable ·)) = true := by kernel_rfl
theorem fnTableGroups_fact19 : ((Tryz.f3).resultTypes.all (fun t => (Tryz.prog).readableRec t && decide (t < (Tryz.prog).types.size))) = true := by kernel_rfl
theorem fnTableGroups_fact20 : (((Rows.fnTableGroupsRow).ifacesOut == (Tryz.f3).resultTypes.toList.any ((Tryz.prog).ifacesRec ·))) = true := by kernel_rfl
theorem fnTableGroups_fact21 : (((Rows.fnTableGroupsRow).loopsOut == (Tryz.f3).resultTypes.toList.any ((Tryz.prog).loopsFrom ·))) = true := by kernel_rfl
theorem fnTableGroups_fact22 : (((Rows.fnTableGroupsRow).plainKeys == (Tryz.prog).plainKeys)) = true := by kernel_rfl
theorem fnTableGroups_fact23 : ((Rows.fnTableGroupsRow).shortTexts.isNone) = true := by kernel_rfl
theorem fnTableGroups_fact24 : ((Tryz.prog).stopsHeard) = true := by kernel_rfl
theorem fnTableGroups_fact25 : ((Tryz.prog).mayEnter) = true := by kernel_rfl
theorem fnTableGroups_fact26 : (((Rows.fnTableGroupsRow).lifted == (Tryz.prog).liftsFinal)) = true := by kernel_rfl
theorem fnTableGroups_fact27 : (((Tryz.prog).make == some (Rows.fnTableGroupsRow).make)) = true := by kernel_rfl
theorem fnTableGroups_fact28 : (((Rows.fnTableGroupsRow).kinds == (if (Rows.fnTableGroupsRow).domain.isEmpty then [] else (Tryz.f3).params.toList.map fun t => match (Tryz.prog).underlying t with | some (.int k) => some k | _ => none))) = true := by kernel_rfl
theorem fnTableGroups_fact29 : (((Rows.fnTableGroupsRow).pinned == (Rows.fnTableGroupsRow).pinnedBy)) = true := by kernel_rfl
theorem fnTableGroups_fact30 : (((Rows.fnTableGroupsRow).veiled == ((Tryz.f3).params.toList ++ (Rows.fnTableGroupsSpec).plain.varTypes Tryz.prog ++ (Tryz.f3).resultTypes.toList).any ((Tryz.prog).veiledRec ·))) = true := by kernel_rfl
theorem fnTableGroups_fact31 : ((Rows.fnTableGroupsRow).veiledFits Tryz.prog (Tryz.f3).params.toList ((Tryz.f3).params.toList ++ (Rows.fnTableGroupsSpec).plain.varTypes Tryz.prog ++ (Tryz.f3).resultTypes.toList)) = true := by kernel_rfl
theorem and_two {a b : Bool} (ha : a = true) (hb : b = true) : (a && b) = true := by rw [ha, hb]; rfl
theorem fnTableGroups_closed : joinedFacts Tryz.prog 3 Tryz.f3 Rows.fnTableGroupsSpec Rows.fnTableGroupsRow = true := by
  unfold joinedFacts
  exact and_two (and_two (and_two (and_two (and_two (and_two (and_two (and_two (and_two (and_two (and_two (and_two (and_two (and_two (and_two (and_two (and_two (and_two (and_two (and_two (and_two (and_two (and_two (and_two (and_two (and_two (and_two (and_two (and_two (and_two (and_two (fnTableGroups_fact0) fnTableGroups_fact1) fnTableGroups_fact2) fnTableGroups_fact3) fnTableGroups_fact4) fnTableGroups_fact5) fnTableGroups_fact6) fnTableGroups_fact7) fnTableGroups_fact8) fnTableGroups_fact9) fnTableGroups_fact10) fnTableGroups_fact11) fnTableGroups_fact12) fnTableGroups_fact13) fnTableGroups_fact14) fnTableGroups_fact15) fnTableGroups_fact16) fnTableGroups_fact17) fnTableGroups_fact18) fnTableGroups_fact19) fnTableGroups_fact20) fnTableGroups_fact21) fnTableGroups_fact22) fnTableGroups_fact23) fnTableGroups_fact24) fnTableGroups_fact25) fnTableGroups_fact26) fnTableGroups_fact27) fnTableGroups_fact28) fnTableGroups_fact29) fnTableGroups_fact30) fnTableGroups_fact31
end Go.Proofs.YtbheflncgmhadaaGreat
