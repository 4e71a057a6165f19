/- The law laws.FnEscapeTest, for every input: at a byte other than 7 of an escaped text each of the eleven tests tells -1, or, where punctuation stands, how many bytes, one at least, of those that there are. Conditions: those of the row: the four listed tables are as the program lays them. -/
import Derived.Test.YtbkimfhlgpgoiaaGreatDoorRows
import Derived.Test.YtbkimfhlgpgoiaaGreatDoorTie
import Derived.Test.YtbkimfhlgpgoiaaGreatDoorCards
import Derived.Test.YtbkimfhlgpgoiaaGreatDoorHC
import Derived.ProofKit
import Derived.Shelf.Unicode.PredsPay
import Derived.PinnedBridge
import Derived.Lib.LaidU8T
import Derived.Lay
import Derived.LaidOnce
import Derived.SevenTiedAt
namespace Go.Proofs.YtbkimfhlgpgoiaaGreatDoor
open Go.ChangeShapes Go.WideShapes Go.ChangeAt Go.RowKit Go.Lib Go.Shelf
open Go.ChangeMaps (open_string shut_string)
open Go.Proofs.YtbkimfhlgpgoiaaGreatDoor.Hand
set_option linter.unusedVariables false
set_option linter.unusedSimpArgs false

theorem own : ownKnob Tryz.prog.godebug = none := by kernel_rfl
abbrev laidE : List (String × DataW Unit) := Rows.fnEscapeTestRow.laid

def u8ren : Ren := ⟨fun n => n, fun | 119 => 215 | 138 => 217 | 139 => 218 | n => n, fun | 3 => 2 | 4 => 3 | n => n⟩
theorem u8t : U8Types Tryz.prog u8ren := ⟨by kernel_rfl, by kernel_rfl, by kernel_rfl, by kernel_rfl⟩
theorem u8x : U8Extra Tryz.prog u8ren := ⟨by kernel_rfl, by kernel_rfl, by kernel_rfl, by kernel_rfl, by kernel_rfl, by kernel_rfl, by kernel_rfl⟩
theorem whx : WhiteExtra Tryz.prog Tryz.lays199_ren := ⟨by kernel_rfl, by kernel_rfl, by kernel_rfl, by kernel_rfl, by kernel_rfl, by kernel_rfl, by kernel_rfl, by kernel_rfl⟩
theorem rx : RExtra Tryz.prog Tryz.lays198_ren := ⟨by kernel_rfl, by kernel_rfl, by kernel_rfl, by kernel_rfl, by kernel_rfl, by kernel_rfl, by kernel_rfl, by kernel_rfl⟩
theorem accept_eq : (Rows.laid_unicode_utf8_acceptRanges : DataW Unit) = acceptData := by kernel_rfl
theorem white_eq : (Rows.laid_unicode_White_Space : DataW Unit) = whiteData := by kernel_rfl
theorem first_eq : Rows.laid_unicode_utf8_first = firstData := Pinned.utf8First_eq
theorem digit_eq : Rows.laid_unicode_Digit = rtabData digitT := Pinned.digit_eq

theorem tabs {W : World} (hL : laidMet Tryz.prog laidE W) : Lib.Utf8Tabs 2 3 W ∧ Lib.WhiteTab 0 W ∧ DigitOk W := by
  have r1 : VarReads Tryz.prog W "unicode/utf8.acceptRanges" acceptData := accept_eq ▸ Lib.laidMet.reads hL (.head _)
  have r2 : VarReads Tryz.prog W "unicode.White_Space" whiteData := white_eq ▸ Lib.laidMet.reads hL (.tail _ (.head _))
  have r3 : VarReads Tryz.prog W "unicode.Digit" (rtabData digitT) := digit_eq ▸ Lib.laidMet.reads hL (.tail _ (.tail _ (.head _)))
  have r4 : VarReads Tryz.prog W "unicode/utf8.first" firstData := first_eq ▸ Lib.laidMet.reads hL (.tail _ (.tail _ (.tail _ (.head _))))
  have hV : RVar 1 digitT W := rvar_of_reads { Tryz.lays198 with } rx (by kernel_rfl) (by kernel_rfl) r3
  refine ⟨utf8Tabs_of_readsT u8t u8x r4 r1, whiteTab_of_reads Tryz.lays199 whx r2, fun r w1 h0 h1 hb => ?_⟩
  refine (Tryz.unicode_IsDigit_any digitT r w1 (by omega) (by omega) (RVar_below hV hb) digitT_ok).mono ?_
  rintro e w2 ⟨rfl, hb2⟩
  exact ⟨⟨_, rfl⟩, hb2⟩

set_option maxRecDepth 100000 in
theorem lifted (os : Os) (started : os.Started) (H : Type) (enc : TypeId × Value → H) :
    ReturnsInHanded {} Tryz.checked os 4 .any (fun w args => (Rows.fnEscapeTestSpec.pre enc Tryz.prog Tryz.f4 [] false w args ∧ laidMetH Tryz.prog laidE w) ∧ sizedMet enc Tryz.prog Tryz.f4 (OpenSpec.ofChange Rows.fnEscapeTestSpec) false w args)
      (Rows.fnEscapeTestSpec.post enc Tryz.prog Tryz.f4 false true false false) := by
  refine returnsInHanded_of_change_and (C := Tryz.checked) (X := fun w _ => laidMetH Tryz.prog laidE w) (fun _ _ _ hh h => h.of_heap hh) own started (by kernel_rfl) Tryz.func4
    (ChangeSpec.witness_shaped (enc := enc) (C := Tryz.checked) (os := os) (X := fun w _ => laidMetH Tryz.prog laidE w) false (World.laidAll Tryz.prog os laidE) #[.int .i64 0, .string ⟨#[]⟩, .int .i64 0] 8 (World.laidAll_os _ _ _)
      (World.shaped_of_ZipB (by kernel_rfl) (by kernel_rfl)) (by kernel_rfl) (by kernel_rfl) (by kernel_rfl)
      (by rw [MakeChecks.laidMetH_plain _ _ _ (by kernel_rfl)]; exact laidMet_laidAll _ (by kernel_rfl) (by kernel_rfl))) ?_
  intro W base args ds gs before hval0 hW _ _ hL _
  have hval : ∀ (j : Nat) t v, Tryz.f4.params[j]? = some t → args[j]? = some v → Value.okWide Tryz.prog W .any base t v := hval0
  have hW' := hW
  obtain ⟨p, q, hA0, hV, rfl, _, _⟩ := hW
  have hA : DataW.TrodAll enc Tryz.prog W 0 (fun _ => true) true Tryz.f4.params.toList args.toList ds p := hA0
  rw [Tryz.params4] at hA hval
  obtain ⟨v0, v1, v2, d0, d1, d2, p0, p1, p2, rfl, rfl, rfl, h0, h1, h2⟩ := trodAll_three hA
  obtain ⟨rfl, rfl⟩ := trodVars_none hV
  obtain ⟨kind, rfl, rfl, rfl, wk⟩ := open_int Tryz.underlying3 (hval 0 3 v0 rfl rfl) h0
  obtain ⟨s, rfl, rfl, rfl, ws⟩ := open_string Tryz.underlying9 (hval 1 9 v1 rfl rfl) h1
  obtain ⟨a, rfl, rfl, rfl, wt⟩ := open_int Tryz.underlying3 (hval 2 3 v2 rfl rfl) h2
  simp only [List.append_nil] at hW'
  rw [MakeChecks.laidMetH_plain _ _ _ (by kernel_rfl)] at hL
  obtain ⟨hT, hWh, hD⟩ := tabs hL
  have hk : -9223372036854775808 ≤ kind ∧ kind ≤ 9223372036854775807 := by simpa [Lit.wf, IntKind.min, IntKind.max, IntKind.signed, IntKind.bits] using wk
  have ha : -9223372036854775808 ≤ a ∧ a ≤ 9223372036854775807 := by simpa [Lit.wf, IntKind.min, IntKind.max, IntKind.signed, IntKind.bits] using wt
  refine (law_calls kind a s W hT hWh hD ha hk).mono fun e W' ⟨he, hb⟩ => ?_
  subst he
  exact ⟨_, rfl, _, _, _, [], [], [], hW', trodAll_mk1 (shut_bool Tryz.underlying4 _), trodAll_mk3 (shut_int Tryz.underlying3 wk) (shut_string Tryz.underlying9 ws) (shut_int Tryz.underlying3 wt), rfl, hb.frame _, fun h => by cases h⟩

end Go.Proofs.YtbkimfhlgpgoiaaGreatDoor
