/- What TrimUnnecessaryHardLineBreaks and the functions below it compute, printed by print.sh and mended at one place. Conditions: those in each statement. -/
import Derived.Test.YtonagpnnfhilgaaGreatPTrimUnnecessaryHardLineBreaksx0
namespace Go.Proofs.YtonagpnnfhilgaaGreat.PTrimUnnecessaryHardLineBreaks
open Go.RowKit Go.Proofs.YtonagpnnfhilgaaGreatW.PrintWords Go.Proofs.YtonagpnnfhilgaaGreatW.PrintLast Go.Proofs.YtonagpnnfhilgaaGreatW.PrintMore
attribute [local go_sem] max2_int min2_int max_two min_two max_three min_three max_four min_four   -- for this text's walks alone
set_option linter.unusedVariables false
set_option linter.unusedSimpArgs false

/-! ### textutils_zzReplaceAll: function 71 -/
def textutils_zzReplaceAll.l0 : Nat → List Int → ByteArray → ByteArray → List Int → Int → Option (List Int)
  | 0, _, _, _, _, _ => none
  | k + 1, x0, x1, x2, x7, x8 => if x8 < (x0.length : Int) then (if (wrap64 (x8 + (x1.size : Int))) ≤ (x0.length : Int) then (if 0 ≤ x8 then (if x8 ≤ (wrap64 (x8 + (x1.size : Int))) then (if (strOfNums ((x0.take ((wrap64 (x8 + (x1.size : Int))) : Int).toNat).drop (x8 : Int).toNat)).toList = x1.toList then (if x7.length + x2.size < 140737488355328 then (textutils_zzReplaceAll.l0 k x0 x1 x2 (x7 ++ bytesOf x2) (wrap64 (x8 + (x1.size : Int)))) else (none)) else (if x7.length < 140737488355328 then (textutils_zzReplaceAll.l0 k x0 x1 x2 (x7 ++ [rd x0 x8]) (wrap64 (x8 + 1))) else (none))) else (none)) else (none)) else (if 0 ≤ x8 then (if x7.length < 140737488355328 then (textutils_zzReplaceAll.l0 k x0 x1 x2 (x7 ++ [rd x0 x8]) (wrap64 (x8 + 1))) else (none)) else (none))) else (some x7)
def textutils_zzReplaceAll.f (k : Nat) (l0 : List Int) (a1 : ByteArray) (a2 : ByteArray) : Option (List Int) := textutils_zzReplaceAll.l0 k l0 a1 a2 ([] : List Int) 0
theorem textutils_zzReplaceAll.mono_l : ∀ k, (∀ y0 y1 y2 y3 y4, LeO (textutils_zzReplaceAll.l0 k y0 y1 y2 y3 y4) (textutils_zzReplaceAll.l0 (k + 1) y0 y1 y2 y3 y4))
  | 0 => fun _ _ _ _ _ r h => by simp [textutils_zzReplaceAll.l0] at h
  | k + 1 => by
    have ih0 := textutils_zzReplaceAll.mono_l k
    · intro y0 y1 y2 y3 y4
      unfold textutils_zzReplaceAll.l0
      repeat' first
      | (with_reducible exact ih0 _ _ _ _ _)
      | (with_reducible exact LeO.refl _)
      | (with_reducible exact LeO.none _)
      | (with_reducible refine LeO.ite ?_ ?_)
      | (with_reducible refine LeO.bind ?_ (fun _ => ?_))
      | exact ih0 _ _ _ _ _
      | exact LeO.none _
      | refine LeO.ite ?_ ?_
      | refine LeO.bind ?_ (fun _ => ?_)
theorem textutils_zzReplaceAll.mono : ∀ a0 a1 a2 k, LeO (textutils_zzReplaceAll.f k a0 a1 a2) (textutils_zzReplaceAll.f (k + 1) a0 a1 a2) := by
  intro a0 a1 a2 k
  have ih0 := textutils_zzReplaceAll.mono_l k
  unfold textutils_zzReplaceAll.f
  repeat' first
      | (with_reducible exact ih0 _ _ _ _ _)
      | (with_reducible exact LeO.refl _)
      | (with_reducible exact LeO.none _)
      | (with_reducible refine LeO.ite ?_ ?_)
      | (with_reducible refine LeO.bind ?_ (fun _ => ?_))
      | exact ih0 _ _ _ _ _
      | exact LeO.none _
      | refine LeO.ite ?_ ?_
      | refine LeO.bind ?_ (fun _ => ?_)
set_option maxHeartbeats 8000000 in
set_option maxRecDepth 100000 in
theorem textutils_zzReplaceAll.calls (k : Nat) (A0 : Option Addr) (c0 : Nat) (l0 : List Int) (a1 : ByteArray) (a2 : ByteArray) (r : List Int) (w : World) (hr0 : Kd.C (Kd.int .u8) w A0 l0.length l0) (hc0 : l0.length ≤ c0) (h : textutils_zzReplaceAll.f k l0 a1 a2 = some r) :
    Calls Tryz.prog 71 #[.slice A0 l0.length c0, .string a1, .string a2] w fun e w' => ∃ v0_ : Value, e = .returned (v0_) ∧ Kd.R (Kd.int .u8) 5 w' w.heap.size (fun _ => True) v0_ r ∧ Below w.heap.size w w' := by
  have HR0 := Aside0.mk hr0
  have HC0 := Aside0.mk hc0
  clear hr0 hc0
  have HB := Aside0.mk (Below.refl w.heap.size w)
  have H : (textutils_zzReplaceAll.l0 k l0 a1 a2 ([] : List Int) 0) = some r := h
  clear h
  have H' := Aside0.mk H
  clear H
  go_enter Tryz.func71, Tryz.ntmps71
  go_wp2
  go_loopg [7, 8] k (fun kq v7 v8 w' => ∃ (x7_1 : List Int) (x8_1 : Int), v8 = .int .i64 x8_1 ∧ Aside0 (textutils_zzReplaceAll.l0 kq l0 a1 a2 x7_1 x8_1 = some r) ∧ Aside0 (kq ≤ k) ∧ Aside0 (Kd.R (Kd.int .u8) 5 w' w.heap.size (fun _ => True) v7 x7_1) ∧ Aside0 (Below w.heap.size w w'))
  case atStart => exact ⟨(([] : List Int)), (0), (by first | rfl | (simp; done) | (simp [*]; done)), H', ⟨Nat.le_refl _⟩, ⟨by first | exact Kd.R_nil _ _ _ _ _ | exact Kd.N_nil _ _ _ _ _ | exact Kd.V_nil _ _ _ _ _ | exact Kd.Q_nil _ _ _ _ _ | exact Kd.S_nil _ _ _ _ _⟩, ⟨by repeat (first | (with_reducible first | exact HB.out | apply below_alloc | apply pw_below_drewN | apply below_drew1) | exact HB.out)⟩⟩
  case round =>
    clear H'
    try clear p2
    obtain ⟨x7_1, x8_1, rfl, HA, HK1, HO_7, HB⟩ := hrel
    cases gk with
    | zero => exact absurd HA.out (by simp [textutils_zzReplaceAll.l0])
    | succ k1 =>
      have H := HA.out
      clear HA
      simp only [textutils_zzReplaceAll.l0] at H
      by_cases c4 : x8_1 < (l0.length : Int)
      · rw [if_pos c4] at H
        have c4b0 : decide (x8_1 < (l0.length : Int)) = true := decide_eq_true c4
        clear c4
        by_cases c5 : (wrap64 (x8_1 + (a1.size : Int))) ≤ (l0.length : Int)
        · rw [if_pos c5] at H
          have c5b0 : decide ((wrap64 (x8_1 + (a1.size : Int))) ≤ (l0.length : Int)) = true := decide_eq_true c5
          clear c5
          by_cases c6 : 0 ≤ x8_1
          · rw [if_pos c6] at H
            have c6b0 := eq_true c6
            have c6b1 : decide (0 ≤ x8_1) = true := decide_eq_true c6
            clear c6
            by_cases c7 : x8_1 ≤ (wrap64 (x8_1 + (a1.size : Int)))
            · rw [if_pos c7] at H
              have c7b0 := eq_true c7
              have c7b1 : decide (x8_1 ≤ (wrap64 (x8_1 + (a1.size : Int)))) = true := decide_eq_true c7
              have c8b0 := eq_true (of_decide_eq_true (by first | (with_reducible assumption) | assumption) : (wrap64 (x8_1 + (a1.size : Int))) ≤ (l0.length : Int))
              by_cases c9 : (strOfNums ((l0.take ((wrap64 (x8_1 + (a1.size : Int))) : Int).toNat).drop (x8_1 : Int).toNat)).toList = a1.toList
              · rw [if_pos c9] at H
                have c9b0 : ((strOfNums ((l0.take ((wrap64 (x8_1 + (a1.size : Int))) : Int).toNat).drop (x8_1 : Int).toNat)).toList == a1.toList) = true := beq_iff_eq.mpr c9
                have c9b1 : ((strOfNums ((l0.take ((wrap64 (x8_1 + (a1.size : Int))) : Int).toNat).drop (x8_1 : Int).toNat)).toList != a1.toList) = false := bne_eq_false_iff_eq.mpr c9
                clear c9
                by_cases c10 : x7_1.length + a2.size < 140737488355328
                · rw [if_pos c10] at H
                  have LMc10 := Aside0.mk c10
                  clear c10
                  obtain ⟨y102, hy102⟩ : ∃ y_ : List Int, y_ = (x7_1 ++ bytesOf a2) := ⟨_, rfl⟩
                  replace H : (textutils_zzReplaceAll.l0 k1 l0 a1 a2 y102 (wrap64 (x8_1 + (a1.size : Int)))) = some r := by first | (rw [hy102]; with_reducible exact H) | (have H2_ := (Option.bind_some _ _).symm.trans H; rw [hy102]; with_reducible exact H2_) | (have H2_ := (Option.bind_some _ _).symm.trans H; with_reducible exact H2_) | with_reducible exact H | (rw [hy102]; exact H) | exact H
                  have Ny102 := Aside0.mk hy102
                  clear hy102
                  have H' := Aside0.mk H
                  clear H
                  obtain ⟨i011, hi011, _, hsz11, _⟩ := info_parts info5
                  obtain ⟨A11, hcut11, hA11, hC11⟩ := print_mid_of (P := Tryz.prog) (Value.int .u8) 0 47 5 .i64 .i64 Tryz.underlying47 hi011 hsz11 A0 c0 l0 x8_1 (wrap64 (x8_1 + (a1.size : Int))) (of_decide_eq_true (by first | (with_reducible assumption) | assumption)) (by first | omega | exact of_decide_eq_true (by first | (with_reducible assumption) | assumption)) (of_decide_eq_true (by first | (with_reducible assumption) | assumption)) HC0.out
                  have HR101 := Aside0.mk (Kd.C_of_reads (h1 := fun _ => rfl) (hA11 _ (Kd.reads_of_C HR0.out)))
                  have HC101 := Aside0.mk hC11
                  clear hA11 hC11 hi011 hsz11
                  have hcv12 := Kd.C_string (P := Tryz.prog) (A := A11) (c := (c0 - x8_1.toNat)) Tryz.underlying47 Tryz.underlying5 Tryz.underlying9 (Kd.C_below HR101.out HB.out)
                  have hln1 : ((l0.take ((wrap64 (x8_1 + (a1.size : Int))) : Int).toNat).drop (x8_1 : Int).toNat).length = (wrap64 (x8_1 + (a1.size : Int))).toNat - (x8_1 : Int).toNat := by
                    have h8 := of_eq_true c8b0
                    rw [List.length_drop, List.length_take]
                    omega
                  rw [hln1] at hcv12
                  clear hln1
                  go_wp2_with (first | (at_builtin; refine print_append_str (w0 := w) w.heap.size rfl (.tmp 32) _ 47 9 5 rfl Tryz.underlying47 Tryz.underlying9 info5 u7 x7_1 a2 rfl rfl ?aO ?aB ?aS ?aL ?_; (case aB => exact (by repeat (first | (with_reducible first | exact HB.out | apply below_alloc | apply pw_below_drewN | apply below_drew1) | exact HB.out))); (case aO => exact (Kd.own_of_R (by (with_reducible repeat (first | apply Kd.R_alloc | apply Kd.R_drewN | apply Kd.R_drew)); exact HO_7.out))); (case aS => exact (below_size (by repeat (first | (with_reducible first | exact HB.out | apply below_alloc | apply pw_below_drewN | apply below_drew1) | exact HB.out)))); (case aL => have := LMc10.out; omega); intro v103 w13 ho0 hb hg; have ho := Kd.R_of_own (h1 := fun _ => rfl) (ok := fun _ => True) ho0 (fun _ _ => trivial); clear ho0; have hat := True.intro; rw [← Ny102.out] at ho; change Kd.R (Kd.int .u8) 5 w13 w.heap.size (fun _ => True) v103 y102 at ho; have n0_ := Aside0.mk (hb); have n1_ := Aside0.mk (ho); clear HB; clear HO_7; have HB := n0_; have HO104 := n1_; clear n0_ n1_; clear ho hb hg hat))
                  go_roundg k1
                  case measure => have := HK1.out; omega
                  case rel => exact ⟨(y102), (wrap64 (x8_1 + (a1.size : Int))), (by first | rfl | (simp; done) | (simp [*]; done)), H', ⟨by have := HK1.out; omega⟩, ⟨by (with_reducible repeat (first | apply Kd.R_alloc | apply Kd.R_drewN | apply Kd.R_drew)); exact HO104.out⟩, ⟨by repeat (first | (with_reducible first | exact HB.out | apply below_alloc | apply pw_below_drewN | apply below_drew1) | exact HB.out)⟩⟩
                · rw [if_neg c10] at H
                  exact absurd H (by simp)
              · rw [if_neg c9] at H
                have c9b0 : ((strOfNums ((l0.take ((wrap64 (x8_1 + (a1.size : Int))) : Int).toNat).drop (x8_1 : Int).toNat)).toList == a1.toList) = false := beq_eq_false_iff_ne.mpr c9
                have c9b1 : ((strOfNums ((l0.take ((wrap64 (x8_1 + (a1.size : Int))) : Int).toNat).drop (x8_1 : Int).toNat)).toList != a1.toList) = true := bne_iff_ne.mpr c9
                by_cases c14 : x7_1.length < 140737488355328
                · rw [if_pos c14] at H
                  have LMc14 := Aside0.mk c14
                  clear c14
                  obtain ⟨y106, hy106⟩ : ∃ y_ : List Int, y_ = (x7_1 ++ [rd l0 x8_1]) := ⟨_, rfl⟩
                  replace H : (textutils_zzReplaceAll.l0 k1 l0 a1 a2 y106 (wrap64 (x8_1 + 1))) = some r := by first | (rw [hy106]; with_reducible exact H) | (have H2_ := (Option.bind_some _ _).symm.trans H; rw [hy106]; with_reducible exact H2_) | (have H2_ := (Option.bind_some _ _).symm.trans H; with_reducible exact H2_) | with_reducible exact H | (rw [hy106]; exact H) | exact H
                  have Ny106 := Aside0.mk hy106
                  clear hy106
                  have H' := Aside0.mk H
                  clear H
                  obtain ⟨i015, hi015, _, hsz15, _⟩ := info_parts info5
                  obtain ⟨A15, hcut15, hA15, hC15⟩ := print_mid_of (P := Tryz.prog) (Value.int .u8) 0 47 5 .i64 .i64 Tryz.underlying47 hi015 hsz15 A0 c0 l0 x8_1 (wrap64 (x8_1 + (a1.size : Int))) (of_decide_eq_true (by first | (with_reducible assumption) | assumption)) (by first | omega | exact of_decide_eq_true (by first | (with_reducible assumption) | assumption)) (of_decide_eq_true (by first | (with_reducible assumption) | assumption)) HC0.out
                  have HR101 := Aside0.mk (Kd.C_of_reads (h1 := fun _ => rfl) (hA15 _ (Kd.reads_of_C HR0.out)))
                  have HC101 := Aside0.mk hC15
                  clear hA15 hC15 hi015 hsz15
                  have hcv16 := Kd.C_string (P := Tryz.prog) (A := A15) (c := (c0 - x8_1.toNat)) Tryz.underlying47 Tryz.underlying5 Tryz.underlying9 (Kd.C_below HR101.out HB.out)
                  have hln2 : ((l0.take ((wrap64 (x8_1 + (a1.size : Int))) : Int).toNat).drop (x8_1 : Int).toNat).length = (wrap64 (x8_1 + (a1.size : Int))).toNat - (x8_1 : Int).toNat := by
                    have h8 := of_eq_true c8b0
                    rw [List.length_drop, List.length_take]
                    omega
                  rw [hln2] at hcv16
                  clear hln2
                  have p105 : 0 ≤ (x8_1 : Int) := of_decide_eq_true (by first | (with_reducible assumption) | assumption)
                  have q105 : x8_1 < (l0.length : Int) := of_decide_eq_true (by first | (with_reducible assumption) | assumption)
                  obtain ⟨ad105, e105, hx105_0⟩ := Kd.at_int HR0.out x8_1 p105 q105
                  cases e105
                  replace hx105_0 := (HB.out.cell (World.block_lt_of_cell? w _ hx105_0)).trans hx105_0
                  replace p105 := eq_true p105
                  replace q105 := eq_true q105
                  go_wp2_with (first | ((with_reducible refine gate_builtin (b := .append) (xs := #[.tmp 39, .tmp 44]) rfl ?_); (try (refine gate_guard (by rfl) ?_; dsimp only)); at_builtin; refine Kd.R_append (Kd.int .u8) (w0 := w) w.heap.size rfl (.tmp 39) (.tmp 44) 47 5 (.int .u8 0) 1 rfl Tryz.underlying47 info5 rfl (by decide) (by omega) u7 x7_1 (rd l0 x8_1) [.int .u8 (rd l0 x8_1)] (fun _ => True) (fun _ => False) rfl rfl ?aP (fun _ hk => hk.elim) ?aF ?aO ?aB ?aS ?aL ?_; (case aP => exact rfl); (case aB => exact (by repeat (first | (with_reducible first | exact HB.out | apply below_alloc | apply pw_below_drewN | apply below_drew1) | exact HB.out))); (case aF => exact (fun _ _ => trivial)); (case aO => exact (by (with_reducible repeat (first | apply Kd.R_alloc | apply Kd.R_drewN | apply Kd.R_drew)); exact HO_7.out)); (case aS => exact (below_size (by repeat (first | (with_reducible first | exact HB.out | apply below_alloc | apply pw_below_drewN | apply below_drew1) | exact HB.out)))); (case aL => have := LMc14.out; omega); intro v107 w17 ho hb hg hat; rw [← Ny106.out] at ho; have n0_ := Aside0.mk (hb); have n1_ := Aside0.mk (ho); clear HB; clear HO_7; have HB := n0_; have HO108 := n1_; clear n0_ n1_; clear ho hb hg hat))
                  go_roundg k1
                  case measure => have := HK1.out; omega
                  case rel => exact ⟨(y106), (wrap64 (x8_1 + 1)), (by first | rfl | (simp; done) | (simp [*]; done)), H', ⟨by have := HK1.out; omega⟩, ⟨by (with_reducible repeat (first | apply Kd.R_alloc | apply Kd.R_drewN | apply Kd.R_drew)); exact HO108.out⟩, ⟨by repeat (first | (with_reducible first | exact HB.out | apply below_alloc | apply pw_below_drewN | apply below_drew1) | exact HB.out)⟩⟩
                · rw [if_neg c14] at H
                  exact absurd H (by simp)
            · rw [if_neg c7] at H
              exact absurd H (by simp)
          · rw [if_neg c6] at H
            exact absurd H (by simp)
        · rw [if_neg c5] at H
          have c5b0 : decide ((wrap64 (x8_1 + (a1.size : Int))) ≤ (l0.length : Int)) = false := decide_eq_false c5
          clear c5
          by_cases c18 : 0 ≤ x8_1
          · rw [if_pos c18] at H
            have c18b0 : decide (0 ≤ x8_1) = true := decide_eq_true c18
            clear c18
            by_cases c19 : x7_1.length < 140737488355328
            · rw [if_pos c19] at H
              have LMc19 := Aside0.mk c19
              clear c19
              obtain ⟨y110, hy110⟩ : ∃ y_ : List Int, y_ = (x7_1 ++ [rd l0 x8_1]) := ⟨_, rfl⟩
              replace H : (textutils_zzReplaceAll.l0 k1 l0 a1 a2 y110 (wrap64 (x8_1 + 1))) = some r := by first | (rw [hy110]; with_reducible exact H) | (have H2_ := (Option.bind_some _ _).symm.trans H; rw [hy110]; with_reducible exact H2_) | (have H2_ := (Option.bind_some _ _).symm.trans H; with_reducible exact H2_) | with_reducible exact H | (rw [hy110]; exact H) | exact H
              have Ny110 := Aside0.mk hy110
              clear hy110
              have H' := Aside0.mk H
              clear H
              have p109 : 0 ≤ (x8_1 : Int) := of_decide_eq_true (by first | (with_reducible assumption) | assumption)
              have q109 : x8_1 < (l0.length : Int) := of_decide_eq_true (by first | (with_reducible assumption) | assumption)
              obtain ⟨ad109, e109, hx109_0⟩ := Kd.at_int HR0.out x8_1 p109 q109
              cases e109
              replace hx109_0 := (HB.out.cell (World.block_lt_of_cell? w _ hx109_0)).trans hx109_0
              replace p109 := eq_true p109
              replace q109 := eq_true q109
              go_wp2_with (first | ((with_reducible refine gate_builtin (b := .append) (xs := #[.tmp 39, .tmp 44]) rfl ?_); (try (refine gate_guard (by rfl) ?_; dsimp only)); at_builtin; refine Kd.R_append (Kd.int .u8) (w0 := w) w.heap.size rfl (.tmp 39) (.tmp 44) 47 5 (.int .u8 0) 1 rfl Tryz.underlying47 info5 rfl (by decide) (by omega) u7 x7_1 (rd l0 x8_1) [.int .u8 (rd l0 x8_1)] (fun _ => True) (fun _ => False) rfl rfl ?aP (fun _ hk => hk.elim) ?aF ?aO ?aB ?aS ?aL ?_; (case aP => exact rfl); (case aB => exact (by repeat (first | (with_reducible first | exact HB.out | apply below_alloc | apply pw_below_drewN | apply below_drew1) | exact HB.out))); (case aF => exact (fun _ _ => trivial)); (case aO => exact (by (with_reducible repeat (first | apply Kd.R_alloc | apply Kd.R_drewN | apply Kd.R_drew)); exact HO_7.out)); (case aS => exact (below_size (by repeat (first | (with_reducible first | exact HB.out | apply below_alloc | apply pw_below_drewN | apply below_drew1) | exact HB.out)))); (case aL => have := LMc19.out; omega); intro v111 w20 ho hb hg hat; rw [← Ny110.out] at ho; have n0_ := Aside0.mk (hb); have n1_ := Aside0.mk (ho); clear HB; clear HO_7; have HB := n0_; have HO112 := n1_; clear n0_ n1_; clear ho hb hg hat))
              go_roundg k1
              case measure => have := HK1.out; omega
              case rel => exact ⟨(y110), (wrap64 (x8_1 + 1)), (by first | rfl | (simp; done) | (simp [*]; done)), H', ⟨by have := HK1.out; omega⟩, ⟨by (with_reducible repeat (first | apply Kd.R_alloc | apply Kd.R_drewN | apply Kd.R_drew)); exact HO112.out⟩, ⟨by repeat (first | (with_reducible first | exact HB.out | apply below_alloc | apply pw_below_drewN | apply below_drew1) | exact HB.out)⟩⟩
            · rw [if_neg c19] at H
              exact absurd H (by simp)
          · rw [if_neg c18] at H
            exact absurd H (by simp)
      · rw [if_neg c4] at H
        have c4b0 : decide (x8_1 < (l0.length : Int)) = false := decide_eq_false c4
        clear c4
        obtain rfl := Option.some.inj H
        go_wp2
        go_ret
        exact ⟨_, by first | rfl | (simp [errW_none, errW_some] <;> rfl) | (simp [*, errW_none, errW_some] <;> rfl), by (with_reducible repeat (first | apply Kd.R_alloc | apply Kd.R_drewN | apply Kd.R_drew)); exact HO_7.out, by repeat (first | (with_reducible first | exact HB.out | apply below_alloc | apply pw_below_drewN | apply below_drew1) | exact HB.out)⟩

/-! ### textutils_TrimUnnecessaryHardLineBreaks: function 161 -/
def textutils_TrimUnnecessaryHardLineBreaks.f (k : Nat) (l0 : List Int) : Option (List Int) := (textutils_zzReplaceAll.f k l0 (⟨#[32, 32, 10, 10]⟩ : ByteArray) (⟨#[10, 10]⟩ : ByteArray)).bind fun t113 => ((textutils_zzReplaceAll.f k t113 (⟨#[32, 32, 10, 32, 32, 10]⟩ : ByteArray) (⟨#[10, 10]⟩ : ByteArray)).bind fun t116 => ((textutils_zzReplaceAll.f k t116 (⟨#[32, 32, 10, 32, 10]⟩ : ByteArray) (⟨#[10, 10]⟩ : ByteArray)).bind fun t119 => (some t119)))
theorem textutils_TrimUnnecessaryHardLineBreaks.mono : ∀ a0 k, LeO (textutils_TrimUnnecessaryHardLineBreaks.f k a0) (textutils_TrimUnnecessaryHardLineBreaks.f (k + 1) a0) := by
  intro a0 k
  unfold textutils_TrimUnnecessaryHardLineBreaks.f
  repeat' first
      | (with_reducible exact textutils_zzReplaceAll.mono _ _ _ _)
      | (with_reducible exact LeO.refl _)
      | (with_reducible exact LeO.none _)
      | (with_reducible refine LeO.ite ?_ ?_)
      | (with_reducible refine LeO.bind ?_ (fun _ => ?_))
      | exact textutils_zzReplaceAll.mono _ _ _ _
      | exact LeO.none _
      | refine LeO.ite ?_ ?_
      | refine LeO.bind ?_ (fun _ => ?_)
set_option maxHeartbeats 8000000 in
set_option maxRecDepth 100000 in
theorem textutils_TrimUnnecessaryHardLineBreaks.calls (k : Nat) (A0 : Option Addr) (c0 : Nat) (l0 : List Int) (r : List Int) (w : World) (hr0 : Kd.C (Kd.int .u8) w A0 l0.length l0) (hc0 : l0.length ≤ c0) (h : textutils_TrimUnnecessaryHardLineBreaks.f k l0 = some r) :
    Calls Tryz.prog 161 #[.slice A0 l0.length c0] w fun e w' => ∃ v0_ : Value, e = .returned (v0_) ∧ Kd.R (Kd.int .u8) 5 w' w.heap.size (fun _ => True) v0_ r ∧ Below w.heap.size w w' := by
  have HR0 := Aside0.mk hr0
  have HC0 := Aside0.mk hc0
  clear hr0 hc0
  have HB := Aside0.mk (Below.refl w.heap.size w)
  have H : ((textutils_zzReplaceAll.f k l0 (⟨#[32, 32, 10, 10]⟩ : ByteArray) (⟨#[10, 10]⟩ : ByteArray)).bind fun t113 => ((textutils_zzReplaceAll.f k t113 (⟨#[32, 32, 10, 32, 32, 10]⟩ : ByteArray) (⟨#[10, 10]⟩ : ByteArray)).bind fun t116 => ((textutils_zzReplaceAll.f k t116 (⟨#[32, 32, 10, 32, 10]⟩ : ByteArray) (⟨#[10, 10]⟩ : ByteArray)).bind fun t119 => (some t119)))) = some r := h
  clear h
  replace H := Option.bind_eq_some_iff.mp H
  obtain ⟨t113, A20, H⟩ := H
  replace H : ((textutils_zzReplaceAll.f k t113 (⟨#[32, 32, 10, 32, 32, 10]⟩ : ByteArray) (⟨#[10, 10]⟩ : ByteArray)).bind fun t116 => ((textutils_zzReplaceAll.f k t116 (⟨#[32, 32, 10, 32, 10]⟩ : ByteArray) (⟨#[10, 10]⟩ : ByteArray)).bind fun t119 => (some t119))) = some r := H
  have A2 := Aside0.mk A20
  clear A20
  replace H := Option.bind_eq_some_iff.mp H
  obtain ⟨t116, A30, H⟩ := H
  replace H : ((textutils_zzReplaceAll.f k t116 (⟨#[32, 32, 10, 32, 10]⟩ : ByteArray) (⟨#[10, 10]⟩ : ByteArray)).bind fun t119 => (some t119)) = some r := H
  have A3 := Aside0.mk A30
  clear A30
  replace H := Option.bind_eq_some_iff.mp H
  obtain ⟨t119, A40, H⟩ := H
  replace H : (some t119) = some r := H
  have A4 := Aside0.mk A40
  clear A40
  obtain rfl := Option.some.inj H
  go_enter Tryz.func161, Tryz.ntmps161
  go_wp2_with (first | ((with_reducible refine gate_callee (f := 71) rfl ?_); refine goesL_ (some 4) rfl rfl Tryz.func71 (by kernel_rfl) rfl #[.slice A0 l0.length c0, .string (⟨#[32, 32, 10, 10]⟩ : ByteArray), .string (⟨#[10, 10]⟩ : ByteArray)] rfl (by (try simp only [List.map_toArray, List.map_cons, List.map_nil]); first | done | rfl | (simp only [List.length_drop, List.length_take]; rfl)) ?_; (with_reducible refine (textutils_zzReplaceAll.calls k _ _ l0 (⟨#[32, 32, 10, 10]⟩ : ByteArray) (⟨#[10, 10]⟩ : ByteArray) t113 _ ?side1 ?side2 A2.out).mono ?_); (case side1 => repeat (first | exact HR0.out | (with_reducible refine Kd.C_alloc ?_ _) | (with_reducible refine Kd.C_drewN ?_ _) | (with_reducible refine Kd.C_drew ?_))); (case side2 => exact HC0.out); rintro e w5 ⟨v114, rfl, ho0, hb⟩; refine ⟨_, rfl, ?_⟩; have n0_ := Aside0.mk (Kd.R_lower ho0 (below_size (by repeat (first | (with_reducible first | exact HB.out | apply below_alloc | apply pw_below_drewN | apply below_drew1) | exact HB.out)))); have n1_ := Aside0.mk (below_step (by repeat (first | (with_reducible first | exact HB.out | apply below_alloc | apply pw_below_drewN | apply below_drew1) | exact HB.out)) hb); clear HB; have HO115 := n0_; have HB := n1_; clear n0_ n1_; (try clear hb); (try clear hb2); (try clear hk); (try clear hi); (try clear ho0); obtain ⟨Ao6, co6, eo6⟩ := Kd.R_slice HO115.out; subst eo6) | ((with_reducible refine gate_callee (f := 71) rfl ?_); refine goesL_ (some 6) rfl rfl Tryz.func71 (by kernel_rfl) rfl #[.slice Ao6 t113.length co6, .string (⟨#[32, 32, 10, 32, 32, 10]⟩ : ByteArray), .string (⟨#[10, 10]⟩ : ByteArray)] rfl (by (try simp only [List.map_toArray, List.map_cons, List.map_nil]); first | done | rfl | (simp only [List.length_drop, List.length_take]; rfl)) ?_; (with_reducible refine (textutils_zzReplaceAll.calls k _ _ t113 (⟨#[32, 32, 10, 32, 32, 10]⟩ : ByteArray) (⟨#[10, 10]⟩ : ByteArray) t116 _ ?side1 ?side2 A3.out).mono ?_); (case side1 => repeat (first | exact (Kd.R_reads' HO115.out).2.2 | (with_reducible refine Kd.C_alloc ?_ _) | (with_reducible refine Kd.C_drewN ?_ _) | (with_reducible refine Kd.C_drew ?_))); (case side2 => exact (Kd.R_reads' HO115.out).2.1); rintro e w7 ⟨v117, rfl, ho0, hb⟩; refine ⟨_, rfl, ?_⟩; have n0_ := Aside0.mk (Kd.R_elder' (by (with_reducible repeat (first | apply Kd.R_alloc | apply Kd.R_drewN | apply Kd.R_drew)); exact HO115.out) (Kd.R_base ho0) hb); have n1_ := Aside0.mk (Kd.R_lower (Kd.R_new' ho0 (Kd.R_lt (by (with_reducible repeat (first | apply Kd.R_alloc | apply Kd.R_drewN | apply Kd.R_drew)); exact HO115.out))) (below_size (by repeat (first | (with_reducible first | exact HB.out | apply below_alloc | apply pw_below_drewN | apply below_drew1) | exact HB.out)))); have n2_ := Aside0.mk (below_step (by repeat (first | (with_reducible first | exact HB.out | apply below_alloc | apply pw_below_drewN | apply below_drew1) | exact HB.out)) hb); clear HO115; clear HB; have HO115 := n0_; have HO118 := n1_; have HB := n2_; clear n0_ n1_ n2_; (try clear hb); (try clear hb2); (try clear hk); (try clear hi); (try clear ho0); obtain ⟨Ao8, co8, eo8⟩ := Kd.R_slice HO118.out; subst eo8) | ((with_reducible refine gate_callee (f := 71) rfl ?_); refine goesL_ (some 8) rfl rfl Tryz.func71 (by kernel_rfl) rfl #[.slice Ao8 t116.length co8, .string (⟨#[32, 32, 10, 32, 10]⟩ : ByteArray), .string (⟨#[10, 10]⟩ : ByteArray)] rfl (by (try simp only [List.map_toArray, List.map_cons, List.map_nil]); first | done | rfl | (simp only [List.length_drop, List.length_take]; rfl)) ?_; (with_reducible refine (textutils_zzReplaceAll.calls k _ _ t116 (⟨#[32, 32, 10, 32, 10]⟩ : ByteArray) (⟨#[10, 10]⟩ : ByteArray) t119 _ ?side1 ?side2 A4.out).mono ?_); (case side1 => repeat (first | exact (Kd.R_reads' HO118.out).2.2 | (with_reducible refine Kd.C_alloc ?_ _) | (with_reducible refine Kd.C_drewN ?_ _) | (with_reducible refine Kd.C_drew ?_))); (case side2 => exact (Kd.R_reads' HO118.out).2.1); rintro e w9 ⟨v120, rfl, ho0, hb⟩; refine ⟨_, rfl, ?_⟩; have n0_ := Aside0.mk (Kd.R_elder' (by (with_reducible repeat (first | apply Kd.R_alloc | apply Kd.R_drewN | apply Kd.R_drew)); exact HO115.out) (Kd.R_base ho0) hb); have n1_ := Aside0.mk (Kd.R_elder' (by (with_reducible repeat (first | apply Kd.R_alloc | apply Kd.R_drewN | apply Kd.R_drew)); exact HO118.out) (Kd.R_base ho0) hb); have n2_ := Aside0.mk (Kd.R_lower (Kd.R_new' (Kd.R_new' ho0 (Kd.R_lt (by (with_reducible repeat (first | apply Kd.R_alloc | apply Kd.R_drewN | apply Kd.R_drew)); exact HO115.out))) (Kd.R_lt (by (with_reducible repeat (first | apply Kd.R_alloc | apply Kd.R_drewN | apply Kd.R_drew)); exact HO118.out))) (below_size (by repeat (first | (with_reducible first | exact HB.out | apply below_alloc | apply pw_below_drewN | apply below_drew1) | exact HB.out)))); have n3_ := Aside0.mk (below_step (by repeat (first | (with_reducible first | exact HB.out | apply below_alloc | apply pw_below_drewN | apply below_drew1) | exact HB.out)) hb); clear HO115; clear HO118; clear HB; have HO115 := n0_; have HO118 := n1_; have HO121 := n2_; have HB := n3_; clear n0_ n1_ n2_ n3_; (try clear hb); (try clear hb2); (try clear hk); (try clear hi); (try clear ho0)))
  go_ret
  exact ⟨_, by first | rfl | (simp [errW_none, errW_some] <;> rfl) | (simp [*, errW_none, errW_some] <;> rfl), by (with_reducible repeat (first | apply Kd.R_alloc | apply Kd.R_drewN | apply Kd.R_drew)); exact Kd.R_mono HO121.out (fun _ hk => trivial), by repeat (first | (with_reducible first | exact HB.out | apply below_alloc | apply pw_below_drewN | apply below_drew1) | exact HB.out)⟩

end Go.Proofs.YtonagpnnfhilgaaGreat.PTrimUnnecessaryHardLineBreaks
