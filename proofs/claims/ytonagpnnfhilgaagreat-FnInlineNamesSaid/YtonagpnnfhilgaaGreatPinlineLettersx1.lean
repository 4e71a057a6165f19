-- PRINTED BY print.sh 35421559b90ae4d0a3588c463048766b98c2df88dd9212a6774a882060cdf62d: not written by this session
import Derived.Test.YtonagpnnfhilgaaGreatPinlineLettersx0
namespace Go.Proofs.YtonagpnnfhilgaaGreat.PinlineLetters
open Go.RowKit Go.Proofs.YtonagpnnfhilgaaGreatW.PrintWords Go.Proofs.YtonagpnnfhilgaaGreatW.PrintLast Go.Proofs.YtonagpnnfhilgaaGreatW.PrintMore
attribute [local go_sem] max2_int min2_int max_two min_two max_three min_three max_four min_four   -- for this text's walks alone
set_option linter.unusedVariables false
set_option linter.unusedSimpArgs false

/-! ### laws_inlineLetters: function 10 -/
def laws_inlineLetters.l0 : Nat → ByteArray → List Int → Int → Int → Option (ByteArray)
  | 0, _, _, _, _ => none
  | k + 1, x0, x3, x9, x10 => if x10 < x9 then (if 0 ≤ x10 then (if x10 < (x0.size : Int) then (if (bt x0 x10) ≥ 97 then (if (bt x0 x10) ≤ 122 then (if x3.length < 140737488355328 then (laws_inlineLetters.l0 k x0 (x3 ++ [bt x0 x10]) x9 (wrap64 (x10 + 1))) else (none)) else (if (bt x0 x10) ≥ 65 then (if (bt x0 x10) ≤ 90 then (if x3.length < 140737488355328 then (laws_inlineLetters.l0 k x0 (x3 ++ [bt x0 x10]) x9 (wrap64 (x10 + 1))) else (none)) else (if (bt x0 x10) ≥ 48 then (if (bt x0 x10) ≤ 57 then (if x3.length < 140737488355328 then (laws_inlineLetters.l0 k x0 (x3 ++ [bt x0 x10]) x9 (wrap64 (x10 + 1))) else (none)) else (laws_inlineLetters.l0 k x0 x3 x9 (wrap64 (x10 + 1)))) else (laws_inlineLetters.l0 k x0 x3 x9 (wrap64 (x10 + 1))))) else (if (bt x0 x10) ≥ 48 then (if (bt x0 x10) ≤ 57 then (if x3.length < 140737488355328 then (laws_inlineLetters.l0 k x0 (x3 ++ [bt x0 x10]) x9 (wrap64 (x10 + 1))) else (none)) else (laws_inlineLetters.l0 k x0 x3 x9 (wrap64 (x10 + 1)))) else (laws_inlineLetters.l0 k x0 x3 x9 (wrap64 (x10 + 1)))))) else (if (bt x0 x10) ≥ 65 then (if (bt x0 x10) ≤ 90 then (if x3.length < 140737488355328 then (laws_inlineLetters.l0 k x0 (x3 ++ [bt x0 x10]) x9 (wrap64 (x10 + 1))) else (none)) else (if (bt x0 x10) ≥ 48 then (if (bt x0 x10) ≤ 57 then (if x3.length < 140737488355328 then (laws_inlineLetters.l0 k x0 (x3 ++ [bt x0 x10]) x9 (wrap64 (x10 + 1))) else (none)) else (laws_inlineLetters.l0 k x0 x3 x9 (wrap64 (x10 + 1)))) else (laws_inlineLetters.l0 k x0 x3 x9 (wrap64 (x10 + 1))))) else (if (bt x0 x10) ≥ 48 then (if (bt x0 x10) ≤ 57 then (if x3.length < 140737488355328 then (laws_inlineLetters.l0 k x0 (x3 ++ [bt x0 x10]) x9 (wrap64 (x10 + 1))) else (none)) else (laws_inlineLetters.l0 k x0 x3 x9 (wrap64 (x10 + 1)))) else (laws_inlineLetters.l0 k x0 x3 x9 (wrap64 (x10 + 1)))))) else (none)) else (none)) else (some (strOfNums x3))
def laws_inlineLetters.f (k : Nat) (a0 : ByteArray) : Option (ByteArray) := laws_inlineLetters.l0 k a0 (([] : List Int)) (mn (a0.size : Int) 40) 0
theorem laws_inlineLetters.mono_l : ∀ k, (∀ y0 y1 y2 y3, LeO (laws_inlineLetters.l0 k y0 y1 y2 y3) (laws_inlineLetters.l0 (k + 1) y0 y1 y2 y3))
  | 0 => fun _ _ _ _ r h => by simp [laws_inlineLetters.l0] at h
  | k + 1 => by
    have ih0 := laws_inlineLetters.mono_l k
    · intro y0 y1 y2 y3
      unfold laws_inlineLetters.l0
      repeat' first
      | (with_reducible exact ih0 _ _ _ _)
      | (with_reducible exact LeO.refl _)
      | (with_reducible exact LeO.none _)
      | (with_reducible refine LeO.ite ?_ ?_)
      | (with_reducible refine LeO.bind ?_ (fun _ => ?_))
      | exact ih0 _ _ _ _
      | exact LeO.none _
      | refine LeO.ite ?_ ?_
      | refine LeO.bind ?_ (fun _ => ?_)
theorem laws_inlineLetters.mono : ∀ a0 k, LeO (laws_inlineLetters.f k a0) (laws_inlineLetters.f (k + 1) a0) := by
  intro a0 k
  have ih0 := laws_inlineLetters.mono_l k
  unfold laws_inlineLetters.f
  repeat' first
      | (with_reducible exact ih0 _ _ _ _)
      | (with_reducible exact LeO.refl _)
      | (with_reducible exact LeO.none _)
      | (with_reducible refine LeO.ite ?_ ?_)
      | (with_reducible refine LeO.bind ?_ (fun _ => ?_))
      | exact ih0 _ _ _ _
      | exact LeO.none _
      | refine LeO.ite ?_ ?_
      | refine LeO.bind ?_ (fun _ => ?_)
set_option maxHeartbeats 8000000 in
set_option maxRecDepth 100000 in
theorem laws_inlineLetters.calls (k : Nat) (a0 : ByteArray) (r : ByteArray) (w : World) (h : laws_inlineLetters.f k a0 = some r) :
    Calls Tryz.prog 10 #[.string a0] w fun e w' => e = .returned (.string r) ∧ Below w.heap.size w w' := by
  have HB := Aside0.mk (Below.refl w.heap.size w)
  have H : (laws_inlineLetters.l0 k a0 (([] : List Int)) (mn (a0.size : Int) 40) 0) = some r := h
  clear h
  obtain ⟨y101, hy101⟩ : ∃ y_ : List Int, y_ = (([] : List Int)) := ⟨_, rfl⟩
  replace H : (laws_inlineLetters.l0 k a0 y101 (mn (a0.size : Int) 40) 0) = some r := by first | (rw [hy101]; with_reducible exact H) | (have H2_ := (Option.bind_some _ _).symm.trans H; rw [hy101]; with_reducible exact H2_) | (have H2_ := (Option.bind_some _ _).symm.trans H; with_reducible exact H2_) | with_reducible exact H | (rw [hy101]; exact H) | exact H
  have Ny101 := Aside0.mk hy101
  clear hy101
  obtain ⟨ji2, hji2⟩ : ∃ j_ : Int, (mn (a0.size : Int) 40) = j_ := ⟨_, rfl⟩
  replace H : (laws_inlineLetters.l0 k a0 y101 ji2 0) = some r := by first | (rw [hji2] at H; exact H) | (simp only [hji2] at H ⊢; exact H)
  (try (have hji2h : ji2 ≤ 40 := by (rw [← hji2]; unfold mn; (repeat' split) <;> omega)))
  (try (have hji2g : ji2 ≤ 64 := by omega))
  (try (have hji2l : 0 ≤ ji2 := by (rw [← hji2]; unfold mn; (repeat' split) <;> omega)))
  (try (have hji2m : 0 ≤ ji2 := by omega))
  have hji2_ : (if 40 < (a0.size : Int) then 40 else (a0.size : Int)) = ji2 := hji2
  have H' := Aside0.mk H
  clear H
  go_enter Tryz.func10, Tryz.ntmps10
  go_wp2_with (first | ((with_reducible refine gate_dst (N := 6) rfl ?_); refine Kd.R_lit (Kd.int .u8) _ 5 ?hg (N := 6) ?hd (xs := ([] : List Int)) (inner := []) (ok := fun _ => True) (okp := fun _ => True) ?hr ?hp (fun _ hk => hk) trivial (Below.refl _ _) (Nat.le_refl _) (by simp) ?_; (case hd => rfl); (case hg => rfl); (case hr => first | (go_simp; done) | (go_simp; rfl)); (case hp => exact (Reps.none _ _)); intro v102 w3 ho4 hb hg_ hnew_; clear hg_ hnew_; (first | rw [← Ny101.out] at ho4 | (simp only [Int.reduceToNat] at ho4; rw [← Ny101.out] at ho4)); have n0_ := Aside0.mk (Kd.R_lower ho4 (below_size (by repeat (first | (with_reducible first | exact HB.out | apply below_alloc | apply pw_below_drewN | apply below_drew1) | exact HB.out)))); have n1_ := Aside0.mk (below_step (by repeat (first | (with_reducible first | exact HB.out | apply below_alloc | apply pw_below_drewN | apply below_drew1) | exact HB.out)) hb); clear HB; have HO103 := n0_; have HB := n1_; clear n0_ n1_; clear hb ho4))
  go_loopg [3, 10] k (fun kq v3 v10 w' => ∃ (x3_1 : List Int) (x10_1 : Int), v10 = .int .i64 x10_1 ∧ Aside0 (laws_inlineLetters.l0 kq a0 x3_1 ji2 x10_1 = some r) ∧ Aside0 (kq ≤ k) ∧ Aside0 (Kd.R (Kd.int .u8) 5 w' w.heap.size (fun _ => True) v3 x3_1) ∧ Aside0 (Below w.heap.size w w'))
  case atStart => exact ⟨(y101), (0), (by first | rfl | (simp; done) | (simp [*]; done)), H', ⟨Nat.le_refl _⟩, ⟨by (with_reducible repeat (first | apply Kd.R_alloc | apply Kd.R_drewN | apply Kd.R_drew)); exact HO103.out⟩, ⟨by repeat (first | (with_reducible first | exact HB.out | apply below_alloc | apply pw_below_drewN | apply below_drew1) | exact HB.out)⟩⟩
  case round =>
    clear H'
    try clear c1
    try clear p2
    obtain ⟨x3_1, x10_1, rfl, HA, HK1, HO_3, HB⟩ := hrel
    cases gk with
    | zero => exact absurd HA.out (by simp [laws_inlineLetters.l0])
    | succ k1 =>
      have H := HA.out
      clear HA
      simp only [laws_inlineLetters.l0] at H
      by_cases c5 : x10_1 < ji2
      · rw [if_pos c5] at H
        have c5b0 : decide (x10_1 < ji2) = true := decide_eq_true c5
        clear c5
        by_cases c6 : 0 ≤ x10_1
        · rw [if_pos c6] at H
          have c6b0 : decide (0 ≤ x10_1) = true := decide_eq_true c6
          clear c6
          by_cases c7 : x10_1 < (a0.size : Int)
          · rw [if_pos c7] at H
            have c7b0 : decide (x10_1 < (a0.size : Int)) = true := decide_eq_true c7
            clear c7
            by_cases c9 : (bt a0 x10_1) ≥ 97
            · rw [if_pos c9] at H
              have c9b0 : decide (97 ≤ (bt a0 x10_1)) = true := decide_eq_true c9
              clear c9
              by_cases c10 : (bt a0 x10_1) ≤ 122
              · rw [if_pos c10] at H
                have c10b0 : decide ((bt a0 x10_1) ≤ 122) = true := decide_eq_true c10
                clear c10
                by_cases c11 : x3_1.length < 140737488355328
                · rw [if_pos c11] at H
                  have LMc11 := Aside0.mk c11
                  clear c11
                  obtain ⟨y104, hy104⟩ : ∃ y_ : List Int, y_ = (x3_1 ++ [bt a0 x10_1]) := ⟨_, rfl⟩
                  replace H : (laws_inlineLetters.l0 k1 a0 y104 ji2 (wrap64 (x10_1 + 1))) = some r := by first | (rw [hy104]; with_reducible exact H) | (have H2_ := (Option.bind_some _ _).symm.trans H; rw [hy104]; with_reducible exact H2_) | (have H2_ := (Option.bind_some _ _).symm.trans H; with_reducible exact H2_) | with_reducible exact H | (rw [hy104]; exact H) | exact H
                  have Ny104 := Aside0.mk hy104
                  clear hy104
                  have H' := Aside0.mk H
                  clear H
                  have p8 : 0 ≤ (x10_1 : Int) := of_decide_eq_true (by first | (with_reducible assumption) | assumption)
                  have q8 : x10_1 < (a0.size : Int) := of_decide_eq_true (by first | (with_reducible assumption) | assumption)
                  have hx8 := bt_at a0 x10_1
                  replace p8 := eq_true p8
                  replace q8 := eq_true q8
                  go_wp2_with (first | ((with_reducible refine gate_builtin (b := .append) (xs := #[.tmp 38, .tmp 40]) rfl ?_); at_builtin; refine Kd.R_append (Kd.int .u8) (w0 := w) w.heap.size rfl (.tmp 38) (.tmp 40) 47 5 (.int .u8 0) 1 rfl Tryz.underlying47 info5 rfl (by decide) (by omega) u3 x3_1 (bt a0 x10_1) [.int .u8 (bt a0 x10_1)] (fun _ => True) (fun _ => False) rfl rfl ?aP (fun _ hk => hk.elim) ?aF ?aO ?aB ?aS ?aL ?_; (case aP => exact rfl); (case aB => exact (by repeat (first | (with_reducible first | exact HB.out | apply below_alloc | apply pw_below_drewN | apply below_drew1) | exact HB.out))); (case aF => exact (fun _ _ => trivial)); (case aO => exact (by (with_reducible repeat (first | apply Kd.R_alloc | apply Kd.R_drewN | apply Kd.R_drew)); exact HO_3.out)); (case aS => exact (below_size (by repeat (first | (with_reducible first | exact HB.out | apply below_alloc | apply pw_below_drewN | apply below_drew1) | exact HB.out)))); (case aL => have := LMc11.out; omega); intro v105 w12 ho hb hg hat; rw [← Ny104.out] at ho; have n0_ := Aside0.mk (hb); have n1_ := Aside0.mk (ho); clear HB; clear HO_3; have HB := n0_; have HO106 := n1_; clear n0_ n1_; clear ho hb hg hat))
                  go_roundg k1
                  case measure => have := HK1.out; omega
                  case rel => exact ⟨(y104), (wrap64 (x10_1 + 1)), (by first | rfl | (simp; done) | (simp [*]; done)), H', ⟨by have := HK1.out; omega⟩, ⟨by (with_reducible repeat (first | apply Kd.R_alloc | apply Kd.R_drewN | apply Kd.R_drew)); exact HO106.out⟩, ⟨by repeat (first | (with_reducible first | exact HB.out | apply below_alloc | apply pw_below_drewN | apply below_drew1) | exact HB.out)⟩⟩
                · rw [if_neg c11] at H
                  exact absurd H (by simp)
              · rw [if_neg c10] at H
                have c10b0 : decide ((bt a0 x10_1) ≤ 122) = false := decide_eq_false c10
                clear c10
                by_cases c13 : (bt a0 x10_1) ≥ 65
                · rw [if_pos c13] at H
                  have c13b0 : decide (65 ≤ (bt a0 x10_1)) = true := decide_eq_true c13
                  clear c13
                  by_cases c14 : (bt a0 x10_1) ≤ 90
                  · rw [if_pos c14] at H
                    have c14b0 : decide ((bt a0 x10_1) ≤ 90) = true := decide_eq_true c14
                    clear c14
                    by_cases c15 : x3_1.length < 140737488355328
                    · rw [if_pos c15] at H
                      have LMc15 := Aside0.mk c15
                      clear c15
                      obtain ⟨y107, hy107⟩ : ∃ y_ : List Int, y_ = (x3_1 ++ [bt a0 x10_1]) := ⟨_, rfl⟩
                      replace H : (laws_inlineLetters.l0 k1 a0 y107 ji2 (wrap64 (x10_1 + 1))) = some r := by first | (rw [hy107]; with_reducible exact H) | (have H2_ := (Option.bind_some _ _).symm.trans H; rw [hy107]; with_reducible exact H2_) | (have H2_ := (Option.bind_some _ _).symm.trans H; with_reducible exact H2_) | with_reducible exact H | (rw [hy107]; exact H) | exact H
                      have Ny107 := Aside0.mk hy107
                      clear hy107
                      have H' := Aside0.mk H
                      clear H
                      have p8 : 0 ≤ (x10_1 : Int) := of_decide_eq_true (by first | (with_reducible assumption) | assumption)
                      have q8 : x10_1 < (a0.size : Int) := of_decide_eq_true (by first | (with_reducible assumption) | assumption)
                      have hx8 := bt_at a0 x10_1
                      replace p8 := eq_true p8
                      replace q8 := eq_true q8
                      go_wp2_with (first | ((with_reducible refine gate_builtin (b := .append) (xs := #[.tmp 38, .tmp 40]) rfl ?_); at_builtin; refine Kd.R_append (Kd.int .u8) (w0 := w) w.heap.size rfl (.tmp 38) (.tmp 40) 47 5 (.int .u8 0) 1 rfl Tryz.underlying47 info5 rfl (by decide) (by omega) u3 x3_1 (bt a0 x10_1) [.int .u8 (bt a0 x10_1)] (fun _ => True) (fun _ => False) rfl rfl ?aP (fun _ hk => hk.elim) ?aF ?aO ?aB ?aS ?aL ?_; (case aP => exact rfl); (case aB => exact (by repeat (first | (with_reducible first | exact HB.out | apply below_alloc | apply pw_below_drewN | apply below_drew1) | exact HB.out))); (case aF => exact (fun _ _ => trivial)); (case aO => exact (by (with_reducible repeat (first | apply Kd.R_alloc | apply Kd.R_drewN | apply Kd.R_drew)); exact HO_3.out)); (case aS => exact (below_size (by repeat (first | (with_reducible first | exact HB.out | apply below_alloc | apply pw_below_drewN | apply below_drew1) | exact HB.out)))); (case aL => have := LMc15.out; omega); intro v108 w16 ho hb hg hat; rw [← Ny107.out] at ho; have n0_ := Aside0.mk (hb); have n1_ := Aside0.mk (ho); clear HB; clear HO_3; have HB := n0_; have HO109 := n1_; clear n0_ n1_; clear ho hb hg hat))
                      go_roundg k1
                      case measure => have := HK1.out; omega
                      case rel => exact ⟨(y107), (wrap64 (x10_1 + 1)), (by first | rfl | (simp; done) | (simp [*]; done)), H', ⟨by have := HK1.out; omega⟩, ⟨by (with_reducible repeat (first | apply Kd.R_alloc | apply Kd.R_drewN | apply Kd.R_drew)); exact HO109.out⟩, ⟨by repeat (first | (with_reducible first | exact HB.out | apply below_alloc | apply pw_below_drewN | apply below_drew1) | exact HB.out)⟩⟩
                    · rw [if_neg c15] at H
                      exact absurd H (by simp)
                  · rw [if_neg c14] at H
                    have c14b0 : decide ((bt a0 x10_1) ≤ 90) = false := decide_eq_false c14
                    clear c14
                    by_cases c17 : (bt a0 x10_1) ≥ 48
                    · rw [if_pos c17] at H
                      have c17b0 : decide (48 ≤ (bt a0 x10_1)) = true := decide_eq_true c17
                      clear c17
                      by_cases c18 : (bt a0 x10_1) ≤ 57
                      · rw [if_pos c18] at H
                        have c18b0 : decide ((bt a0 x10_1) ≤ 57) = true := decide_eq_true c18
                        clear c18
                        by_cases c19 : x3_1.length < 140737488355328
                        · rw [if_pos c19] at H
                          have LMc19 := Aside0.mk c19
                          clear c19
                          obtain ⟨y110, hy110⟩ : ∃ y_ : List Int, y_ = (x3_1 ++ [bt a0 x10_1]) := ⟨_, rfl⟩
                          replace H : (laws_inlineLetters.l0 k1 a0 y110 ji2 (wrap64 (x10_1 + 1))) = some r := by first | (rw [hy110]; with_reducible exact H) | (have H2_ := (Option.bind_some _ _).symm.trans H; rw [hy110]; with_reducible exact H2_) | (have H2_ := (Option.bind_some _ _).symm.trans H; with_reducible exact H2_) | with_reducible exact H | (rw [hy110]; exact H) | exact H
                          have Ny110 := Aside0.mk hy110
                          clear hy110
                          have H' := Aside0.mk H
                          clear H
                          have p8 : 0 ≤ (x10_1 : Int) := of_decide_eq_true (by first | (with_reducible assumption) | assumption)
                          have q8 : x10_1 < (a0.size : Int) := of_decide_eq_true (by first | (with_reducible assumption) | assumption)
                          have hx8 := bt_at a0 x10_1
                          replace p8 := eq_true p8
                          replace q8 := eq_true q8
                          go_wp2_with (first | ((with_reducible refine gate_builtin (b := .append) (xs := #[.tmp 38, .tmp 40]) rfl ?_); at_builtin; refine Kd.R_append (Kd.int .u8) (w0 := w) w.heap.size rfl (.tmp 38) (.tmp 40) 47 5 (.int .u8 0) 1 rfl Tryz.underlying47 info5 rfl (by decide) (by omega) u3 x3_1 (bt a0 x10_1) [.int .u8 (bt a0 x10_1)] (fun _ => True) (fun _ => False) rfl rfl ?aP (fun _ hk => hk.elim) ?aF ?aO ?aB ?aS ?aL ?_; (case aP => exact rfl); (case aB => exact (by repeat (first | (with_reducible first | exact HB.out | apply below_alloc | apply pw_below_drewN | apply below_drew1) | exact HB.out))); (case aF => exact (fun _ _ => trivial)); (case aO => exact (by (with_reducible repeat (first | apply Kd.R_alloc | apply Kd.R_drewN | apply Kd.R_drew)); exact HO_3.out)); (case aS => exact (below_size (by repeat (first | (with_reducible first | exact HB.out | apply below_alloc | apply pw_below_drewN | apply below_drew1) | exact HB.out)))); (case aL => have := LMc19.out; omega); intro v111 w20 ho hb hg hat; rw [← Ny110.out] at ho; have n0_ := Aside0.mk (hb); have n1_ := Aside0.mk (ho); clear HB; clear HO_3; have HB := n0_; have HO112 := n1_; clear n0_ n1_; clear ho hb hg hat))
                          go_roundg k1
                          case measure => have := HK1.out; omega
                          case rel => exact ⟨(y110), (wrap64 (x10_1 + 1)), (by first | rfl | (simp; done) | (simp [*]; done)), H', ⟨by have := HK1.out; omega⟩, ⟨by (with_reducible repeat (first | apply Kd.R_alloc | apply Kd.R_drewN | apply Kd.R_drew)); exact HO112.out⟩, ⟨by repeat (first | (with_reducible first | exact HB.out | apply below_alloc | apply pw_below_drewN | apply below_drew1) | exact HB.out)⟩⟩
                        · rw [if_neg c19] at H
                          exact absurd H (by simp)
                      · rw [if_neg c18] at H
                        have c18b0 : decide ((bt a0 x10_1) ≤ 57) = false := decide_eq_false c18
                        clear c18
                        have H' := Aside0.mk H
                        clear H
                        have p8 : 0 ≤ (x10_1 : Int) := of_decide_eq_true (by first | (with_reducible assumption) | assumption)
                        have q8 : x10_1 < (a0.size : Int) := of_decide_eq_true (by first | (with_reducible assumption) | assumption)
                        have hx8 := bt_at a0 x10_1
                        replace p8 := eq_true p8
                        replace q8 := eq_true q8
                        go_wp2
                        go_roundg k1
                        case measure => have := HK1.out; omega
                        case rel => exact ⟨(x3_1), (wrap64 (x10_1 + 1)), (by first | rfl | (simp; done) | (simp [*]; done)), H', ⟨by have := HK1.out; omega⟩, ⟨by (with_reducible repeat (first | apply Kd.R_alloc | apply Kd.R_drewN | apply Kd.R_drew)); exact HO_3.out⟩, ⟨by repeat (first | (with_reducible first | exact HB.out | apply below_alloc | apply pw_below_drewN | apply below_drew1) | exact HB.out)⟩⟩
                    · rw [if_neg c17] at H
                      have c17b0 : decide (48 ≤ (bt a0 x10_1)) = false := decide_eq_false c17
                      clear c17
                      have H' := Aside0.mk H
                      clear H
                      have p8 : 0 ≤ (x10_1 : Int) := of_decide_eq_true (by first | (with_reducible assumption) | assumption)
                      have q8 : x10_1 < (a0.size : Int) := of_decide_eq_true (by first | (with_reducible assumption) | assumption)
                      have hx8 := bt_at a0 x10_1
                      replace p8 := eq_true p8
                      replace q8 := eq_true q8
                      go_wp2
                      go_roundg k1
                      case measure => have := HK1.out; omega
                      case rel => exact ⟨(x3_1), (wrap64 (x10_1 + 1)), (by first | rfl | (simp; done) | (simp [*]; done)), H', ⟨by have := HK1.out; omega⟩, ⟨by (with_reducible repeat (first | apply Kd.R_alloc | apply Kd.R_drewN | apply Kd.R_drew)); exact HO_3.out⟩, ⟨by repeat (first | (with_reducible first | exact HB.out | apply below_alloc | apply pw_below_drewN | apply below_drew1) | exact HB.out)⟩⟩
                · rw [if_neg c13] at H
                  have c13b0 : decide (65 ≤ (bt a0 x10_1)) = false := decide_eq_false c13
                  clear c13
                  by_cases c21 : (bt a0 x10_1) ≥ 48
                  · rw [if_pos c21] at H
                    have c21b0 : decide (48 ≤ (bt a0 x10_1)) = true := decide_eq_true c21
                    clear c21
                    by_cases c22 : (bt a0 x10_1) ≤ 57
                    · rw [if_pos c22] at H
                      have c22b0 : decide ((bt a0 x10_1) ≤ 57) = true := decide_eq_true c22
                      clear c22
                      by_cases c23 : x3_1.length < 140737488355328
                      · rw [if_pos c23] at H
                        have LMc23 := Aside0.mk c23
                        clear c23
                        obtain ⟨y113, hy113⟩ : ∃ y_ : List Int, y_ = (x3_1 ++ [bt a0 x10_1]) := ⟨_, rfl⟩
                        replace H : (laws_inlineLetters.l0 k1 a0 y113 ji2 (wrap64 (x10_1 + 1))) = some r := by first | (rw [hy113]; with_reducible exact H) | (have H2_ := (Option.bind_some _ _).symm.trans H; rw [hy113]; with_reducible exact H2_) | (have H2_ := (Option.bind_some _ _).symm.trans H; with_reducible exact H2_) | with_reducible exact H | (rw [hy113]; exact H) | exact H
                        have Ny113 := Aside0.mk hy113
                        clear hy113
                        have H' := Aside0.mk H
                        clear H
                        have p8 : 0 ≤ (x10_1 : Int) := of_decide_eq_true (by first | (with_reducible assumption) | assumption)
                        have q8 : x10_1 < (a0.size : Int) := of_decide_eq_true (by first | (with_reducible assumption) | assumption)
                        have hx8 := bt_at a0 x10_1
                        replace p8 := eq_true p8
                        replace q8 := eq_true q8
                        go_wp2_with (first | ((with_reducible refine gate_builtin (b := .append) (xs := #[.tmp 38, .tmp 40]) rfl ?_); at_builtin; refine Kd.R_append (Kd.int .u8) (w0 := w) w.heap.size rfl (.tmp 38) (.tmp 40) 47 5 (.int .u8 0) 1 rfl Tryz.underlying47 info5 rfl (by decide) (by omega) u3 x3_1 (bt a0 x10_1) [.int .u8 (bt a0 x10_1)] (fun _ => True) (fun _ => False) rfl rfl ?aP (fun _ hk => hk.elim) ?aF ?aO ?aB ?aS ?aL ?_; (case aP => exact rfl); (case aB => exact (by repeat (first | (with_reducible first | exact HB.out | apply below_alloc | apply pw_below_drewN | apply below_drew1) | exact HB.out))); (case aF => exact (fun _ _ => trivial)); (case aO => exact (by (with_reducible repeat (first | apply Kd.R_alloc | apply Kd.R_drewN | apply Kd.R_drew)); exact HO_3.out)); (case aS => exact (below_size (by repeat (first | (with_reducible first | exact HB.out | apply below_alloc | apply pw_below_drewN | apply below_drew1) | exact HB.out)))); (case aL => have := LMc23.out; omega); intro v114 w24 ho hb hg hat; rw [← Ny113.out] at ho; have n0_ := Aside0.mk (hb); have n1_ := Aside0.mk (ho); clear HB; clear HO_3; have HB := n0_; have HO115 := n1_; clear n0_ n1_; clear ho hb hg hat))
                        go_roundg k1
                        case measure => have := HK1.out; omega
                        case rel => exact ⟨(y113), (wrap64 (x10_1 + 1)), (by first | rfl | (simp; done) | (simp [*]; done)), H', ⟨by have := HK1.out; omega⟩, ⟨by (with_reducible repeat (first | apply Kd.R_alloc | apply Kd.R_drewN | apply Kd.R_drew)); exact HO115.out⟩, ⟨by repeat (first | (with_reducible first | exact HB.out | apply below_alloc | apply pw_below_drewN | apply below_drew1) | exact HB.out)⟩⟩
                      · rw [if_neg c23] at H
                        exact absurd H (by simp)
                    · rw [if_neg c22] at H
                      have c22b0 : decide ((bt a0 x10_1) ≤ 57) = false := decide_eq_false c22
                      clear c22
                      have H' := Aside0.mk H
                      clear H
                      have p8 : 0 ≤ (x10_1 : Int) := of_decide_eq_true (by first | (with_reducible assumption) | assumption)
                      have q8 : x10_1 < (a0.size : Int) := of_decide_eq_true (by first | (with_reducible assumption) | assumption)
                      have hx8 := bt_at a0 x10_1
                      replace p8 := eq_true p8
                      replace q8 := eq_true q8
                      go_wp2
                      go_roundg k1
                      case measure => have := HK1.out; omega
                      case rel => exact ⟨(x3_1), (wrap64 (x10_1 + 1)), (by first | rfl | (simp; done) | (simp [*]; done)), H', ⟨by have := HK1.out; omega⟩, ⟨by (with_reducible repeat (first | apply Kd.R_alloc | apply Kd.R_drewN | apply Kd.R_drew)); exact HO_3.out⟩, ⟨by repeat (first | (with_reducible first | exact HB.out | apply below_alloc | apply pw_below_drewN | apply below_drew1) | exact HB.out)⟩⟩
                  · rw [if_neg c21] at H
                    have c21b0 : decide (48 ≤ (bt a0 x10_1)) = false := decide_eq_false c21
                    clear c21
                    have H' := Aside0.mk H
                    clear H
                    have p8 : 0 ≤ (x10_1 : Int) := of_decide_eq_true (by first | (with_reducible assumption) | assumption)
                    have q8 : x10_1 < (a0.size : Int) := of_decide_eq_true (by first | (with_reducible assumption) | assumption)
                    have hx8 := bt_at a0 x10_1
                    replace p8 := eq_true p8
                    replace q8 := eq_true q8
                    go_wp2
                    go_roundg k1
                    case measure => have := HK1.out; omega
                    case rel => exact ⟨(x3_1), (wrap64 (x10_1 + 1)), (by first | rfl | (simp; done) | (simp [*]; done)), H', ⟨by have := HK1.out; omega⟩, ⟨by (with_reducible repeat (first | apply Kd.R_alloc | apply Kd.R_drewN | apply Kd.R_drew)); exact HO_3.out⟩, ⟨by repeat (first | (with_reducible first | exact HB.out | apply below_alloc | apply pw_below_drewN | apply below_drew1) | exact HB.out)⟩⟩
            · rw [if_neg c9] at H
              have c9b0 : decide (97 ≤ (bt a0 x10_1)) = false := decide_eq_false c9
              clear c9
              by_cases c25 : (bt a0 x10_1) ≥ 65
              · rw [if_pos c25] at H
                have c25b0 : decide (65 ≤ (bt a0 x10_1)) = true := decide_eq_true c25
                clear c25
                by_cases c26 : (bt a0 x10_1) ≤ 90
                · rw [if_pos c26] at H
                  have c26b0 : decide ((bt a0 x10_1) ≤ 90) = true := decide_eq_true c26
                  clear c26
                  by_cases c27 : x3_1.length < 140737488355328
                  · rw [if_pos c27] at H
                    have LMc27 := Aside0.mk c27
                    clear c27
                    obtain ⟨y116, hy116⟩ : ∃ y_ : List Int, y_ = (x3_1 ++ [bt a0 x10_1]) := ⟨_, rfl⟩
                    replace H : (laws_inlineLetters.l0 k1 a0 y116 ji2 (wrap64 (x10_1 + 1))) = some r := by first | (rw [hy116]; with_reducible exact H) | (have H2_ := (Option.bind_some _ _).symm.trans H; rw [hy116]; with_reducible exact H2_) | (have H2_ := (Option.bind_some _ _).symm.trans H; with_reducible exact H2_) | with_reducible exact H | (rw [hy116]; exact H) | exact H
                    have Ny116 := Aside0.mk hy116
                    clear hy116
                    have H' := Aside0.mk H
                    clear H
                    have p8 : 0 ≤ (x10_1 : Int) := of_decide_eq_true (by first | (with_reducible assumption) | assumption)
                    have q8 : x10_1 < (a0.size : Int) := of_decide_eq_true (by first | (with_reducible assumption) | assumption)
                    have hx8 := bt_at a0 x10_1
                    replace p8 := eq_true p8
                    replace q8 := eq_true q8
                    go_wp2_with (first | ((with_reducible refine gate_builtin (b := .append) (xs := #[.tmp 38, .tmp 40]) rfl ?_); at_builtin; refine Kd.R_append (Kd.int .u8) (w0 := w) w.heap.size rfl (.tmp 38) (.tmp 40) 47 5 (.int .u8 0) 1 rfl Tryz.underlying47 info5 rfl (by decide) (by omega) u3 x3_1 (bt a0 x10_1) [.int .u8 (bt a0 x10_1)] (fun _ => True) (fun _ => False) rfl rfl ?aP (fun _ hk => hk.elim) ?aF ?aO ?aB ?aS ?aL ?_; (case aP => exact rfl); (case aB => exact (by repeat (first | (with_reducible first | exact HB.out | apply below_alloc | apply pw_below_drewN | apply below_drew1) | exact HB.out))); (case aF => exact (fun _ _ => trivial)); (case aO => exact (by (with_reducible repeat (first | apply Kd.R_alloc | apply Kd.R_drewN | apply Kd.R_drew)); exact HO_3.out)); (case aS => exact (below_size (by repeat (first | (with_reducible first | exact HB.out | apply below_alloc | apply pw_below_drewN | apply below_drew1) | exact HB.out)))); (case aL => have := LMc27.out; omega); intro v117 w28 ho hb hg hat; rw [← Ny116.out] at ho; have n0_ := Aside0.mk (hb); have n1_ := Aside0.mk (ho); clear HB; clear HO_3; have HB := n0_; have HO118 := n1_; clear n0_ n1_; clear ho hb hg hat))
                    go_roundg k1
                    case measure => have := HK1.out; omega
                    case rel => exact ⟨(y116), (wrap64 (x10_1 + 1)), (by first | rfl | (simp; done) | (simp [*]; done)), H', ⟨by have := HK1.out; omega⟩, ⟨by (with_reducible repeat (first | apply Kd.R_alloc | apply Kd.R_drewN | apply Kd.R_drew)); exact HO118.out⟩, ⟨by repeat (first | (with_reducible first | exact HB.out | apply below_alloc | apply pw_below_drewN | apply below_drew1) | exact HB.out)⟩⟩
                  · rw [if_neg c27] at H
                    exact absurd H (by simp)
                · rw [if_neg c26] at H
                  have c26b0 : decide ((bt a0 x10_1) ≤ 90) = false := decide_eq_false c26
                  clear c26
                  by_cases c29 : (bt a0 x10_1) ≥ 48
                  · rw [if_pos c29] at H
                    have c29b0 : decide (48 ≤ (bt a0 x10_1)) = true := decide_eq_true c29
                    clear c29
                    by_cases c30 : (bt a0 x10_1) ≤ 57
                    · rw [if_pos c30] at H
                      have c30b0 : decide ((bt a0 x10_1) ≤ 57) = true := decide_eq_true c30
                      clear c30
                      by_cases c31 : x3_1.length < 140737488355328
                      · rw [if_pos c31] at H
                        have LMc31 := Aside0.mk c31
                        clear c31
                        obtain ⟨y119, hy119⟩ : ∃ y_ : List Int, y_ = (x3_1 ++ [bt a0 x10_1]) := ⟨_, rfl⟩
                        replace H : (laws_inlineLetters.l0 k1 a0 y119 ji2 (wrap64 (x10_1 + 1))) = some r := by first | (rw [hy119]; with_reducible exact H) | (have H2_ := (Option.bind_some _ _).symm.trans H; rw [hy119]; with_reducible exact H2_) | (have H2_ := (Option.bind_some _ _).symm.trans H; with_reducible exact H2_) | with_reducible exact H | (rw [hy119]; exact H) | exact H
                        have Ny119 := Aside0.mk hy119
                        clear hy119
                        have H' := Aside0.mk H
                        clear H
                        have p8 : 0 ≤ (x10_1 : Int) := of_decide_eq_true (by first | (with_reducible assumption) | assumption)
                        have q8 : x10_1 < (a0.size : Int) := of_decide_eq_true (by first | (with_reducible assumption) | assumption)
                        have hx8 := bt_at a0 x10_1
                        replace p8 := eq_true p8
                        replace q8 := eq_true q8
                        go_wp2_with (first | ((with_reducible refine gate_builtin (b := .append) (xs := #[.tmp 38, .tmp 40]) rfl ?_); at_builtin; refine Kd.R_append (Kd.int .u8) (w0 := w) w.heap.size rfl (.tmp 38) (.tmp 40) 47 5 (.int .u8 0) 1 rfl Tryz.underlying47 info5 rfl (by decide) (by omega) u3 x3_1 (bt a0 x10_1) [.int .u8 (bt a0 x10_1)] (fun _ => True) (fun _ => False) rfl rfl ?aP (fun _ hk => hk.elim) ?aF ?aO ?aB ?aS ?aL ?_; (case aP => exact rfl); (case aB => exact (by repeat (first | (with_reducible first | exact HB.out | apply below_alloc | apply pw_below_drewN | apply below_drew1) | exact HB.out))); (case aF => exact (fun _ _ => trivial)); (case aO => exact (by (with_reducible repeat (first | apply Kd.R_alloc | apply Kd.R_drewN | apply Kd.R_drew)); exact HO_3.out)); (case aS => exact (below_size (by repeat (first | (with_reducible first | exact HB.out | apply below_alloc | apply pw_below_drewN | apply below_drew1) | exact HB.out)))); (case aL => have := LMc31.out; omega); intro v120 w32 ho hb hg hat; rw [← Ny119.out] at ho; have n0_ := Aside0.mk (hb); have n1_ := Aside0.mk (ho); clear HB; clear HO_3; have HB := n0_; have HO121 := n1_; clear n0_ n1_; clear ho hb hg hat))
                        go_roundg k1
                        case measure => have := HK1.out; omega
                        case rel => exact ⟨(y119), (wrap64 (x10_1 + 1)), (by first | rfl | (simp; done) | (simp [*]; done)), H', ⟨by have := HK1.out; omega⟩, ⟨by (with_reducible repeat (first | apply Kd.R_alloc | apply Kd.R_drewN | apply Kd.R_drew)); exact HO121.out⟩, ⟨by repeat (first | (with_reducible first | exact HB.out | apply below_alloc | apply pw_below_drewN | apply below_drew1) | exact HB.out)⟩⟩
                      · rw [if_neg c31] at H
                        exact absurd H (by simp)
                    · rw [if_neg c30] at H
                      have c30b0 : decide ((bt a0 x10_1) ≤ 57) = false := decide_eq_false c30
                      clear c30
                      have H' := Aside0.mk H
                      clear H
                      have p8 : 0 ≤ (x10_1 : Int) := of_decide_eq_true (by first | (with_reducible assumption) | assumption)
                      have q8 : x10_1 < (a0.size : Int) := of_decide_eq_true (by first | (with_reducible assumption) | assumption)
                      have hx8 := bt_at a0 x10_1
                      replace p8 := eq_true p8
                      replace q8 := eq_true q8
                      go_wp2
                      go_roundg k1
                      case measure => have := HK1.out; omega
                      case rel => exact ⟨(x3_1), (wrap64 (x10_1 + 1)), (by first | rfl | (simp; done) | (simp [*]; done)), H', ⟨by have := HK1.out; omega⟩, ⟨by (with_reducible repeat (first | apply Kd.R_alloc | apply Kd.R_drewN | apply Kd.R_drew)); exact HO_3.out⟩, ⟨by repeat (first | (with_reducible first | exact HB.out | apply below_alloc | apply pw_below_drewN | apply below_drew1) | exact HB.out)⟩⟩
                  · rw [if_neg c29] at H
                    have c29b0 : decide (48 ≤ (bt a0 x10_1)) = false := decide_eq_false c29
                    clear c29
                    have H' := Aside0.mk H
                    clear H
                    have p8 : 0 ≤ (x10_1 : Int) := of_decide_eq_true (by first | (with_reducible assumption) | assumption)
                    have q8 : x10_1 < (a0.size : Int) := of_decide_eq_true (by first | (with_reducible assumption) | assumption)
                    have hx8 := bt_at a0 x10_1
                    replace p8 := eq_true p8
                    replace q8 := eq_true q8
                    go_wp2
                    go_roundg k1
                    case measure => have := HK1.out; omega
                    case rel => exact ⟨(x3_1), (wrap64 (x10_1 + 1)), (by first | rfl | (simp; done) | (simp [*]; done)), H', ⟨by have := HK1.out; omega⟩, ⟨by (with_reducible repeat (first | apply Kd.R_alloc | apply Kd.R_drewN | apply Kd.R_drew)); exact HO_3.out⟩, ⟨by repeat (first | (with_reducible first | exact HB.out | apply below_alloc | apply pw_below_drewN | apply below_drew1) | exact HB.out)⟩⟩
              · rw [if_neg c25] at H
                have c25b0 : decide (65 ≤ (bt a0 x10_1)) = false := decide_eq_false c25
                clear c25
                by_cases c33 : (bt a0 x10_1) ≥ 48
                · rw [if_pos c33] at H
                  have c33b0 : decide (48 ≤ (bt a0 x10_1)) = true := decide_eq_true c33
                  clear c33
                  by_cases c34 : (bt a0 x10_1) ≤ 57
                  · rw [if_pos c34] at H
                    have c34b0 : decide ((bt a0 x10_1) ≤ 57) = true := decide_eq_true c34
                    clear c34
                    by_cases c35 : x3_1.length < 140737488355328
                    · rw [if_pos c35] at H
                      have LMc35 := Aside0.mk c35
                      clear c35
                      obtain ⟨y122, hy122⟩ : ∃ y_ : List Int, y_ = (x3_1 ++ [bt a0 x10_1]) := ⟨_, rfl⟩
                      replace H : (laws_inlineLetters.l0 k1 a0 y122 ji2 (wrap64 (x10_1 + 1))) = some r := by first | (rw [hy122]; with_reducible exact H) | (have H2_ := (Option.bind_some _ _).symm.trans H; rw [hy122]; with_reducible exact H2_) | (have H2_ := (Option.bind_some _ _).symm.trans H; with_reducible exact H2_) | with_reducible exact H | (rw [hy122]; exact H) | exact H
                      have Ny122 := Aside0.mk hy122
                      clear hy122
                      have H' := Aside0.mk H
                      clear H
                      have p8 : 0 ≤ (x10_1 : Int) := of_decide_eq_true (by first | (with_reducible assumption) | assumption)
                      have q8 : x10_1 < (a0.size : Int) := of_decide_eq_true (by first | (with_reducible assumption) | assumption)
                      have hx8 := bt_at a0 x10_1
                      replace p8 := eq_true p8
                      replace q8 := eq_true q8
                      go_wp2_with (first | ((with_reducible refine gate_builtin (b := .append) (xs := #[.tmp 38, .tmp 40]) rfl ?_); at_builtin; refine Kd.R_append (Kd.int .u8) (w0 := w) w.heap.size rfl (.tmp 38) (.tmp 40) 47 5 (.int .u8 0) 1 rfl Tryz.underlying47 info5 rfl (by decide) (by omega) u3 x3_1 (bt a0 x10_1) [.int .u8 (bt a0 x10_1)] (fun _ => True) (fun _ => False) rfl rfl ?aP (fun _ hk => hk.elim) ?aF ?aO ?aB ?aS ?aL ?_; (case aP => exact rfl); (case aB => exact (by repeat (first | (with_reducible first | exact HB.out | apply below_alloc | apply pw_below_drewN | apply below_drew1) | exact HB.out))); (case aF => exact (fun _ _ => trivial)); (case aO => exact (by (with_reducible repeat (first | apply Kd.R_alloc | apply Kd.R_drewN | apply Kd.R_drew)); exact HO_3.out)); (case aS => exact (below_size (by repeat (first | (with_reducible first | exact HB.out | apply below_alloc | apply pw_below_drewN | apply below_drew1) | exact HB.out)))); (case aL => have := LMc35.out; omega); intro v123 w36 ho hb hg hat; rw [← Ny122.out] at ho; have n0_ := Aside0.mk (hb); have n1_ := Aside0.mk (ho); clear HB; clear HO_3; have HB := n0_; have HO124 := n1_; clear n0_ n1_; clear ho hb hg hat))
                      go_roundg k1
                      case measure => have := HK1.out; omega
                      case rel => exact ⟨(y122), (wrap64 (x10_1 + 1)), (by first | rfl | (simp; done) | (simp [*]; done)), H', ⟨by have := HK1.out; omega⟩, ⟨by (with_reducible repeat (first | apply Kd.R_alloc | apply Kd.R_drewN | apply Kd.R_drew)); exact HO124.out⟩, ⟨by repeat (first | (with_reducible first | exact HB.out | apply below_alloc | apply pw_below_drewN | apply below_drew1) | exact HB.out)⟩⟩
                    · rw [if_neg c35] at H
                      exact absurd H (by simp)
                  · rw [if_neg c34] at H
                    have c34b0 : decide ((bt a0 x10_1) ≤ 57) = false := decide_eq_false c34
                    clear c34
                    have H' := Aside0.mk H
                    clear H
                    have p8 : 0 ≤ (x10_1 : Int) := of_decide_eq_true (by first | (with_reducible assumption) | assumption)
                    have q8 : x10_1 < (a0.size : Int) := of_decide_eq_true (by first | (with_reducible assumption) | assumption)
                    have hx8 := bt_at a0 x10_1
                    replace p8 := eq_true p8
                    replace q8 := eq_true q8
                    go_wp2
                    go_roundg k1
                    case measure => have := HK1.out; omega
                    case rel => exact ⟨(x3_1), (wrap64 (x10_1 + 1)), (by first | rfl | (simp; done) | (simp [*]; done)), H', ⟨by have := HK1.out; omega⟩, ⟨by (with_reducible repeat (first | apply Kd.R_alloc | apply Kd.R_drewN | apply Kd.R_drew)); exact HO_3.out⟩, ⟨by repeat (first | (with_reducible first | exact HB.out | apply below_alloc | apply pw_below_drewN | apply below_drew1) | exact HB.out)⟩⟩
                · rw [if_neg c33] at H
                  have c33b0 : decide (48 ≤ (bt a0 x10_1)) = false := decide_eq_false c33
                  clear c33
                  have H' := Aside0.mk H
                  clear H
                  have p8 : 0 ≤ (x10_1 : Int) := of_decide_eq_true (by first | (with_reducible assumption) | assumption)
                  have q8 : x10_1 < (a0.size : Int) := of_decide_eq_true (by first | (with_reducible assumption) | assumption)
                  have hx8 := bt_at a0 x10_1
                  replace p8 := eq_true p8
                  replace q8 := eq_true q8
                  go_wp2
                  go_roundg k1
                  case measure => have := HK1.out; omega
                  case rel => exact ⟨(x3_1), (wrap64 (x10_1 + 1)), (by first | rfl | (simp; done) | (simp [*]; done)), H', ⟨by have := HK1.out; omega⟩, ⟨by (with_reducible repeat (first | apply Kd.R_alloc | apply Kd.R_drewN | apply Kd.R_drew)); exact HO_3.out⟩, ⟨by repeat (first | (with_reducible first | exact HB.out | apply below_alloc | apply pw_below_drewN | apply below_drew1) | exact HB.out)⟩⟩
          · rw [if_neg c7] at H
            exact absurd H (by simp)
        · rw [if_neg c6] at H
          exact absurd H (by simp)
      · rw [if_neg c5] at H
        have c5b0 : decide (x10_1 < ji2) = false := decide_eq_false c5
        clear c5
        obtain rfl := Option.some.inj H
        have hcv37 := own_string (P := Tryz.prog) Tryz.underlying47 Tryz.underlying5 Tryz.underlying9 (Kd.own_of_R HO_3.out)
        go_wp2
        go_ret
        exact ⟨by first | rfl | (simp [errW_none, errW_some] <;> rfl) | (simp only [← hji2]; first | rfl | (simp [errW_none, errW_some] <;> rfl)) | (simp [*, errW_none, errW_some] <;> rfl), by repeat (first | (with_reducible first | exact HB.out | apply below_alloc | apply pw_below_drewN | apply below_drew1) | exact HB.out)⟩

end Go.Proofs.YtonagpnnfhilgaaGreat.PinlineLetters
