-- PRINTED BY print.sh 35421559b90ae4d0a3588c463048766b98c2df88dd9212a6774a882060cdf62d: not written by this session
import Derived.Test.YtbkimfhlgpgoiaaGreatDoorPtestedx0
namespace Go.Proofs.YtbkimfhlgpgoiaaGreatDoor.Ptested
open Go.RowKit Go.Proofs.YtbkimfhlgpgoiaaGreatDoorW.PrintWords Go.Proofs.YtbkimfhlgpgoiaaGreatDoorW.PrintLast Go.Proofs.YtbkimfhlgpgoiaaGreatDoorW.PrintMore
attribute [local go_sem] max2_int min2_int max_two min_two max_three min_three max_four min_four   -- for this text's walks alone
set_option linter.unusedVariables false
set_option linter.unusedSimpArgs false

/-! ### escape_IsDivider: function 44 -/
mutual
def escape_IsDivider.j0 : Nat → List Int → Int → Bool → Option (Int)
  | 0, _, _, _ => none
  | k + 1, x0, x1, x27 => if x27 = true then (some (-1)) else (escape_IsDivider.l0 k x0 x1 (wrap64 (x1 - 1)))
def escape_IsDivider.j2 : Nat → List Int → Int → Option (Int)
  | 0, _, _ => none
  | k + 1, x0, x1 => escape_IsDivider.l1 k x0 x1 1 (x0.length : Int) (wrap64 (x1 + 1))
def escape_IsDivider.l1 : Nat → List Int → Int → Int → Int → Int → Option (Int)
  | 0, _, _, _, _, _ => none
  | k + 1, x0, x1, x6, x7, x8 => if x8 < (x0.length : Int) then (if 0 ≤ x8 then (if (rd x0 x8) = 7 then (escape_IsDivider.l1 k x0 x1 x6 x7 (wrap64 (x8 + 1))) else (if (rd x0 x8) = 32 then (escape_IsDivider.l1 k x0 x1 x6 x7 (wrap64 (x8 + 1))) else (if 0 ≤ x1 then (if x1 < (x0.length : Int) then (if (rd x0 x8) = (rd x0 x1) then (escape_IsDivider.l1 k x0 x1 (wrap64 (x6 + 1)) x7 (wrap64 (x8 + 1))) else (if (rd x0 x8) = 10 then (if x6 ≥ 3 then (some (wrap64 (x8 - x1))) else (some (-1))) else (some (-1)))) else (none)) else (none)))) else (none)) else (if x6 ≥ 3 then (some (wrap64 (x7 - x1))) else (some (-1)))
def escape_IsDivider.l0 : Nat → List Int → Int → Int → Option (Int)
  | 0, _, _, _ => none
  | k + 1, x0, x1, x5 => if x5 ≥ 0 then (if 0 ≤ x5 then (if x5 < (x0.length : Int) then (if (rd x0 x5) = 10 then (escape_IsDivider.j2 k x0 x1) else (if (rd x0 x5) = 7 then (escape_IsDivider.l0 k x0 x1 (wrap64 (x5 - 1))) else (if (rd x0 x5) = 32 then (escape_IsDivider.l0 k x0 x1 (wrap64 (x5 - 1))) else (some (-1))))) else (none)) else (none)) else (escape_IsDivider.j2 k x0 x1)
end
def escape_IsDivider.f (k : Nat) (l0 : List Int) (a1 : Int) : Option (Int) := if 0 ≤ a1 then (if a1 < (l0.length : Int) then (if (rd l0 a1) = 45 then (escape_IsDivider.j0 k l0 a1 false) else (if (rd l0 a1) = 95 then (escape_IsDivider.j0 k l0 a1 false) else (escape_IsDivider.j0 k l0 a1 ((rd l0 a1) != 42)))) else (none)) else (none)
theorem escape_IsDivider.mono_l : ∀ k, (∀ y0 y1 y2, LeO (escape_IsDivider.j0 k y0 y1 y2) (escape_IsDivider.j0 (k + 1) y0 y1 y2)) ∧ (∀ y0 y1, LeO (escape_IsDivider.j2 k y0 y1) (escape_IsDivider.j2 (k + 1) y0 y1)) ∧ (∀ y0 y1 y2 y3 y4, LeO (escape_IsDivider.l1 k y0 y1 y2 y3 y4) (escape_IsDivider.l1 (k + 1) y0 y1 y2 y3 y4)) ∧ (∀ y0 y1 y2, LeO (escape_IsDivider.l0 k y0 y1 y2) (escape_IsDivider.l0 (k + 1) y0 y1 y2))
  | 0 => ⟨fun _ _ _ r h => by simp [escape_IsDivider.j0] at h, fun _ _ r h => by simp [escape_IsDivider.j2] at h, fun _ _ _ _ _ r h => by simp [escape_IsDivider.l1] at h, fun _ _ _ r h => by simp [escape_IsDivider.l0] at h⟩
  | k + 1 => by
    obtain ⟨ih0, ih1, ih2, ih3⟩ := escape_IsDivider.mono_l k
    refine ⟨?_, ?_, ?_, ?_⟩
    · intro y0 y1 y2
      unfold escape_IsDivider.j0
      repeat' first
      | (with_reducible exact ih0 _ _ _)
      | (with_reducible exact ih1 _ _)
      | (with_reducible exact ih2 _ _ _ _ _)
      | (with_reducible exact ih3 _ _ _)
      | (with_reducible exact LeO.refl _)
      | (with_reducible exact LeO.none _)
      | (with_reducible refine LeO.ite ?_ ?_)
      | (with_reducible refine LeO.bind ?_ (fun _ => ?_))
      | exact ih0 _ _ _
      | exact ih1 _ _
      | exact ih2 _ _ _ _ _
      | exact ih3 _ _ _
      | exact LeO.none _
      | refine LeO.ite ?_ ?_
      | refine LeO.bind ?_ (fun _ => ?_)
    · intro y0 y1
      unfold escape_IsDivider.j2
      repeat' first
      | (with_reducible exact ih0 _ _ _)
      | (with_reducible exact ih1 _ _)
      | (with_reducible exact ih2 _ _ _ _ _)
      | (with_reducible exact ih3 _ _ _)
      | (with_reducible exact LeO.refl _)
      | (with_reducible exact LeO.none _)
      | (with_reducible refine LeO.ite ?_ ?_)
      | (with_reducible refine LeO.bind ?_ (fun _ => ?_))
      | exact ih0 _ _ _
      | exact ih1 _ _
      | exact ih2 _ _ _ _ _
      | exact ih3 _ _ _
      | exact LeO.none _
      | refine LeO.ite ?_ ?_
      | refine LeO.bind ?_ (fun _ => ?_)
    · intro y0 y1 y2 y3 y4
      unfold escape_IsDivider.l1
      repeat' first
      | (with_reducible exact ih0 _ _ _)
      | (with_reducible exact ih1 _ _)
      | (with_reducible exact ih2 _ _ _ _ _)
      | (with_reducible exact ih3 _ _ _)
      | (with_reducible exact LeO.refl _)
      | (with_reducible exact LeO.none _)
      | (with_reducible refine LeO.ite ?_ ?_)
      | (with_reducible refine LeO.bind ?_ (fun _ => ?_))
      | exact ih0 _ _ _
      | exact ih1 _ _
      | exact ih2 _ _ _ _ _
      | exact ih3 _ _ _
      | exact LeO.none _
      | refine LeO.ite ?_ ?_
      | refine LeO.bind ?_ (fun _ => ?_)
    · intro y0 y1 y2
      unfold escape_IsDivider.l0
      repeat' first
      | (with_reducible exact ih0 _ _ _)
      | (with_reducible exact ih1 _ _)
      | (with_reducible exact ih2 _ _ _ _ _)
      | (with_reducible exact ih3 _ _ _)
      | (with_reducible exact LeO.refl _)
      | (with_reducible exact LeO.none _)
      | (with_reducible refine LeO.ite ?_ ?_)
      | (with_reducible refine LeO.bind ?_ (fun _ => ?_))
      | exact ih0 _ _ _
      | exact ih1 _ _
      | exact ih2 _ _ _ _ _
      | exact ih3 _ _ _
      | exact LeO.none _
      | refine LeO.ite ?_ ?_
      | refine LeO.bind ?_ (fun _ => ?_)
theorem escape_IsDivider.mono : ∀ a0 a1 k, LeO (escape_IsDivider.f k a0 a1) (escape_IsDivider.f (k + 1) a0 a1) := by
  intro a0 a1 k
  obtain ⟨ih0, ih1, ih2, ih3⟩ := escape_IsDivider.mono_l k
  unfold escape_IsDivider.f
  repeat' first
      | (with_reducible exact ih0 _ _ _)
      | (with_reducible exact ih1 _ _)
      | (with_reducible exact ih2 _ _ _ _ _)
      | (with_reducible exact ih3 _ _ _)
      | (with_reducible exact LeO.refl _)
      | (with_reducible exact LeO.none _)
      | (with_reducible refine LeO.ite ?_ ?_)
      | (with_reducible refine LeO.bind ?_ (fun _ => ?_))
      | exact ih0 _ _ _
      | exact ih1 _ _
      | exact ih2 _ _ _ _ _
      | exact ih3 _ _ _
      | exact LeO.none _
      | refine LeO.ite ?_ ?_
      | refine LeO.bind ?_ (fun _ => ?_)
set_option maxHeartbeats 8000000 in
set_option maxRecDepth 100000 in
theorem escape_IsDivider.calls (k : Nat) (A0 : Option Addr) (c0 : Nat) (l0 : List Int) (a1 : Int) (r : Int) (w : World) (hr0 : Kd.C (Kd.int .u8) w A0 l0.length l0) (hc0 : l0.length ≤ c0) (h : escape_IsDivider.f k l0 a1 = some r) :
    Calls Tryz.prog 44 #[.slice A0 l0.length c0, .int .i64 a1] w fun e w' => e = .returned (.int .i64 r) ∧ Drawn0 w w' := by
  have HR0 := Aside0.mk hr0
  have HC0 := Aside0.mk hc0
  clear hr0 hc0
  have H : (if 0 ≤ a1 then (if a1 < (l0.length : Int) then (if (rd l0 a1) = 45 then (escape_IsDivider.j0 k l0 a1 false) else (if (rd l0 a1) = 95 then (escape_IsDivider.j0 k l0 a1 false) else (escape_IsDivider.j0 k l0 a1 ((rd l0 a1) != 42)))) else (none)) else (none)) = some r := h
  clear h
  have HC3 := Aside0.mk H
  clear H
  go_enter Tryz.func44, Tryz.ntmps44
  go_upto_region 1 with (fail)
  repeat (go_quiet (fail); go_upto_region 1 with (fail))
  go_cut [27] (fun v27 wc => ∃ (kq : Nat) (x27_2 : Bool), v27 = .bool x27_2 ∧ Aside0 (escape_IsDivider.j0 kq l0 a1 x27_2 = some r) ∧ Aside0 (kq ≤ k) ∧ Drawn0 w wc)
  case first =>
    have H := HC3.out
    clear HC3
    by_cases c4 : 0 ≤ a1
    · rw [if_pos c4] at H
      have c4b0 : decide (0 ≤ a1) = true := decide_eq_true c4
      clear c4
      (first | rw [c4b0] | (simp only [i64_w, i32_w]; rw [c4b0]) | skip)
      by_cases c5 : a1 < (l0.length : Int)
      · rw [if_pos c5] at H
        have c5b0 : decide (a1 < (l0.length : Int)) = true := decide_eq_true c5
        clear c5
        by_cases c6 : (rd l0 a1) = 45
        · rw [if_pos c6] at H
          have c6b0 : ((rd l0 a1) == 45) = true := beq_iff_eq.mpr c6
          have c6b1 : ((rd l0 a1) != 45) = false := bne_eq_false_iff_eq.mpr c6
          clear c6
          have H' := Aside0.mk H
          clear H
          have p129 : 0 ≤ (a1 : Int) := of_decide_eq_true (by first | (with_reducible assumption) | assumption)
          have q129 : a1 < (l0.length : Int) := of_decide_eq_true (by first | (with_reducible assumption) | assumption)
          obtain ⟨ad129, e129, hx129_0⟩ := Kd.at_int HR0.out a1 p129 q129
          cases e129
          replace p129 := eq_true p129
          replace q129 := eq_true q129
          go_wp2
          repeat (go_quiet (fail); try go_wp2)
          go_meet
          case rel => exact ⟨_, (false), (by first | rfl | (simp; done) | (simp [*]; done)), H', ⟨by first | omega | exact Nat.le_refl _⟩, by repeat (first | exact Drawn0.refl _ | apply Drawn0.step)⟩
        · rw [if_neg c6] at H
          have c6b0 : ((rd l0 a1) == 45) = false := beq_eq_false_iff_ne.mpr c6
          have c6b1 : ((rd l0 a1) != 45) = true := bne_iff_ne.mpr c6
          by_cases c7 : (rd l0 a1) = 95
          · rw [if_pos c7] at H
            have c7b0 : ((rd l0 a1) == 95) = true := beq_iff_eq.mpr c7
            have c7b1 : ((rd l0 a1) != 95) = false := bne_eq_false_iff_eq.mpr c7
            clear c7
            have H' := Aside0.mk H
            clear H
            have p129 : 0 ≤ (a1 : Int) := of_decide_eq_true (by first | (with_reducible assumption) | assumption)
            have q129 : a1 < (l0.length : Int) := of_decide_eq_true (by first | (with_reducible assumption) | assumption)
            obtain ⟨ad129, e129, hx129_0⟩ := Kd.at_int HR0.out a1 p129 q129
            cases e129
            replace p129 := eq_true p129
            replace q129 := eq_true q129
            have p130 : 0 ≤ (a1 : Int) := of_decide_eq_true (by first | (with_reducible assumption) | assumption)
            have q130 : a1 < (l0.length : Int) := of_decide_eq_true (by first | (with_reducible assumption) | assumption)
            obtain ⟨ad130, e130, hx130_0⟩ := Kd.at_int HR0.out a1 p130 q130
            obtain rfl : ad129 = ad130 := (by injection e130)
            replace p130 := eq_true p130
            replace q130 := eq_true q130
            go_wp2
            repeat (go_quiet (fail); try go_wp2)
            go_meet
            case rel => exact ⟨_, (false), (by first | rfl | (simp; done) | (simp [*]; done)), H', ⟨by first | omega | exact Nat.le_refl _⟩, by repeat (first | exact Drawn0.refl _ | apply Drawn0.step)⟩
          · rw [if_neg c7] at H
            have c7b0 : ((rd l0 a1) == 95) = false := beq_eq_false_iff_ne.mpr c7
            have c7b1 : ((rd l0 a1) != 95) = true := bne_iff_ne.mpr c7
            have H' := Aside0.mk H
            clear H
            have p129 : 0 ≤ (a1 : Int) := of_decide_eq_true (by first | (with_reducible assumption) | assumption)
            have q129 : a1 < (l0.length : Int) := of_decide_eq_true (by first | (with_reducible assumption) | assumption)
            obtain ⟨ad129, e129, hx129_0⟩ := Kd.at_int HR0.out a1 p129 q129
            cases e129
            replace p129 := eq_true p129
            replace q129 := eq_true q129
            have p130 : 0 ≤ (a1 : Int) := of_decide_eq_true (by first | (with_reducible assumption) | assumption)
            have q130 : a1 < (l0.length : Int) := of_decide_eq_true (by first | (with_reducible assumption) | assumption)
            obtain ⟨ad130, e130, hx130_0⟩ := Kd.at_int HR0.out a1 p130 q130
            obtain rfl : ad129 = ad130 := (by injection e130)
            replace p130 := eq_true p130
            replace q130 := eq_true q130
            have p131 : 0 ≤ (a1 : Int) := of_decide_eq_true (by first | (with_reducible assumption) | assumption)
            have q131 : a1 < (l0.length : Int) := of_decide_eq_true (by first | (with_reducible assumption) | assumption)
            obtain ⟨ad131, e131, hx131_0⟩ := Kd.at_int HR0.out a1 p131 q131
            obtain rfl : ad129 = ad131 := (by injection e131)
            replace p131 := eq_true p131
            replace q131 := eq_true q131
            go_wp2
            repeat (go_quiet (fail); try go_wp2)
            go_meet
            case rel => exact ⟨_, (((rd l0 a1) != 42)), (by first | rfl | (simp; done) | (simp [*]; done)), H', ⟨by first | omega | exact Nat.le_refl _⟩, by repeat (first | exact Drawn0.refl _ | apply Drawn0.step)⟩
      · rw [if_neg c5] at H
        exact absurd H (by simp)
    · rw [if_neg c4] at H
      exact absurd H (by simp)
  case rest =>
    clear HC3
    try clear p1
    try clear q1
    try clear hx1
    try clear p2
    try clear c4
    try clear c4b0
    try clear c5
    try clear c5b0
    try clear c6
    try clear c6b0
    try clear c6b1
    try clear c7
    try clear c7b0
    try clear c7b1
    try clear hx129_0
    try clear hx130_0
    try clear hx131_0
    try clear p129
    try clear p130
    try clear p131
    try clear q129
    try clear q130
    try clear q131
    obtain ⟨kq, x27_2, rfl, HA, HJ2, ⟨mc2, rfl⟩⟩ := hcut
    cases kq with
    | zero => exact absurd HA.out (by simp [escape_IsDivider.j0])
    | succ kj2 =>
      have H := HA.out
      clear HA
      simp only [escape_IsDivider.j0] at H
      by_cases c8 : x27_2 = true
      · subst c8
        have H1 : (some (-1)) = some r := by rw [if_pos rfl] at H; exact H
        clear H
        have H := H1
        clear H1
        obtain rfl := Option.some.inj H
        go_wp2
        repeat (go_quiet (fail); try go_wp2)
        go_ret
        exact ⟨by first | rfl | (simp; done) | (simp [*]; done), by repeat (first | exact Drawn0.refl _ | apply Drawn0.step)⟩
      · replace c8 := Bool.eq_false_iff.mpr c8
        subst c8
        have H1 : (escape_IsDivider.l0 kj2 l0 a1 (wrap64 (a1 - 1))) = some r := by rw [if_neg (show ¬ (false = true) by decide)] at H; exact H
        clear H
        have H := H1
        clear H1
        have HC9 := Aside0.mk H
        clear H
        go_upto_block 0 with (fail)
        repeat (go_quiet (fail); go_upto_block 0 with (fail))
        go_cut [] (fun wc => ∃ (kq : Nat), Aside0 (escape_IsDivider.j2 kq l0 a1 = some r) ∧ Aside0 (kq ≤ kj2) ∧ Drawn0 w wc)
        case first =>
          have H := HC9.out
          clear HC9
          have H' := Aside0.mk H
          clear H
          go_wp2
          repeat (go_quiet (fail); try go_wp2)
          go_loopg [5] kj2 (fun kq v5 w' => ∃ (x5_2 : Int), v5 = .int .i64 x5_2 ∧ Aside0 (escape_IsDivider.l0 kq l0 a1 x5_2 = some r) ∧ Aside0 (kq ≤ kj2) ∧ Drawn0 w w')
          case atStart => exact ⟨(wrap64 (a1 - 1)), (by first | rfl | (simp; done) | (simp [*]; done)), H', ⟨Nat.le_refl _⟩, by repeat (first | exact Drawn0.refl _ | apply Drawn0.step)⟩
          case round =>
            clear H'
            try clear p1
            try clear q1
            try clear hx1
            try clear c2
            try clear p2
            try clear c4
            try clear c4b0
            try clear c5
            try clear c5b0
            try clear c6
            try clear c6b0
            try clear c6b1
            try clear p6
            try clear c7
            try clear c7b0
            try clear c7b1
            try clear c8
            try clear hx129_0
            try clear hx130_0
            try clear hx131_0
            try clear p1
            try clear p129
            try clear p130
            try clear p131
            try clear p2
            try clear q1
            try clear q129
            try clear q130
            try clear q131
            obtain ⟨x5_2, rfl, HA, HK2, ⟨m2, rfl⟩⟩ := hrel
            cases gk with
            | zero => exact absurd HA.out (by simp [escape_IsDivider.l0])
            | succ k2 =>
              have H := HA.out
              clear HA
              simp only [escape_IsDivider.l0] at H
              by_cases c10 : x5_2 ≥ 0
              · rw [if_pos c10] at H
                have c10b0 : decide (0 ≤ x5_2) = true := decide_eq_true c10
                clear c10
                (first | rw [c10b0] | (simp only [i64_w, i32_w]; rw [c10b0]) | skip)
                by_cases c11 : 0 ≤ x5_2
                · rw [if_pos c11] at H
                  have c11b0 : decide (0 ≤ x5_2) = true := decide_eq_true c11
                  clear c11
                  by_cases c12 : x5_2 < (l0.length : Int)
                  · rw [if_pos c12] at H
                    have c12b0 : decide (x5_2 < (l0.length : Int)) = true := decide_eq_true c12
                    clear c12
                    by_cases c13 : (rd l0 x5_2) = 10
                    · rw [if_pos c13] at H
                      have c13b0 : ((rd l0 x5_2) == 10) = true := beq_iff_eq.mpr c13
                      have c13b1 : ((rd l0 x5_2) != 10) = false := bne_eq_false_iff_eq.mpr c13
                      clear c13
                      have H' := Aside0.mk H
                      clear H
                      have p132 : 0 ≤ (x5_2 : Int) := of_decide_eq_true (by first | (with_reducible assumption) | assumption)
                      have q132 : x5_2 < (l0.length : Int) := of_decide_eq_true (by first | (with_reducible assumption) | assumption)
                      obtain ⟨ad132, e132, hx132_0⟩ := Kd.at_int HR0.out x5_2 p132 q132
                      cases e132
                      replace p132 := eq_true p132
                      replace q132 := eq_true q132
                      go_wp2
                      repeat (go_quiet (fail); try go_wp2)
                      go_meet
                      case rel => exact ⟨_, H', ⟨by have := HJ2.out; have := HK2.out; first | omega | exact Nat.le_refl _⟩, by repeat (first | exact Drawn0.refl _ | apply Drawn0.step)⟩
                    · rw [if_neg c13] at H
                      have c13b0 : ((rd l0 x5_2) == 10) = false := beq_eq_false_iff_ne.mpr c13
                      have c13b1 : ((rd l0 x5_2) != 10) = true := bne_iff_ne.mpr c13
                      by_cases c14 : (rd l0 x5_2) = 7
                      · rw [if_pos c14] at H
                        have c14b0 : ((rd l0 x5_2) == 7) = true := beq_iff_eq.mpr c14
                        have c14b1 : ((rd l0 x5_2) != 7) = false := bne_eq_false_iff_eq.mpr c14
                        clear c14
                        have H' := Aside0.mk H
                        clear H
                        have p132 : 0 ≤ (x5_2 : Int) := of_decide_eq_true (by first | (with_reducible assumption) | assumption)
                        have q132 : x5_2 < (l0.length : Int) := of_decide_eq_true (by first | (with_reducible assumption) | assumption)
                        obtain ⟨ad132, e132, hx132_0⟩ := Kd.at_int HR0.out x5_2 p132 q132
                        cases e132
                        replace p132 := eq_true p132
                        replace q132 := eq_true q132
                        have p133 : 0 ≤ (x5_2 : Int) := of_decide_eq_true (by first | (with_reducible assumption) | assumption)
                        have q133 : x5_2 < (l0.length : Int) := of_decide_eq_true (by first | (with_reducible assumption) | assumption)
                        obtain ⟨ad133, e133, hx133_0⟩ := Kd.at_int HR0.out x5_2 p133 q133
                        obtain rfl : ad132 = ad133 := (by injection e133)
                        replace p133 := eq_true p133
                        replace q133 := eq_true q133
                        go_wp2
                        repeat (go_quiet (fail); try go_wp2)
                        go_roundg k2
                        case measure => have := HJ2.out; have := HK2.out; omega
                        case rel => exact ⟨(wrap64 (x5_2 - 1)), (by first | rfl | (simp; done) | (simp [*]; done)), H', ⟨by have := HJ2.out; have := HK2.out; omega⟩, by repeat (first | exact Drawn0.refl _ | apply Drawn0.step)⟩
                      · rw [if_neg c14] at H
                        have c14b0 : ((rd l0 x5_2) == 7) = false := beq_eq_false_iff_ne.mpr c14
                        have c14b1 : ((rd l0 x5_2) != 7) = true := bne_iff_ne.mpr c14
                        by_cases c15 : (rd l0 x5_2) = 32
                        · rw [if_pos c15] at H
                          have c15b0 : ((rd l0 x5_2) == 32) = true := beq_iff_eq.mpr c15
                          have c15b1 : ((rd l0 x5_2) != 32) = false := bne_eq_false_iff_eq.mpr c15
                          clear c15
                          have H' := Aside0.mk H
                          clear H
                          have p132 : 0 ≤ (x5_2 : Int) := of_decide_eq_true (by first | (with_reducible assumption) | assumption)
                          have q132 : x5_2 < (l0.length : Int) := of_decide_eq_true (by first | (with_reducible assumption) | assumption)
                          obtain ⟨ad132, e132, hx132_0⟩ := Kd.at_int HR0.out x5_2 p132 q132
                          cases e132
                          replace p132 := eq_true p132
                          replace q132 := eq_true q132
                          have p133 : 0 ≤ (x5_2 : Int) := of_decide_eq_true (by first | (with_reducible assumption) | assumption)
                          have q133 : x5_2 < (l0.length : Int) := of_decide_eq_true (by first | (with_reducible assumption) | assumption)
                          obtain ⟨ad133, e133, hx133_0⟩ := Kd.at_int HR0.out x5_2 p133 q133
                          obtain rfl : ad132 = ad133 := (by injection e133)
                          replace p133 := eq_true p133
                          replace q133 := eq_true q133
                          have p134 : 0 ≤ (x5_2 : Int) := of_decide_eq_true (by first | (with_reducible assumption) | assumption)
                          have q134 : x5_2 < (l0.length : Int) := of_decide_eq_true (by first | (with_reducible assumption) | assumption)
                          obtain ⟨ad134, e134, hx134_0⟩ := Kd.at_int HR0.out x5_2 p134 q134
                          obtain rfl : ad132 = ad134 := (by injection e134)
                          replace p134 := eq_true p134
                          replace q134 := eq_true q134
                          go_wp2
                          repeat (go_quiet (fail); try go_wp2)
                          go_roundg k2
                          case measure => have := HJ2.out; have := HK2.out; omega
                          case rel => exact ⟨(wrap64 (x5_2 - 1)), (by first | rfl | (simp; done) | (simp [*]; done)), H', ⟨by have := HJ2.out; have := HK2.out; omega⟩, by repeat (first | exact Drawn0.refl _ | apply Drawn0.step)⟩
                        · rw [if_neg c15] at H
                          have c15b0 : ((rd l0 x5_2) == 32) = false := beq_eq_false_iff_ne.mpr c15
                          have c15b1 : ((rd l0 x5_2) != 32) = true := bne_iff_ne.mpr c15
                          obtain rfl := Option.some.inj H
                          have p132 : 0 ≤ (x5_2 : Int) := of_decide_eq_true (by first | (with_reducible assumption) | assumption)
                          have q132 : x5_2 < (l0.length : Int) := of_decide_eq_true (by first | (with_reducible assumption) | assumption)
                          obtain ⟨ad132, e132, hx132_0⟩ := Kd.at_int HR0.out x5_2 p132 q132
                          cases e132
                          replace p132 := eq_true p132
                          replace q132 := eq_true q132
                          have p133 : 0 ≤ (x5_2 : Int) := of_decide_eq_true (by first | (with_reducible assumption) | assumption)
                          have q133 : x5_2 < (l0.length : Int) := of_decide_eq_true (by first | (with_reducible assumption) | assumption)
                          obtain ⟨ad133, e133, hx133_0⟩ := Kd.at_int HR0.out x5_2 p133 q133
                          obtain rfl : ad132 = ad133 := (by injection e133)
                          replace p133 := eq_true p133
                          replace q133 := eq_true q133
                          have p134 : 0 ≤ (x5_2 : Int) := of_decide_eq_true (by first | (with_reducible assumption) | assumption)
                          have q134 : x5_2 < (l0.length : Int) := of_decide_eq_true (by first | (with_reducible assumption) | assumption)
                          obtain ⟨ad134, e134, hx134_0⟩ := Kd.at_int HR0.out x5_2 p134 q134
                          obtain rfl : ad132 = ad134 := (by injection e134)
                          replace p134 := eq_true p134
                          replace q134 := eq_true q134
                          go_wp2
                          repeat (go_quiet (fail); try go_wp2)
                          go_ret
                          exact ⟨by first | rfl | (simp; done) | (simp [*]; done), by repeat (first | exact Drawn0.refl _ | apply Drawn0.step)⟩
                  · rw [if_neg c12] at H
                    exact absurd H (by simp)
                · rw [if_neg c11] at H
                  exact absurd H (by simp)
              · rw [if_neg c10] at H
                have c10b0 : decide (0 ≤ x5_2) = false := decide_eq_false c10
                clear c10
                (first | rw [c10b0] | (simp only [i64_w, i32_w]; rw [c10b0]) | skip)
                have H' := Aside0.mk H
                clear H
                go_wp2
                repeat (go_quiet (fail); try go_wp2)
                go_meet
                case rel => exact ⟨_, H', ⟨by have := HJ2.out; have := HK2.out; first | omega | exact Nat.le_refl _⟩, by repeat (first | exact Drawn0.refl _ | apply Drawn0.step)⟩
        case rest =>
          clear HC9
          try clear c1
          try clear p1
          try clear q1
          try clear hx1
          try clear c2
          try clear p2
          try clear c4
          try clear c4b0
          try clear c5
          try clear c5b0
          try clear c6
          try clear c6b0
          try clear c6b1
          try clear p6
          try clear c7
          try clear c7b0
          try clear c7b1
          try clear c8
          try clear c10
          try clear c10b0
          try clear c11
          try clear c11b0
          try clear c12
          try clear c12b0
          try clear p12
          try clear q12
          try clear hx12
          try clear c13
          try clear c13b0
          try clear c13b1
          try clear p13
          try clear q13
          try clear hx13
          try clear c14
          try clear c14b0
          try clear c14b1
          try clear c15
          try clear c15b0
          try clear c15b1
          try clear hx129_0
          try clear hx130_0
          try clear hx131_0
          try clear hx132_0
          try clear hx133_0
          try clear hx134_0
          try clear p1
          try clear p129
          try clear p130
          try clear p131
          try clear p132
          try clear p133
          try clear p134
          try clear p2
          try clear p6
          try clear q1
          try clear q129
          try clear q130
          try clear q131
          try clear q132
          try clear q133
          try clear q134
          obtain ⟨kq, HA, HJ8, ⟨mc8, rfl⟩⟩ := hcut
          cases kq with
          | zero => exact absurd HA.out (by simp [escape_IsDivider.j2])
          | succ kj8 =>
            have H := HA.out
            clear HA
            simp only [escape_IsDivider.j2] at H
            have H' := Aside0.mk H
            clear H
            go_wp2
            repeat (go_quiet (fail); try go_wp2)
            go_loopg [6, 7, 8] kj8 (fun kq v6 v7 v8 w' => ∃ (x6_3 : Int) (x7_3 : Int) (x8_3 : Int), v6 = .int .i64 x6_3 ∧ v7 = .int .i64 x7_3 ∧ v8 = .int .i64 x8_3 ∧ Aside0 (escape_IsDivider.l1 kq l0 a1 x6_3 x7_3 x8_3 = some r) ∧ Aside0 (kq ≤ kj8) ∧ Drawn0 w w')
            case atStart => exact ⟨(1), ((l0.length : Int)), (wrap64 (a1 + 1)), (by first | rfl | (simp; done) | (simp [*]; done)), (by first | rfl | (simp; done) | (simp [*]; done)), (by first | rfl | (simp; done) | (simp [*]; done)), H', ⟨Nat.le_refl _⟩, by repeat (first | exact Drawn0.refl _ | apply Drawn0.step)⟩
            case round =>
              clear H'
              try clear c1
              try clear p1
              try clear q1
              try clear hx1
              try clear c2
              try clear p2
              try clear c4
              try clear c4b0
              try clear c5
              try clear c5b0
              try clear c6
              try clear c6b0
              try clear c6b1
              try clear p6
              try clear c7
              try clear c7b0
              try clear c7b1
              try clear c8
              try clear c10
              try clear c10b0
              try clear c11
              try clear c11b0
              try clear c12
              try clear c12b0
              try clear p12
              try clear q12
              try clear hx12
              try clear c13
              try clear c13b0
              try clear c13b1
              try clear p13
              try clear q13
              try clear hx13
              try clear c14
              try clear c14b0
              try clear c14b1
              try clear c15
              try clear c15b0
              try clear c15b1
              try clear hx129_0
              try clear hx130_0
              try clear hx131_0
              try clear hx132_0
              try clear hx133_0
              try clear hx134_0
              try clear p1
              try clear p12
              try clear p129
              try clear p13
              try clear p130
              try clear p131
              try clear p132
              try clear p133
              try clear p134
              try clear p2
              try clear p6
              try clear q1
              try clear q12
              try clear q129
              try clear q13
              try clear q130
              try clear q131
              try clear q132
              try clear q133
              try clear q134
              obtain ⟨x6_3, x7_3, x8_3, rfl, rfl, rfl, HA, HK3, ⟨m3, rfl⟩⟩ := hrel
              cases gk with
              | zero => exact absurd HA.out (by simp [escape_IsDivider.l1])
              | succ k3 =>
                have H := HA.out
                clear HA
                simp only [escape_IsDivider.l1] at H
                by_cases c16 : x8_3 < (l0.length : Int)
                · rw [if_pos c16] at H
                  have c16b0 : decide (x8_3 < (l0.length : Int)) = true := decide_eq_true c16
                  clear c16
                  by_cases c17 : 0 ≤ x8_3
                  · rw [if_pos c17] at H
                    have c17b0 : decide (0 ≤ x8_3) = true := decide_eq_true c17
                    clear c17
                    by_cases c18 : (rd l0 x8_3) = 7
                    · rw [if_pos c18] at H
                      have c18b0 : ((rd l0 x8_3) == 7) = true := beq_iff_eq.mpr c18
                      have c18b1 : ((rd l0 x8_3) != 7) = false := bne_eq_false_iff_eq.mpr c18
                      clear c18
                      have H' := Aside0.mk H
                      clear H
                      have p135 : 0 ≤ (x8_3 : Int) := of_decide_eq_true (by first | (with_reducible assumption) | assumption)
                      have q135 : x8_3 < (l0.length : Int) := of_decide_eq_true (by first | (with_reducible assumption) | assumption)
                      obtain ⟨ad135, e135, hx135_0⟩ := Kd.at_int HR0.out x8_3 p135 q135
                      cases e135
                      replace p135 := eq_true p135
                      replace q135 := eq_true q135
                      go_wp2
                      repeat (go_quiet (fail); try go_wp2)
                      go_roundg k3
                      case measure => have := HJ2.out; have := HJ8.out; have := HK3.out; omega
                      case rel => exact ⟨(x6_3), (x7_3), (wrap64 (x8_3 + 1)), (by first | rfl | (simp; done) | (simp [*]; done)), (by first | rfl | (simp; done) | (simp [*]; done)), (by first | rfl | (simp; done) | (simp [*]; done)), H', ⟨by have := HJ2.out; have := HJ8.out; have := HK3.out; omega⟩, by repeat (first | exact Drawn0.refl _ | apply Drawn0.step)⟩
                    · rw [if_neg c18] at H
                      have c18b0 : ((rd l0 x8_3) == 7) = false := beq_eq_false_iff_ne.mpr c18
                      have c18b1 : ((rd l0 x8_3) != 7) = true := bne_iff_ne.mpr c18
                      by_cases c19 : (rd l0 x8_3) = 32
                      · rw [if_pos c19] at H
                        have c19b0 : ((rd l0 x8_3) == 32) = true := beq_iff_eq.mpr c19
                        have c19b1 : ((rd l0 x8_3) != 32) = false := bne_eq_false_iff_eq.mpr c19
                        clear c19
                        have H' := Aside0.mk H
                        clear H
                        have p135 : 0 ≤ (x8_3 : Int) := of_decide_eq_true (by first | (with_reducible assumption) | assumption)
                        have q135 : x8_3 < (l0.length : Int) := of_decide_eq_true (by first | (with_reducible assumption) | assumption)
                        obtain ⟨ad135, e135, hx135_0⟩ := Kd.at_int HR0.out x8_3 p135 q135
                        cases e135
                        replace p135 := eq_true p135
                        replace q135 := eq_true q135
                        have p136 : 0 ≤ (x8_3 : Int) := of_decide_eq_true (by first | (with_reducible assumption) | assumption)
                        have q136 : x8_3 < (l0.length : Int) := of_decide_eq_true (by first | (with_reducible assumption) | assumption)
                        obtain ⟨ad136, e136, hx136_0⟩ := Kd.at_int HR0.out x8_3 p136 q136
                        obtain rfl : ad135 = ad136 := (by injection e136)
                        replace p136 := eq_true p136
                        replace q136 := eq_true q136
                        go_wp2
                        repeat (go_quiet (fail); try go_wp2)
                        go_roundg k3
                        case measure => have := HJ2.out; have := HJ8.out; have := HK3.out; omega
                        case rel => exact ⟨(x6_3), (x7_3), (wrap64 (x8_3 + 1)), (by first | rfl | (simp; done) | (simp [*]; done)), (by first | rfl | (simp; done) | (simp [*]; done)), (by first | rfl | (simp; done) | (simp [*]; done)), H', ⟨by have := HJ2.out; have := HJ8.out; have := HK3.out; omega⟩, by repeat (first | exact Drawn0.refl _ | apply Drawn0.step)⟩
                      · rw [if_neg c19] at H
                        have c19b0 : ((rd l0 x8_3) == 32) = false := beq_eq_false_iff_ne.mpr c19
                        have c19b1 : ((rd l0 x8_3) != 32) = true := bne_iff_ne.mpr c19
                        by_cases c20 : 0 ≤ a1
                        · rw [if_pos c20] at H
                          have c20b0 : decide (0 ≤ a1) = true := decide_eq_true c20
                          clear c20
                          by_cases c21 : a1 < (l0.length : Int)
                          · rw [if_pos c21] at H
                            have c21b0 : decide (a1 < (l0.length : Int)) = true := decide_eq_true c21
                            clear c21
                            by_cases c22 : (rd l0 x8_3) = (rd l0 a1)
                            · rw [if_pos c22] at H
                              have c22b0 : ((rd l0 x8_3) == (rd l0 a1)) = true := beq_iff_eq.mpr c22
                              have c22b1 : ((rd l0 x8_3) != (rd l0 a1)) = false := bne_eq_false_iff_eq.mpr c22
                              clear c22
                              have H' := Aside0.mk H
                              clear H
                              have p135 : 0 ≤ (x8_3 : Int) := of_decide_eq_true (by first | (with_reducible assumption) | assumption)
                              have q135 : x8_3 < (l0.length : Int) := of_decide_eq_true (by first | (with_reducible assumption) | assumption)
                              obtain ⟨ad135, e135, hx135_0⟩ := Kd.at_int HR0.out x8_3 p135 q135
                              cases e135
                              replace p135 := eq_true p135
                              replace q135 := eq_true q135
                              have p136 : 0 ≤ (x8_3 : Int) := of_decide_eq_true (by first | (with_reducible assumption) | assumption)
                              have q136 : x8_3 < (l0.length : Int) := of_decide_eq_true (by first | (with_reducible assumption) | assumption)
                              obtain ⟨ad136, e136, hx136_0⟩ := Kd.at_int HR0.out x8_3 p136 q136
                              obtain rfl : ad135 = ad136 := (by injection e136)
                              replace p136 := eq_true p136
                              replace q136 := eq_true q136
                              have p137 : 0 ≤ (x8_3 : Int) := of_decide_eq_true (by first | (with_reducible assumption) | assumption)
                              have q137 : x8_3 < (l0.length : Int) := of_decide_eq_true (by first | (with_reducible assumption) | assumption)
                              obtain ⟨ad137, e137, hx137_0⟩ := Kd.at_int HR0.out x8_3 p137 q137
                              obtain rfl : ad135 = ad137 := (by injection e137)
                              replace p137 := eq_true p137
                              replace q137 := eq_true q137
                              have p138 : 0 ≤ (a1 : Int) := of_decide_eq_true (by first | (with_reducible assumption) | assumption)
                              have q138 : a1 < (l0.length : Int) := of_decide_eq_true (by first | (with_reducible assumption) | assumption)
                              obtain ⟨ad138, e138, hx138_0⟩ := Kd.at_int HR0.out a1 p138 q138
                              obtain rfl : ad135 = ad138 := (by injection e138)
                              replace p138 := eq_true p138
                              replace q138 := eq_true q138
                              go_wp2
                              repeat (go_quiet (fail); try go_wp2)
                              go_roundg k3
                              case measure => have := HJ2.out; have := HJ8.out; have := HK3.out; omega
                              case rel => exact ⟨(wrap64 (x6_3 + 1)), (x7_3), (wrap64 (x8_3 + 1)), (by first | rfl | (simp; done) | (simp [*]; done)), (by first | rfl | (simp; done) | (simp [*]; done)), (by first | rfl | (simp; done) | (simp [*]; done)), H', ⟨by have := HJ2.out; have := HJ8.out; have := HK3.out; omega⟩, by repeat (first | exact Drawn0.refl _ | apply Drawn0.step)⟩
                            · rw [if_neg c22] at H
                              have c22b0 : ((rd l0 x8_3) == (rd l0 a1)) = false := beq_eq_false_iff_ne.mpr c22
                              have c22b1 : ((rd l0 x8_3) != (rd l0 a1)) = true := bne_iff_ne.mpr c22
                              by_cases c23 : (rd l0 x8_3) = 10
                              · rw [if_pos c23] at H
                                have c23b0 : ((rd l0 x8_3) == 10) = true := beq_iff_eq.mpr c23
                                have c23b1 : ((rd l0 x8_3) != 10) = false := bne_eq_false_iff_eq.mpr c23
                                clear c23
                                by_cases c24 : x6_3 ≥ 3
                                · rw [if_pos c24] at H
                                  have c24b0 : decide (3 ≤ x6_3) = true := decide_eq_true c24
                                  clear c24
                                  obtain rfl := Option.some.inj H
                                  have p135 : 0 ≤ (x8_3 : Int) := of_decide_eq_true (by first | (with_reducible assumption) | assumption)
                                  have q135 : x8_3 < (l0.length : Int) := of_decide_eq_true (by first | (with_reducible assumption) | assumption)
                                  obtain ⟨ad135, e135, hx135_0⟩ := Kd.at_int HR0.out x8_3 p135 q135
                                  cases e135
                                  replace p135 := eq_true p135
                                  replace q135 := eq_true q135
                                  have p136 : 0 ≤ (x8_3 : Int) := of_decide_eq_true (by first | (with_reducible assumption) | assumption)
                                  have q136 : x8_3 < (l0.length : Int) := of_decide_eq_true (by first | (with_reducible assumption) | assumption)
                                  obtain ⟨ad136, e136, hx136_0⟩ := Kd.at_int HR0.out x8_3 p136 q136
                                  obtain rfl : ad135 = ad136 := (by injection e136)
                                  replace p136 := eq_true p136
                                  replace q136 := eq_true q136
                                  have p137 : 0 ≤ (x8_3 : Int) := of_decide_eq_true (by first | (with_reducible assumption) | assumption)
                                  have q137 : x8_3 < (l0.length : Int) := of_decide_eq_true (by first | (with_reducible assumption) | assumption)
                                  obtain ⟨ad137, e137, hx137_0⟩ := Kd.at_int HR0.out x8_3 p137 q137
                                  obtain rfl : ad135 = ad137 := (by injection e137)
                                  replace p137 := eq_true p137
                                  replace q137 := eq_true q137
                                  have p138 : 0 ≤ (a1 : Int) := of_decide_eq_true (by first | (with_reducible assumption) | assumption)
                                  have q138 : a1 < (l0.length : Int) := of_decide_eq_true (by first | (with_reducible assumption) | assumption)
                                  obtain ⟨ad138, e138, hx138_0⟩ := Kd.at_int HR0.out a1 p138 q138
                                  obtain rfl : ad135 = ad138 := (by injection e138)
                                  replace p138 := eq_true p138
                                  replace q138 := eq_true q138
                                  have p139 : 0 ≤ (x8_3 : Int) := of_decide_eq_true (by first | (with_reducible assumption) | assumption)
                                  have q139 : x8_3 < (l0.length : Int) := of_decide_eq_true (by first | (with_reducible assumption) | assumption)
                                  obtain ⟨ad139, e139, hx139_0⟩ := Kd.at_int HR0.out x8_3 p139 q139
                                  obtain rfl : ad135 = ad139 := (by injection e139)
                                  replace p139 := eq_true p139
                                  replace q139 := eq_true q139
                                  go_wp2
                                  repeat (go_quiet (fail); try go_wp2)
                                  go_ret
                                  exact ⟨by first | rfl | (simp; done) | (simp [*]; done), by repeat (first | exact Drawn0.refl _ | apply Drawn0.step)⟩
                                · rw [if_neg c24] at H
                                  have c24b0 : decide (3 ≤ x6_3) = false := decide_eq_false c24
                                  clear c24
                                  obtain rfl := Option.some.inj H
                                  have p135 : 0 ≤ (x8_3 : Int) := of_decide_eq_true (by first | (with_reducible assumption) | assumption)
                                  have q135 : x8_3 < (l0.length : Int) := of_decide_eq_true (by first | (with_reducible assumption) | assumption)
                                  obtain ⟨ad135, e135, hx135_0⟩ := Kd.at_int HR0.out x8_3 p135 q135
                                  cases e135
                                  replace p135 := eq_true p135
                                  replace q135 := eq_true q135
                                  have p136 : 0 ≤ (x8_3 : Int) := of_decide_eq_true (by first | (with_reducible assumption) | assumption)
                                  have q136 : x8_3 < (l0.length : Int) := of_decide_eq_true (by first | (with_reducible assumption) | assumption)
                                  obtain ⟨ad136, e136, hx136_0⟩ := Kd.at_int HR0.out x8_3 p136 q136
                                  obtain rfl : ad135 = ad136 := (by injection e136)
                                  replace p136 := eq_true p136
                                  replace q136 := eq_true q136
                                  have p137 : 0 ≤ (x8_3 : Int) := of_decide_eq_true (by first | (with_reducible assumption) | assumption)
                                  have q137 : x8_3 < (l0.length : Int) := of_decide_eq_true (by first | (with_reducible assumption) | assumption)
                                  obtain ⟨ad137, e137, hx137_0⟩ := Kd.at_int HR0.out x8_3 p137 q137
                                  obtain rfl : ad135 = ad137 := (by injection e137)
                                  replace p137 := eq_true p137
                                  replace q137 := eq_true q137
                                  have p138 : 0 ≤ (a1 : Int) := of_decide_eq_true (by first | (with_reducible assumption) | assumption)
                                  have q138 : a1 < (l0.length : Int) := of_decide_eq_true (by first | (with_reducible assumption) | assumption)
                                  obtain ⟨ad138, e138, hx138_0⟩ := Kd.at_int HR0.out a1 p138 q138
                                  obtain rfl : ad135 = ad138 := (by injection e138)
                                  replace p138 := eq_true p138
                                  replace q138 := eq_true q138
                                  have p139 : 0 ≤ (x8_3 : Int) := of_decide_eq_true (by first | (with_reducible assumption) | assumption)
                                  have q139 : x8_3 < (l0.length : Int) := of_decide_eq_true (by first | (with_reducible assumption) | assumption)
                                  obtain ⟨ad139, e139, hx139_0⟩ := Kd.at_int HR0.out x8_3 p139 q139
                                  obtain rfl : ad135 = ad139 := (by injection e139)
                                  replace p139 := eq_true p139
                                  replace q139 := eq_true q139
                                  go_wp2
                                  repeat (go_quiet (fail); try go_wp2)
                                  go_ret
                                  exact ⟨by first | rfl | (simp; done) | (simp [*]; done), by repeat (first | exact Drawn0.refl _ | apply Drawn0.step)⟩
                              · rw [if_neg c23] at H
                                have c23b0 : ((rd l0 x8_3) == 10) = false := beq_eq_false_iff_ne.mpr c23
                                have c23b1 : ((rd l0 x8_3) != 10) = true := bne_iff_ne.mpr c23
                                obtain rfl := Option.some.inj H
                                have p135 : 0 ≤ (x8_3 : Int) := of_decide_eq_true (by first | (with_reducible assumption) | assumption)
                                have q135 : x8_3 < (l0.length : Int) := of_decide_eq_true (by first | (with_reducible assumption) | assumption)
                                obtain ⟨ad135, e135, hx135_0⟩ := Kd.at_int HR0.out x8_3 p135 q135
                                cases e135
                                replace p135 := eq_true p135
                                replace q135 := eq_true q135
                                have p136 : 0 ≤ (x8_3 : Int) := of_decide_eq_true (by first | (with_reducible assumption) | assumption)
                                have q136 : x8_3 < (l0.length : Int) := of_decide_eq_true (by first | (with_reducible assumption) | assumption)
                                obtain ⟨ad136, e136, hx136_0⟩ := Kd.at_int HR0.out x8_3 p136 q136
                                obtain rfl : ad135 = ad136 := (by injection e136)
                                replace p136 := eq_true p136
                                replace q136 := eq_true q136
                                have p137 : 0 ≤ (x8_3 : Int) := of_decide_eq_true (by first | (with_reducible assumption) | assumption)
                                have q137 : x8_3 < (l0.length : Int) := of_decide_eq_true (by first | (with_reducible assumption) | assumption)
                                obtain ⟨ad137, e137, hx137_0⟩ := Kd.at_int HR0.out x8_3 p137 q137
                                obtain rfl : ad135 = ad137 := (by injection e137)
                                replace p137 := eq_true p137
                                replace q137 := eq_true q137
                                have p138 : 0 ≤ (a1 : Int) := of_decide_eq_true (by first | (with_reducible assumption) | assumption)
                                have q138 : a1 < (l0.length : Int) := of_decide_eq_true (by first | (with_reducible assumption) | assumption)
                                obtain ⟨ad138, e138, hx138_0⟩ := Kd.at_int HR0.out a1 p138 q138
                                obtain rfl : ad135 = ad138 := (by injection e138)
                                replace p138 := eq_true p138
                                replace q138 := eq_true q138
                                have p139 : 0 ≤ (x8_3 : Int) := of_decide_eq_true (by first | (with_reducible assumption) | assumption)
                                have q139 : x8_3 < (l0.length : Int) := of_decide_eq_true (by first | (with_reducible assumption) | assumption)
                                obtain ⟨ad139, e139, hx139_0⟩ := Kd.at_int HR0.out x8_3 p139 q139
                                obtain rfl : ad135 = ad139 := (by injection e139)
                                replace p139 := eq_true p139
                                replace q139 := eq_true q139
                                go_wp2
                                repeat (go_quiet (fail); try go_wp2)
                                go_ret
                                exact ⟨by first | rfl | (simp; done) | (simp [*]; done), by repeat (first | exact Drawn0.refl _ | apply Drawn0.step)⟩
                          · rw [if_neg c21] at H
                            exact absurd H (by simp)
                        · rw [if_neg c20] at H
                          exact absurd H (by simp)
                  · rw [if_neg c17] at H
                    exact absurd H (by simp)
                · rw [if_neg c16] at H
                  have c16b0 : decide (x8_3 < (l0.length : Int)) = false := decide_eq_false c16
                  clear c16
                  by_cases c25 : x6_3 ≥ 3
                  · rw [if_pos c25] at H
                    have c25b0 : decide (3 ≤ x6_3) = true := decide_eq_true c25
                    clear c25
                    obtain rfl := Option.some.inj H
                    go_wp2
                    repeat (go_quiet (fail); try go_wp2)
                    go_ret
                    exact ⟨by first | rfl | (simp; done) | (simp [*]; done), by repeat (first | exact Drawn0.refl _ | apply Drawn0.step)⟩
                  · rw [if_neg c25] at H
                    have c25b0 : decide (3 ≤ x6_3) = false := decide_eq_false c25
                    clear c25
                    obtain rfl := Option.some.inj H
                    go_wp2
                    repeat (go_quiet (fail); try go_wp2)
                    go_ret
                    exact ⟨by first | rfl | (simp; done) | (simp [*]; done), by repeat (first | exact Drawn0.refl _ | apply Drawn0.step)⟩

/-! ### utf8_RuneStart: function 130 -/
def utf8_RuneStart.f (a0 : Int) : Option (Bool) := some ((Go.bits .and .u8 a0 192) != 128)
set_option maxHeartbeats 8000000 in
set_option maxRecDepth 100000 in
theorem utf8_RuneStart.calls (a0 : Int) (r : Bool) (w : World) (h : utf8_RuneStart.f a0 = some r) :
    Calls Tryz.prog 130 #[.int .u8 a0] w fun e w' => e = .returned (.bool r) ∧ Drawn0 w w' := by
  have H : (some ((Go.bits .and .u8 a0 192) != 128)) = some r := h
  clear h
  obtain rfl := Option.some.inj H
  go_enter Tryz.func130, Tryz.ntmps130
  go_wp2
  go_ret
  exact ⟨by first | rfl | (simp; done) | (simp [*]; done), by repeat (first | exact Drawn0.refl _ | apply Drawn0.step)⟩

-- NOT PRINTED: function 115 (utf8_DecodeLastRune)

-- NOT PRINTED: function 77 (escape_getPrevAsRune)

-- NOT PRINTED: function 78 (unicode_IsDigit)

end Go.Proofs.YtbkimfhlgpgoiaaGreatDoor.Ptested
