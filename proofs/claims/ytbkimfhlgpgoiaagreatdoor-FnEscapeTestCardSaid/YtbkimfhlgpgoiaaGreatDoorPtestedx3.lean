-- PRINTED BY print.sh 35421559b90ae4d0a3588c463048766b98c2df88dd9212a6774a882060cdf62d: not written by this session
import Derived.Test.YtbkimfhlgpgoiaaGreatDoorPtestedx0
namespace Go.Proofs.YtbkimfhlgpgoiaaGreatDoor.Ptested
open Go.RowKit Go.Proofs.YtbkimfhlgpgoiaaGreatDoorW.PrintWords Go.Proofs.YtbkimfhlgpgoiaaGreatDoorW.PrintLast Go.Proofs.YtbkimfhlgpgoiaaGreatDoorW.PrintMore
attribute [local go_sem] max2_int min2_int max_two min_two max_three min_three max_four min_four   -- for this text's walks alone
set_option linter.unusedVariables false
set_option linter.unusedSimpArgs false

/-! ### escape_IsSetextHeader: function 43 -/
mutual
def escape_IsSetextHeader.j0 : Nat → List Int → Int → Bool → Option (Int)
  | 0, _, _, _ => none
  | k + 1, x0, x1, x18 => if x18 = true then (some (-1)) else (escape_IsSetextHeader.l0 k x0 0 (wrap64 (x1 - 1)))
def escape_IsSetextHeader.l0 : Nat → List Int → Int → Int → Option (Int)
  | 0, _, _, _ => none
  | k + 1, x0, x5, x6 => if x6 ≥ 0 then (if 0 ≤ x6 then (if x6 < (x0.length : Int) then (if (rd x0 x6) = 7 then (escape_IsSetextHeader.j2 k x0 x5 x6 true) else (escape_IsSetextHeader.j2 k x0 x5 x6 ((rd x0 x6) == 32))) else (none)) else (none)) else (some (-1))
def escape_IsSetextHeader.j2 : Nat → List Int → Int → Int → Bool → Option (Int)
  | 0, _, _, _, _ => none
  | k + 1, x0, x5, x6, x36 => if x36 = true then (escape_IsSetextHeader.l0 k x0 x5 (wrap64 (x6 - 1))) else (if 0 ≤ x6 then (if x6 < (x0.length : Int) then (if (rd x0 x6) = 10 then (escape_IsSetextHeader.l0 k x0 (wrap64 (x5 + 1)) (wrap64 (x6 - 1))) else (if x5 = 0 then (some (-1)) else (if x5 = 1 then (some 1) else (some (-1))))) else (none)) else (none))
end
def escape_IsSetextHeader.f (k : Nat) (l0 : List Int) (a1 : Int) : Option (Int) := if 0 ≤ a1 then (if a1 < (l0.length : Int) then (if (rd l0 a1) = 61 then (escape_IsSetextHeader.j0 k l0 a1 false) else (escape_IsSetextHeader.j0 k l0 a1 ((rd l0 a1) != 45))) else (none)) else (none)
theorem escape_IsSetextHeader.mono_l : ∀ k, (∀ y0 y1 y2, LeO (escape_IsSetextHeader.j0 k y0 y1 y2) (escape_IsSetextHeader.j0 (k + 1) y0 y1 y2)) ∧ (∀ y0 y1 y2, LeO (escape_IsSetextHeader.l0 k y0 y1 y2) (escape_IsSetextHeader.l0 (k + 1) y0 y1 y2)) ∧ (∀ y0 y1 y2 y3, LeO (escape_IsSetextHeader.j2 k y0 y1 y2 y3) (escape_IsSetextHeader.j2 (k + 1) y0 y1 y2 y3))
  | 0 => ⟨fun _ _ _ r h => by simp [escape_IsSetextHeader.j0] at h, fun _ _ _ r h => by simp [escape_IsSetextHeader.l0] at h, fun _ _ _ _ r h => by simp [escape_IsSetextHeader.j2] at h⟩
  | k + 1 => by
    obtain ⟨ih0, ih1, ih2⟩ := escape_IsSetextHeader.mono_l k
    refine ⟨?_, ?_, ?_⟩
    · intro y0 y1 y2
      unfold escape_IsSetextHeader.j0
      repeat' first
      | (with_reducible exact ih0 _ _ _)
      | (with_reducible exact ih1 _ _ _)
      | (with_reducible exact ih2 _ _ _ _)
      | (with_reducible exact LeO.refl _)
      | (with_reducible exact LeO.none _)
      | (with_reducible refine LeO.ite ?_ ?_)
      | (with_reducible refine LeO.bind ?_ (fun _ => ?_))
      | exact ih0 _ _ _
      | exact ih1 _ _ _
      | exact ih2 _ _ _ _
      | exact LeO.none _
      | refine LeO.ite ?_ ?_
      | refine LeO.bind ?_ (fun _ => ?_)
    · intro y0 y1 y2
      unfold escape_IsSetextHeader.l0
      repeat' first
      | (with_reducible exact ih0 _ _ _)
      | (with_reducible exact ih1 _ _ _)
      | (with_reducible exact ih2 _ _ _ _)
      | (with_reducible exact LeO.refl _)
      | (with_reducible exact LeO.none _)
      | (with_reducible refine LeO.ite ?_ ?_)
      | (with_reducible refine LeO.bind ?_ (fun _ => ?_))
      | exact ih0 _ _ _
      | exact ih1 _ _ _
      | exact ih2 _ _ _ _
      | exact LeO.none _
      | refine LeO.ite ?_ ?_
      | refine LeO.bind ?_ (fun _ => ?_)
    · intro y0 y1 y2 y3
      unfold escape_IsSetextHeader.j2
      repeat' first
      | (with_reducible exact ih0 _ _ _)
      | (with_reducible exact ih1 _ _ _)
      | (with_reducible exact ih2 _ _ _ _)
      | (with_reducible exact LeO.refl _)
      | (with_reducible exact LeO.none _)
      | (with_reducible refine LeO.ite ?_ ?_)
      | (with_reducible refine LeO.bind ?_ (fun _ => ?_))
      | exact ih0 _ _ _
      | exact ih1 _ _ _
      | exact ih2 _ _ _ _
      | exact LeO.none _
      | refine LeO.ite ?_ ?_
      | refine LeO.bind ?_ (fun _ => ?_)
theorem escape_IsSetextHeader.mono : ∀ a0 a1 k, LeO (escape_IsSetextHeader.f k a0 a1) (escape_IsSetextHeader.f (k + 1) a0 a1) := by
  intro a0 a1 k
  obtain ⟨ih0, ih1, ih2⟩ := escape_IsSetextHeader.mono_l k
  unfold escape_IsSetextHeader.f
  repeat' first
      | (with_reducible exact ih0 _ _ _)
      | (with_reducible exact ih1 _ _ _)
      | (with_reducible exact ih2 _ _ _ _)
      | (with_reducible exact LeO.refl _)
      | (with_reducible exact LeO.none _)
      | (with_reducible refine LeO.ite ?_ ?_)
      | (with_reducible refine LeO.bind ?_ (fun _ => ?_))
      | exact ih0 _ _ _
      | exact ih1 _ _ _
      | exact ih2 _ _ _ _
      | exact LeO.none _
      | refine LeO.ite ?_ ?_
      | refine LeO.bind ?_ (fun _ => ?_)
set_option maxHeartbeats 8000000 in
set_option maxRecDepth 100000 in
theorem escape_IsSetextHeader.calls (k : Nat) (A0 : Option Addr) (c0 : Nat) (l0 : List Int) (a1 : Int) (r : Int) (w : World) (hr0 : Kd.C (Kd.int .u8) w A0 l0.length l0) (hc0 : l0.length ≤ c0) (h : escape_IsSetextHeader.f k l0 a1 = some r) :
    Calls Tryz.prog 43 #[.slice A0 l0.length c0, .int .i64 a1] w fun e w' => e = .returned (.int .i64 r) ∧ Drawn0 w w' := by
  have HR0 := Aside0.mk hr0
  have HC0 := Aside0.mk hc0
  clear hr0 hc0
  have H : (if 0 ≤ a1 then (if a1 < (l0.length : Int) then (if (rd l0 a1) = 61 then (escape_IsSetextHeader.j0 k l0 a1 false) else (escape_IsSetextHeader.j0 k l0 a1 ((rd l0 a1) != 45))) else (none)) else (none)) = some r := h
  clear h
  have HC3 := Aside0.mk H
  clear H
  go_enter Tryz.func43, Tryz.ntmps43
  go_upto_region 1 with (fail)
  go_cut [18] (fun v18 wc => ∃ (kq : Nat) (x18_2 : Bool), v18 = .bool x18_2 ∧ Aside0 (escape_IsSetextHeader.j0 kq l0 a1 x18_2 = some r) ∧ Aside0 (kq ≤ k) ∧ Drawn0 w wc)
  case first =>
    have H := HC3.out
    clear HC3
    by_cases c4 : 0 ≤ a1
    · rw [if_pos c4] at H
      have c4b0 : decide (0 ≤ a1) = true := decide_eq_true c4
      clear c4
      (first | rw [c4b0] | (simp only [i64_w, i32_w]; rw [c4b0]) | skip)
      by_cases c5 : a1 < (l0.length : Int)
      · rw [if_pos c5] at H
        have c5b0 : decide (a1 < (l0.length : Int)) = true := decide_eq_true c5
        clear c5
        by_cases c6 : (rd l0 a1) = 61
        · rw [if_pos c6] at H
          have c6b0 : ((rd l0 a1) == 61) = true := beq_iff_eq.mpr c6
          have c6b1 : ((rd l0 a1) != 61) = false := bne_eq_false_iff_eq.mpr c6
          clear c6
          have H' := Aside0.mk H
          clear H
          have p124 : 0 ≤ (a1 : Int) := of_decide_eq_true (by first | (with_reducible assumption) | assumption)
          have q124 : a1 < (l0.length : Int) := of_decide_eq_true (by first | (with_reducible assumption) | assumption)
          obtain ⟨ad124, e124, hx124_0⟩ := Kd.at_int HR0.out a1 p124 q124
          cases e124
          replace p124 := eq_true p124
          replace q124 := eq_true q124
          go_wp2
          go_meet
          case rel => exact ⟨_, (false), (by first | rfl | (simp; done) | (simp [*]; done)), H', ⟨by first | omega | exact Nat.le_refl _⟩, by repeat (first | exact Drawn0.refl _ | apply Drawn0.step)⟩
        · rw [if_neg c6] at H
          have c6b0 : ((rd l0 a1) == 61) = false := beq_eq_false_iff_ne.mpr c6
          have c6b1 : ((rd l0 a1) != 61) = true := bne_iff_ne.mpr c6
          have H' := Aside0.mk H
          clear H
          have p124 : 0 ≤ (a1 : Int) := of_decide_eq_true (by first | (with_reducible assumption) | assumption)
          have q124 : a1 < (l0.length : Int) := of_decide_eq_true (by first | (with_reducible assumption) | assumption)
          obtain ⟨ad124, e124, hx124_0⟩ := Kd.at_int HR0.out a1 p124 q124
          cases e124
          replace p124 := eq_true p124
          replace q124 := eq_true q124
          have p125 : 0 ≤ (a1 : Int) := of_decide_eq_true (by first | (with_reducible assumption) | assumption)
          have q125 : a1 < (l0.length : Int) := of_decide_eq_true (by first | (with_reducible assumption) | assumption)
          obtain ⟨ad125, e125, hx125_0⟩ := Kd.at_int HR0.out a1 p125 q125
          obtain rfl : ad124 = ad125 := (by injection e125)
          replace p125 := eq_true p125
          replace q125 := eq_true q125
          go_wp2
          go_meet
          case rel => exact ⟨_, (((rd l0 a1) != 45)), (by first | rfl | (simp; done) | (simp [*]; done)), H', ⟨by first | omega | exact Nat.le_refl _⟩, by repeat (first | exact Drawn0.refl _ | apply Drawn0.step)⟩
      · rw [if_neg c5] at H
        exact absurd H (by simp)
    · rw [if_neg c4] at H
      exact absurd H (by simp)
  case rest =>
    clear HC3
    try clear p1
    try clear q1
    try clear hx1
    try clear p2
    try clear c4
    try clear c4b0
    try clear c5
    try clear c5b0
    try clear c6
    try clear c6b0
    try clear c6b1
    try clear hx124_0
    try clear hx125_0
    try clear p124
    try clear p125
    try clear q124
    try clear q125
    obtain ⟨kq, x18_2, rfl, HA, HJ2, ⟨mc2, rfl⟩⟩ := hcut
    cases kq with
    | zero => exact absurd HA.out (by simp [escape_IsSetextHeader.j0])
    | succ kj2 =>
      have H := HA.out
      clear HA
      simp only [escape_IsSetextHeader.j0] at H
      by_cases c7 : x18_2 = true
      · subst c7
        have H1 : (some (-1)) = some r := by rw [if_pos rfl] at H; exact H
        clear H
        have H := H1
        clear H1
        obtain rfl := Option.some.inj H
        go_wp2
        go_ret
        exact ⟨by first | rfl | (simp; done) | (simp [*]; done), by repeat (first | exact Drawn0.refl _ | apply Drawn0.step)⟩
      · replace c7 := Bool.eq_false_iff.mpr c7
        subst c7
        have H1 : (escape_IsSetextHeader.l0 kj2 l0 0 (wrap64 (a1 - 1))) = some r := by rw [if_neg (show ¬ (false = true) by decide)] at H; exact H
        clear H
        have H := H1
        clear H1
        have H' := Aside0.mk H
        clear H
        go_wp2
        go_loopg [5, 6] kj2 (fun kq v5 v6 w' => ∃ (x5_2 : Int) (x6_2 : Int), v5 = .int .i64 x5_2 ∧ v6 = .int .i64 x6_2 ∧ Aside0 (escape_IsSetextHeader.l0 kq l0 x5_2 x6_2 = some r) ∧ Aside0 (kq ≤ kj2) ∧ Drawn0 w w')
        case atStart => exact ⟨(0), (wrap64 (a1 - 1)), (by first | rfl | (simp; done) | (simp [*]; done)), (by first | rfl | (simp; done) | (simp [*]; done)), H', ⟨Nat.le_refl _⟩, by repeat (first | exact Drawn0.refl _ | apply Drawn0.step)⟩
        case round =>
          clear H'
          try clear p1
          try clear q1
          try clear hx1
          try clear c2
          try clear p2
          try clear c4
          try clear c4b0
          try clear c5
          try clear c5b0
          try clear c6
          try clear c6b0
          try clear c6b1
          try clear p6
          try clear c7
          try clear hx124_0
          try clear hx125_0
          try clear p1
          try clear p124
          try clear p125
          try clear p2
          try clear q1
          try clear q124
          try clear q125
          obtain ⟨x5_2, x6_2, rfl, rfl, HA, HK2, ⟨m2, rfl⟩⟩ := hrel
          cases gk with
          | zero => exact absurd HA.out (by simp [escape_IsSetextHeader.l0])
          | succ k2 =>
            have H := HA.out
            clear HA
            simp only [escape_IsSetextHeader.l0] at H
            by_cases c8 : x6_2 ≥ 0
            · rw [if_pos c8] at H
              have c8b0 : decide (0 ≤ x6_2) = true := decide_eq_true c8
              clear c8
              have HC9 := Aside0.mk H
              clear H
              go_upto_region 7 with (fail)
              go_cut [36] (fun v36 wc => ∃ (kq : Nat) (x36_8 : Bool), v36 = .bool x36_8 ∧ Aside0 (escape_IsSetextHeader.j2 kq l0 x5_2 x6_2 x36_8 = some r) ∧ Aside0 (kq ≤ k2) ∧ Drawn0 w wc)
              case first =>
                have H := HC9.out
                clear HC9
                by_cases c10 : 0 ≤ x6_2
                · rw [if_pos c10] at H
                  have c10b0 : decide (0 ≤ x6_2) = true := decide_eq_true c10
                  clear c10
                  (first | rw [c10b0] | (simp only [i64_w, i32_w]; rw [c10b0]) | skip)
                  by_cases c11 : x6_2 < (l0.length : Int)
                  · rw [if_pos c11] at H
                    have c11b0 : decide (x6_2 < (l0.length : Int)) = true := decide_eq_true c11
                    clear c11
                    by_cases c12 : (rd l0 x6_2) = 7
                    · rw [if_pos c12] at H
                      have c12b0 : ((rd l0 x6_2) == 7) = true := beq_iff_eq.mpr c12
                      have c12b1 : ((rd l0 x6_2) != 7) = false := bne_eq_false_iff_eq.mpr c12
                      clear c12
                      have H' := Aside0.mk H
                      clear H
                      have p126 : 0 ≤ (x6_2 : Int) := of_decide_eq_true (by first | (with_reducible assumption) | assumption)
                      have q126 : x6_2 < (l0.length : Int) := of_decide_eq_true (by first | (with_reducible assumption) | assumption)
                      obtain ⟨ad126, e126, hx126_0⟩ := Kd.at_int HR0.out x6_2 p126 q126
                      cases e126
                      replace p126 := eq_true p126
                      replace q126 := eq_true q126
                      go_wp2
                      go_meet
                      case rel => exact ⟨_, (true), (by first | rfl | (simp; done) | (simp [*]; done)), H', ⟨by have := HJ2.out; have := HK2.out; first | omega | exact Nat.le_refl _⟩, by repeat (first | exact Drawn0.refl _ | apply Drawn0.step)⟩
                    · rw [if_neg c12] at H
                      have c12b0 : ((rd l0 x6_2) == 7) = false := beq_eq_false_iff_ne.mpr c12
                      have c12b1 : ((rd l0 x6_2) != 7) = true := bne_iff_ne.mpr c12
                      have H' := Aside0.mk H
                      clear H
                      have p126 : 0 ≤ (x6_2 : Int) := of_decide_eq_true (by first | (with_reducible assumption) | assumption)
                      have q126 : x6_2 < (l0.length : Int) := of_decide_eq_true (by first | (with_reducible assumption) | assumption)
                      obtain ⟨ad126, e126, hx126_0⟩ := Kd.at_int HR0.out x6_2 p126 q126
                      cases e126
                      replace p126 := eq_true p126
                      replace q126 := eq_true q126
                      have p127 : 0 ≤ (x6_2 : Int) := of_decide_eq_true (by first | (with_reducible assumption) | assumption)
                      have q127 : x6_2 < (l0.length : Int) := of_decide_eq_true (by first | (with_reducible assumption) | assumption)
                      obtain ⟨ad127, e127, hx127_0⟩ := Kd.at_int HR0.out x6_2 p127 q127
                      obtain rfl : ad126 = ad127 := (by injection e127)
                      replace p127 := eq_true p127
                      replace q127 := eq_true q127
                      go_wp2
                      go_meet
                      case rel => exact ⟨_, (((rd l0 x6_2) == 32)), (by first | rfl | (simp; done) | (simp [*]; done)), H', ⟨by have := HJ2.out; have := HK2.out; first | omega | exact Nat.le_refl _⟩, by repeat (first | exact Drawn0.refl _ | apply Drawn0.step)⟩
                  · rw [if_neg c11] at H
                    exact absurd H (by simp)
                · rw [if_neg c10] at H
                  exact absurd H (by simp)
              case rest =>
                clear HC9
                try clear c1
                try clear p1
                try clear q1
                try clear hx1
                try clear c2
                try clear p2
                try clear c4
                try clear c4b0
                try clear c5
                try clear c5b0
                try clear c6
                try clear c6b0
                try clear c6b1
                try clear p6
                try clear c7
                try clear c8
                try clear c8b0
                try clear c10
                try clear c10b0
                try clear c11
                try clear c11b0
                try clear c12
                try clear c12b0
                try clear c12b1
                try clear p12
                try clear q12
                try clear hx12
                try clear hx124_0
                try clear hx125_0
                try clear hx126_0
                try clear hx127_0
                try clear p1
                try clear p124
                try clear p125
                try clear p126
                try clear p127
                try clear p2
                try clear p6
                try clear q1
                try clear q124
                try clear q125
                try clear q126
                try clear q127
                obtain ⟨kq, x36_8, rfl, HA, HJ8, ⟨mc8, rfl⟩⟩ := hcut
                cases kq with
                | zero => exact absurd HA.out (by simp [escape_IsSetextHeader.j2])
                | succ kj8 =>
                  have H := HA.out
                  clear HA
                  simp only [escape_IsSetextHeader.j2] at H
                  by_cases c13 : x36_8 = true
                  · subst c13
                    have H1 : (escape_IsSetextHeader.l0 kj8 l0 x5_2 (wrap64 (x6_2 - 1))) = some r := by rw [if_pos rfl] at H; exact H
                    clear H
                    have H := H1
                    clear H1
                    have H' := Aside0.mk H
                    clear H
                    go_wp2
                    go_roundg kj8
                    case measure => have := HJ2.out; have := HK2.out; have := HJ8.out; omega
                    case rel => exact ⟨(x5_2), (wrap64 (x6_2 - 1)), (by first | rfl | (simp; done) | (simp [*]; done)), (by first | rfl | (simp; done) | (simp [*]; done)), H', ⟨by have := HJ2.out; have := HK2.out; have := HJ8.out; omega⟩, by repeat (first | exact Drawn0.refl _ | apply Drawn0.step)⟩
                  · replace c13 := Bool.eq_false_iff.mpr c13
                    subst c13
                    have H1 : (if 0 ≤ x6_2 then (if x6_2 < (l0.length : Int) then (if (rd l0 x6_2) = 10 then (escape_IsSetextHeader.l0 kj8 l0 (wrap64 (x5_2 + 1)) (wrap64 (x6_2 - 1))) else (if x5_2 = 0 then (some (-1)) else (if x5_2 = 1 then (some 1) else (some (-1))))) else (none)) else (none)) = some r := by rw [if_neg (show ¬ (false = true) by decide)] at H; exact H
                    clear H
                    have H := H1
                    clear H1
                    by_cases c14 : 0 ≤ x6_2
                    · rw [if_pos c14] at H
                      have c14b0 : decide (0 ≤ x6_2) = true := decide_eq_true c14
                      clear c14
                      by_cases c15 : x6_2 < (l0.length : Int)
                      · rw [if_pos c15] at H
                        have c15b0 : decide (x6_2 < (l0.length : Int)) = true := decide_eq_true c15
                        clear c15
                        by_cases c16 : (rd l0 x6_2) = 10
                        · rw [if_pos c16] at H
                          have c16b0 : ((rd l0 x6_2) == 10) = true := beq_iff_eq.mpr c16
                          have c16b1 : ((rd l0 x6_2) != 10) = false := bne_eq_false_iff_eq.mpr c16
                          clear c16
                          have H' := Aside0.mk H
                          clear H
                          have p128 : 0 ≤ (x6_2 : Int) := of_decide_eq_true (by first | (with_reducible assumption) | assumption)
                          have q128 : x6_2 < (l0.length : Int) := of_decide_eq_true (by first | (with_reducible assumption) | assumption)
                          obtain ⟨ad128, e128, hx128_0⟩ := Kd.at_int HR0.out x6_2 p128 q128
                          cases e128
                          replace p128 := eq_true p128
                          replace q128 := eq_true q128
                          go_wp2
                          go_roundg kj8
                          case measure => have := HJ2.out; have := HK2.out; have := HJ8.out; omega
                          case rel => exact ⟨(wrap64 (x5_2 + 1)), (wrap64 (x6_2 - 1)), (by first | rfl | (simp; done) | (simp [*]; done)), (by first | rfl | (simp; done) | (simp [*]; done)), H', ⟨by have := HJ2.out; have := HK2.out; have := HJ8.out; omega⟩, by repeat (first | exact Drawn0.refl _ | apply Drawn0.step)⟩
                        · rw [if_neg c16] at H
                          have c16b0 : ((rd l0 x6_2) == 10) = false := beq_eq_false_iff_ne.mpr c16
                          have c16b1 : ((rd l0 x6_2) != 10) = true := bne_iff_ne.mpr c16
                          by_cases c17 : x5_2 = 0
                          · rw [if_pos c17] at H
                            have c17b0 : (x5_2 == 0) = true := beq_iff_eq.mpr c17
                            have c17b1 : (x5_2 != 0) = false := bne_eq_false_iff_eq.mpr c17
                            clear c17
                            obtain rfl := Option.some.inj H
                            have p128 : 0 ≤ (x6_2 : Int) := of_decide_eq_true (by first | (with_reducible assumption) | assumption)
                            have q128 : x6_2 < (l0.length : Int) := of_decide_eq_true (by first | (with_reducible assumption) | assumption)
                            obtain ⟨ad128, e128, hx128_0⟩ := Kd.at_int HR0.out x6_2 p128 q128
                            cases e128
                            replace p128 := eq_true p128
                            replace q128 := eq_true q128
                            go_wp2
                            go_ret
                            exact ⟨by first | rfl | (simp; done) | (simp [*]; done), by repeat (first | exact Drawn0.refl _ | apply Drawn0.step)⟩
                          · rw [if_neg c17] at H
                            have c17b0 : (x5_2 == 0) = false := beq_eq_false_iff_ne.mpr c17
                            have c17b1 : (x5_2 != 0) = true := bne_iff_ne.mpr c17
                            by_cases c18 : x5_2 = 1
                            · rw [if_pos c18] at H
                              have c18b0 : (x5_2 == 1) = true := beq_iff_eq.mpr c18
                              have c18b1 : (x5_2 != 1) = false := bne_eq_false_iff_eq.mpr c18
                              clear c18
                              obtain rfl := Option.some.inj H
                              have p128 : 0 ≤ (x6_2 : Int) := of_decide_eq_true (by first | (with_reducible assumption) | assumption)
                              have q128 : x6_2 < (l0.length : Int) := of_decide_eq_true (by first | (with_reducible assumption) | assumption)
                              obtain ⟨ad128, e128, hx128_0⟩ := Kd.at_int HR0.out x6_2 p128 q128
                              cases e128
                              replace p128 := eq_true p128
                              replace q128 := eq_true q128
                              go_wp2
                              go_ret
                              exact ⟨by first | rfl | (simp; done) | (simp [*]; done), by repeat (first | exact Drawn0.refl _ | apply Drawn0.step)⟩
                            · rw [if_neg c18] at H
                              have c18b0 : (x5_2 == 1) = false := beq_eq_false_iff_ne.mpr c18
                              have c18b1 : (x5_2 != 1) = true := bne_iff_ne.mpr c18
                              obtain rfl := Option.some.inj H
                              have p128 : 0 ≤ (x6_2 : Int) := of_decide_eq_true (by first | (with_reducible assumption) | assumption)
                              have q128 : x6_2 < (l0.length : Int) := of_decide_eq_true (by first | (with_reducible assumption) | assumption)
                              obtain ⟨ad128, e128, hx128_0⟩ := Kd.at_int HR0.out x6_2 p128 q128
                              cases e128
                              replace p128 := eq_true p128
                              replace q128 := eq_true q128
                              go_wp2
                              go_ret
                              exact ⟨by first | rfl | (simp; done) | (simp [*]; done), by repeat (first | exact Drawn0.refl _ | apply Drawn0.step)⟩
                      · rw [if_neg c15] at H
                        exact absurd H (by simp)
                    · rw [if_neg c14] at H
                      exact absurd H (by simp)
            · rw [if_neg c8] at H
              have c8b0 : decide (0 ≤ x6_2) = false := decide_eq_false c8
              clear c8
              obtain rfl := Option.some.inj H
              go_wp2
              go_ret
              exact ⟨by first | rfl | (simp; done) | (simp [*]; done), by repeat (first | exact Drawn0.refl _ | apply Drawn0.step)⟩

end Go.Proofs.YtbkimfhlgpgoiaaGreatDoor.Ptested
