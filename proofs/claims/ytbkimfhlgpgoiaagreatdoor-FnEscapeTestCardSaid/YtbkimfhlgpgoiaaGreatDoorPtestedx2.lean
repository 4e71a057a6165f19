-- PRINTED BY print.sh 35421559b90ae4d0a3588c463048766b98c2df88dd9212a6774a882060cdf62d: not written by this session
import Derived.Test.YtbkimfhlgpgoiaaGreatDoorPtestedx0
namespace Go.Proofs.YtbkimfhlgpgoiaaGreatDoor.Ptested
open Go.RowKit Go.Proofs.YtbkimfhlgpgoiaaGreatDoorW.PrintWords Go.Proofs.YtbkimfhlgpgoiaaGreatDoorW.PrintLast Go.Proofs.YtbkimfhlgpgoiaaGreatDoorW.PrintMore
attribute [local go_sem] max2_int min2_int max_two min_two max_three min_three max_four min_four   -- for this text's walks alone
set_option linter.unusedVariables false
set_option linter.unusedSimpArgs false

/-! ### escape_IsAtxHeader: function 42 -/
mutual
def escape_IsAtxHeader.j1 : Nat → List Int → Int → Option (Int)
  | 0, _, _ => none
  | k + 1, x0, x1 => escape_IsAtxHeader.l1 k x0 x1 1 (wrap64 (x1 + 1))
def escape_IsAtxHeader.l1 : Nat → List Int → Int → Int → Int → Option (Int)
  | 0, _, _, _, _ => none
  | k + 1, x0, x1, x6, x7 => if x7 < (x0.length : Int) then (if 0 ≤ x7 then (if (rd x0 x7) = 35 then (if (wrap64 (x6 + 1)) > 6 then (some (-1)) else (escape_IsAtxHeader.l1 k x0 x1 (wrap64 (x6 + 1)) (wrap64 (x7 + 1)))) else (if (rd x0 x7) = 7 then (escape_IsAtxHeader.l1 k x0 x1 x6 (wrap64 (x7 + 1))) else (if (rd x0 x7) = 32 then (some (wrap64 (x7 - x1))) else (if (rd x0 x7) = 9 then (some (wrap64 (x7 - x1))) else (if (rd x0 x7) = 10 then (some (wrap64 (x7 - x1))) else (if (rd x0 x7) = 13 then (some (wrap64 (x7 - x1))) else (some (-1)))))))) else (none)) else (some 1)
def escape_IsAtxHeader.l0 : Nat → List Int → Int → Int → Option (Int)
  | 0, _, _, _ => none
  | k + 1, x0, x1, x5 => if x5 ≥ 0 then (if 0 ≤ x5 then (if x5 < (x0.length : Int) then (if (rd x0 x5) = 10 then (escape_IsAtxHeader.j1 k x0 x1) else (if (rd x0 x5) = 7 then (escape_IsAtxHeader.l0 k x0 x1 (wrap64 (x5 - 1))) else (if (rd x0 x5) = 32 then (escape_IsAtxHeader.l0 k x0 x1 (wrap64 (x5 - 1))) else (some (-1))))) else (none)) else (none)) else (escape_IsAtxHeader.j1 k x0 x1)
end
def escape_IsAtxHeader.f (k : Nat) (l0 : List Int) (a1 : Int) : Option (Int) := if 0 ≤ a1 then (if a1 < (l0.length : Int) then (if (rd l0 a1) = 35 then (escape_IsAtxHeader.l0 k l0 a1 (wrap64 (a1 - 1))) else (some (-1))) else (none)) else (none)
theorem escape_IsAtxHeader.mono_l : ∀ k, (∀ y0 y1, LeO (escape_IsAtxHeader.j1 k y0 y1) (escape_IsAtxHeader.j1 (k + 1) y0 y1)) ∧ (∀ y0 y1 y2 y3, LeO (escape_IsAtxHeader.l1 k y0 y1 y2 y3) (escape_IsAtxHeader.l1 (k + 1) y0 y1 y2 y3)) ∧ (∀ y0 y1 y2, LeO (escape_IsAtxHeader.l0 k y0 y1 y2) (escape_IsAtxHeader.l0 (k + 1) y0 y1 y2))
  | 0 => ⟨fun _ _ r h => by simp [escape_IsAtxHeader.j1] at h, fun _ _ _ _ r h => by simp [escape_IsAtxHeader.l1] at h, fun _ _ _ r h => by simp [escape_IsAtxHeader.l0] at h⟩
  | k + 1 => by
    obtain ⟨ih0, ih1, ih2⟩ := escape_IsAtxHeader.mono_l k
    refine ⟨?_, ?_, ?_⟩
    · intro y0 y1
      unfold escape_IsAtxHeader.j1
      repeat' first
      | (with_reducible exact ih0 _ _)
      | (with_reducible exact ih1 _ _ _ _)
      | (with_reducible exact ih2 _ _ _)
      | (with_reducible exact LeO.refl _)
      | (with_reducible exact LeO.none _)
      | (with_reducible refine LeO.ite ?_ ?_)
      | (with_reducible refine LeO.bind ?_ (fun _ => ?_))
      | exact ih0 _ _
      | exact ih1 _ _ _ _
      | exact ih2 _ _ _
      | exact LeO.none _
      | refine LeO.ite ?_ ?_
      | refine LeO.bind ?_ (fun _ => ?_)
    · intro y0 y1 y2 y3
      unfold escape_IsAtxHeader.l1
      repeat' first
      | (with_reducible exact ih0 _ _)
      | (with_reducible exact ih1 _ _ _ _)
      | (with_reducible exact ih2 _ _ _)
      | (with_reducible exact LeO.refl _)
      | (with_reducible exact LeO.none _)
      | (with_reducible refine LeO.ite ?_ ?_)
      | (with_reducible refine LeO.bind ?_ (fun _ => ?_))
      | exact ih0 _ _
      | exact ih1 _ _ _ _
      | exact ih2 _ _ _
      | exact LeO.none _
      | refine LeO.ite ?_ ?_
      | refine LeO.bind ?_ (fun _ => ?_)
    · intro y0 y1 y2
      unfold escape_IsAtxHeader.l0
      repeat' first
      | (with_reducible exact ih0 _ _)
      | (with_reducible exact ih1 _ _ _ _)
      | (with_reducible exact ih2 _ _ _)
      | (with_reducible exact LeO.refl _)
      | (with_reducible exact LeO.none _)
      | (with_reducible refine LeO.ite ?_ ?_)
      | (with_reducible refine LeO.bind ?_ (fun _ => ?_))
      | exact ih0 _ _
      | exact ih1 _ _ _ _
      | exact ih2 _ _ _
      | exact LeO.none _
      | refine LeO.ite ?_ ?_
      | refine LeO.bind ?_ (fun _ => ?_)
theorem escape_IsAtxHeader.mono : ∀ a0 a1 k, LeO (escape_IsAtxHeader.f k a0 a1) (escape_IsAtxHeader.f (k + 1) a0 a1) := by
  intro a0 a1 k
  obtain ⟨ih0, ih1, ih2⟩ := escape_IsAtxHeader.mono_l k
  unfold escape_IsAtxHeader.f
  repeat' first
      | (with_reducible exact ih0 _ _)
      | (with_reducible exact ih1 _ _ _ _)
      | (with_reducible exact ih2 _ _ _)
      | (with_reducible exact LeO.refl _)
      | (with_reducible exact LeO.none _)
      | (with_reducible refine LeO.ite ?_ ?_)
      | (with_reducible refine LeO.bind ?_ (fun _ => ?_))
      | exact ih0 _ _
      | exact ih1 _ _ _ _
      | exact ih2 _ _ _
      | exact LeO.none _
      | refine LeO.ite ?_ ?_
      | refine LeO.bind ?_ (fun _ => ?_)
set_option maxHeartbeats 8000000 in
set_option maxRecDepth 100000 in
theorem escape_IsAtxHeader.calls (k : Nat) (A0 : Option Addr) (c0 : Nat) (l0 : List Int) (a1 : Int) (r : Int) (w : World) (hr0 : Kd.C (Kd.int .u8) w A0 l0.length l0) (hc0 : l0.length ≤ c0) (h : escape_IsAtxHeader.f k l0 a1 = some r) :
    Calls Tryz.prog 42 #[.slice A0 l0.length c0, .int .i64 a1] w fun e w' => e = .returned (.int .i64 r) ∧ Drawn0 w w' := by
  have HR0 := Aside0.mk hr0
  have HC0 := Aside0.mk hc0
  clear hr0 hc0
  have H : (if 0 ≤ a1 then (if a1 < (l0.length : Int) then (if (rd l0 a1) = 35 then (escape_IsAtxHeader.l0 k l0 a1 (wrap64 (a1 - 1))) else (some (-1))) else (none)) else (none)) = some r := h
  clear h
  by_cases c3 : 0 ≤ a1
  · rw [if_pos c3] at H
    have c3b0 : decide (0 ≤ a1) = true := decide_eq_true c3
    clear c3
    by_cases c4 : a1 < (l0.length : Int)
    · rw [if_pos c4] at H
      have c4b0 : decide (a1 < (l0.length : Int)) = true := decide_eq_true c4
      clear c4
      by_cases c5 : (rd l0 a1) = 35
      · rw [if_pos c5] at H
        have c5b0 : ((rd l0 a1) == 35) = true := beq_iff_eq.mpr c5
        have c5b1 : ((rd l0 a1) != 35) = false := bne_eq_false_iff_eq.mpr c5
        clear c5
        have HC6 := Aside0.mk H
        clear H
        have p114 : 0 ≤ (a1 : Int) := of_decide_eq_true (by first | (with_reducible assumption) | assumption)
        have q114 : a1 < (l0.length : Int) := of_decide_eq_true (by first | (with_reducible assumption) | assumption)
        obtain ⟨ad114, e114, hx114_0⟩ := Kd.at_int HR0.out a1 p114 q114
        cases e114
        replace p114 := eq_true p114
        replace q114 := eq_true q114
        go_enter Tryz.func42, Tryz.ntmps42
        go_upto_block 0 with (fail)
        go_cut [] (fun wc => ∃ (kq : Nat), Aside0 (escape_IsAtxHeader.j1 kq l0 a1 = some r) ∧ Aside0 (kq ≤ k) ∧ Drawn0 w wc)
        case first =>
          have H := HC6.out
          clear HC6
          have H' := Aside0.mk H
          clear H
          go_wp2
          go_loopg [5] k (fun kq v5 w' => ∃ (x5_1 : Int), v5 = .int .i64 x5_1 ∧ Aside0 (escape_IsAtxHeader.l0 kq l0 a1 x5_1 = some r) ∧ Aside0 (kq ≤ k) ∧ Drawn0 w w')
          case atStart => exact ⟨(wrap64 (a1 - 1)), (by first | rfl | (simp; done) | (simp [*]; done)), H', ⟨Nat.le_refl _⟩, by repeat (first | exact Drawn0.refl _ | apply Drawn0.step)⟩
          case round =>
            clear H'
            try clear p1
            try clear q1
            try clear hx1
            try clear p2
            try clear c3
            try clear c3b0
            try clear c4
            try clear c4b0
            try clear c5
            try clear c5b0
            try clear c5b1
            try clear p6
            try clear hx114_0
            try clear p114
            try clear q114
            obtain ⟨x5_1, rfl, HA, HK1, ⟨m1, rfl⟩⟩ := hrel
            cases gk with
            | zero => exact absurd HA.out (by simp [escape_IsAtxHeader.l0])
            | succ k1 =>
              have H := HA.out
              clear HA
              simp only [escape_IsAtxHeader.l0] at H
              by_cases c7 : x5_1 ≥ 0
              · rw [if_pos c7] at H
                have c7b0 : decide (0 ≤ x5_1) = true := decide_eq_true c7
                clear c7
                (first | rw [c7b0] | (simp only [i64_w, i32_w]; rw [c7b0]) | skip)
                by_cases c8 : 0 ≤ x5_1
                · rw [if_pos c8] at H
                  have c8b0 : decide (0 ≤ x5_1) = true := decide_eq_true c8
                  clear c8
                  by_cases c9 : x5_1 < (l0.length : Int)
                  · rw [if_pos c9] at H
                    have c9b0 : decide (x5_1 < (l0.length : Int)) = true := decide_eq_true c9
                    clear c9
                    by_cases c10 : (rd l0 x5_1) = 10
                    · rw [if_pos c10] at H
                      have c10b0 : ((rd l0 x5_1) == 10) = true := beq_iff_eq.mpr c10
                      have c10b1 : ((rd l0 x5_1) != 10) = false := bne_eq_false_iff_eq.mpr c10
                      clear c10
                      have H' := Aside0.mk H
                      clear H
                      have p115 : 0 ≤ (x5_1 : Int) := of_decide_eq_true (by first | (with_reducible assumption) | assumption)
                      have q115 : x5_1 < (l0.length : Int) := of_decide_eq_true (by first | (with_reducible assumption) | assumption)
                      obtain ⟨ad115, e115, hx115_0⟩ := Kd.at_int HR0.out x5_1 p115 q115
                      obtain rfl : ad114 = ad115 := (by injection e115)
                      replace p115 := eq_true p115
                      replace q115 := eq_true q115
                      go_wp2
                      go_meet
                      case rel => exact ⟨_, H', ⟨by have := HK1.out; first | omega | exact Nat.le_refl _⟩, by repeat (first | exact Drawn0.refl _ | apply Drawn0.step)⟩
                    · rw [if_neg c10] at H
                      have c10b0 : ((rd l0 x5_1) == 10) = false := beq_eq_false_iff_ne.mpr c10
                      have c10b1 : ((rd l0 x5_1) != 10) = true := bne_iff_ne.mpr c10
                      by_cases c11 : (rd l0 x5_1) = 7
                      · rw [if_pos c11] at H
                        have c11b0 : ((rd l0 x5_1) == 7) = true := beq_iff_eq.mpr c11
                        have c11b1 : ((rd l0 x5_1) != 7) = false := bne_eq_false_iff_eq.mpr c11
                        clear c11
                        have H' := Aside0.mk H
                        clear H
                        have p115 : 0 ≤ (x5_1 : Int) := of_decide_eq_true (by first | (with_reducible assumption) | assumption)
                        have q115 : x5_1 < (l0.length : Int) := of_decide_eq_true (by first | (with_reducible assumption) | assumption)
                        obtain ⟨ad115, e115, hx115_0⟩ := Kd.at_int HR0.out x5_1 p115 q115
                        obtain rfl : ad114 = ad115 := (by injection e115)
                        replace p115 := eq_true p115
                        replace q115 := eq_true q115
                        have p116 : 0 ≤ (x5_1 : Int) := of_decide_eq_true (by first | (with_reducible assumption) | assumption)
                        have q116 : x5_1 < (l0.length : Int) := of_decide_eq_true (by first | (with_reducible assumption) | assumption)
                        obtain ⟨ad116, e116, hx116_0⟩ := Kd.at_int HR0.out x5_1 p116 q116
                        obtain rfl : ad114 = ad116 := (by injection e116)
                        replace p116 := eq_true p116
                        replace q116 := eq_true q116
                        go_wp2
                        go_roundg k1
                        case measure => have := HK1.out; omega
                        case rel => exact ⟨(wrap64 (x5_1 - 1)), (by first | rfl | (simp; done) | (simp [*]; done)), H', ⟨by have := HK1.out; omega⟩, by repeat (first | exact Drawn0.refl _ | apply Drawn0.step)⟩
                      · rw [if_neg c11] at H
                        have c11b0 : ((rd l0 x5_1) == 7) = false := beq_eq_false_iff_ne.mpr c11
                        have c11b1 : ((rd l0 x5_1) != 7) = true := bne_iff_ne.mpr c11
                        by_cases c12 : (rd l0 x5_1) = 32
                        · rw [if_pos c12] at H
                          have c12b0 : ((rd l0 x5_1) == 32) = true := beq_iff_eq.mpr c12
                          have c12b1 : ((rd l0 x5_1) != 32) = false := bne_eq_false_iff_eq.mpr c12
                          clear c12
                          have H' := Aside0.mk H
                          clear H
                          have p115 : 0 ≤ (x5_1 : Int) := of_decide_eq_true (by first | (with_reducible assumption) | assumption)
                          have q115 : x5_1 < (l0.length : Int) := of_decide_eq_true (by first | (with_reducible assumption) | assumption)
                          obtain ⟨ad115, e115, hx115_0⟩ := Kd.at_int HR0.out x5_1 p115 q115
                          obtain rfl : ad114 = ad115 := (by injection e115)
                          replace p115 := eq_true p115
                          replace q115 := eq_true q115
                          have p116 : 0 ≤ (x5_1 : Int) := of_decide_eq_true (by first | (with_reducible assumption) | assumption)
                          have q116 : x5_1 < (l0.length : Int) := of_decide_eq_true (by first | (with_reducible assumption) | assumption)
                          obtain ⟨ad116, e116, hx116_0⟩ := Kd.at_int HR0.out x5_1 p116 q116
                          obtain rfl : ad114 = ad116 := (by injection e116)
                          replace p116 := eq_true p116
                          replace q116 := eq_true q116
                          have p117 : 0 ≤ (x5_1 : Int) := of_decide_eq_true (by first | (with_reducible assumption) | assumption)
                          have q117 : x5_1 < (l0.length : Int) := of_decide_eq_true (by first | (with_reducible assumption) | assumption)
                          obtain ⟨ad117, e117, hx117_0⟩ := Kd.at_int HR0.out x5_1 p117 q117
                          obtain rfl : ad114 = ad117 := (by injection e117)
                          replace p117 := eq_true p117
                          replace q117 := eq_true q117
                          go_wp2
                          go_roundg k1
                          case measure => have := HK1.out; omega
                          case rel => exact ⟨(wrap64 (x5_1 - 1)), (by first | rfl | (simp; done) | (simp [*]; done)), H', ⟨by have := HK1.out; omega⟩, by repeat (first | exact Drawn0.refl _ | apply Drawn0.step)⟩
                        · rw [if_neg c12] at H
                          have c12b0 : ((rd l0 x5_1) == 32) = false := beq_eq_false_iff_ne.mpr c12
                          have c12b1 : ((rd l0 x5_1) != 32) = true := bne_iff_ne.mpr c12
                          obtain rfl := Option.some.inj H
                          have p115 : 0 ≤ (x5_1 : Int) := of_decide_eq_true (by first | (with_reducible assumption) | assumption)
                          have q115 : x5_1 < (l0.length : Int) := of_decide_eq_true (by first | (with_reducible assumption) | assumption)
                          obtain ⟨ad115, e115, hx115_0⟩ := Kd.at_int HR0.out x5_1 p115 q115
                          obtain rfl : ad114 = ad115 := (by injection e115)
                          replace p115 := eq_true p115
                          replace q115 := eq_true q115
                          have p116 : 0 ≤ (x5_1 : Int) := of_decide_eq_true (by first | (with_reducible assumption) | assumption)
                          have q116 : x5_1 < (l0.length : Int) := of_decide_eq_true (by first | (with_reducible assumption) | assumption)
                          obtain ⟨ad116, e116, hx116_0⟩ := Kd.at_int HR0.out x5_1 p116 q116
                          obtain rfl : ad114 = ad116 := (by injection e116)
                          replace p116 := eq_true p116
                          replace q116 := eq_true q116
                          have p117 : 0 ≤ (x5_1 : Int) := of_decide_eq_true (by first | (with_reducible assumption) | assumption)
                          have q117 : x5_1 < (l0.length : Int) := of_decide_eq_true (by first | (with_reducible assumption) | assumption)
                          obtain ⟨ad117, e117, hx117_0⟩ := Kd.at_int HR0.out x5_1 p117 q117
                          obtain rfl : ad114 = ad117 := (by injection e117)
                          replace p117 := eq_true p117
                          replace q117 := eq_true q117
                          go_wp2
                          go_ret
                          exact ⟨by first | rfl | (simp; done) | (simp [*]; done), by repeat (first | exact Drawn0.refl _ | apply Drawn0.step)⟩
                  · rw [if_neg c9] at H
                    exact absurd H (by simp)
                · rw [if_neg c8] at H
                  exact absurd H (by simp)
              · rw [if_neg c7] at H
                have c7b0 : decide (0 ≤ x5_1) = false := decide_eq_false c7
                clear c7
                (first | rw [c7b0] | (simp only [i64_w, i32_w]; rw [c7b0]) | skip)
                have H' := Aside0.mk H
                clear H
                go_wp2
                go_meet
                case rel => exact ⟨_, H', ⟨by have := HK1.out; first | omega | exact Nat.le_refl _⟩, by repeat (first | exact Drawn0.refl _ | apply Drawn0.step)⟩
        case rest =>
          clear HC6
          try clear c1
          try clear p1
          try clear q1
          try clear hx1
          try clear p2
          try clear c3
          try clear c3b0
          try clear c4
          try clear c4b0
          try clear c5
          try clear c5b0
          try clear c5b1
          try clear p6
          try clear c7
          try clear c7b0
          try clear c8
          try clear c8b0
          try clear c9
          try clear c9b0
          try clear c10
          try clear c10b0
          try clear c10b1
          try clear c11
          try clear c11b0
          try clear c11b1
          try clear p11
          try clear q11
          try clear hx11
          try clear c12
          try clear c12b0
          try clear c12b1
          try clear hx114_0
          try clear hx115_0
          try clear hx116_0
          try clear hx117_0
          try clear p1
          try clear p114
          try clear p115
          try clear p116
          try clear p117
          try clear p2
          try clear p6
          try clear q1
          try clear q114
          try clear q115
          try clear q116
          try clear q117
          obtain ⟨kq, HA, HJ5, ⟨mc5, rfl⟩⟩ := hcut
          cases kq with
          | zero => exact absurd HA.out (by simp [escape_IsAtxHeader.j1])
          | succ kj5 =>
            have H := HA.out
            clear HA
            simp only [escape_IsAtxHeader.j1] at H
            have H' := Aside0.mk H
            clear H
            go_wp2
            go_loopg [6, 7] kj5 (fun kq v6 v7 w' => ∃ (x6_2 : Int) (x7_2 : Int), v6 = .int .i64 x6_2 ∧ v7 = .int .i64 x7_2 ∧ Aside0 (escape_IsAtxHeader.l1 kq l0 a1 x6_2 x7_2 = some r) ∧ Aside0 (kq ≤ kj5) ∧ Drawn0 w w')
            case atStart => exact ⟨(1), (wrap64 (a1 + 1)), (by first | rfl | (simp; done) | (simp [*]; done)), (by first | rfl | (simp; done) | (simp [*]; done)), H', ⟨Nat.le_refl _⟩, by repeat (first | exact Drawn0.refl _ | apply Drawn0.step)⟩
            case round =>
              clear H'
              try clear c1
              try clear p1
              try clear q1
              try clear hx1
              try clear p2
              try clear c3
              try clear c3b0
              try clear c4
              try clear c4b0
              try clear c5
              try clear c5b0
              try clear c5b1
              try clear p6
              try clear c7
              try clear c7b0
              try clear c8
              try clear c8b0
              try clear c9
              try clear c9b0
              try clear c10
              try clear c10b0
              try clear c10b1
              try clear c11
              try clear c11b0
              try clear c11b1
              try clear p11
              try clear q11
              try clear hx11
              try clear c12
              try clear c12b0
              try clear c12b1
              try clear hx114_0
              try clear hx115_0
              try clear hx116_0
              try clear hx117_0
              try clear p1
              try clear p11
              try clear p114
              try clear p115
              try clear p116
              try clear p117
              try clear p2
              try clear p6
              try clear q1
              try clear q11
              try clear q114
              try clear q115
              try clear q116
              try clear q117
              obtain ⟨x6_2, x7_2, rfl, rfl, HA, HK2, ⟨m2, rfl⟩⟩ := hrel
              cases gk with
              | zero => exact absurd HA.out (by simp [escape_IsAtxHeader.l1])
              | succ k2 =>
                have H := HA.out
                clear HA
                simp only [escape_IsAtxHeader.l1] at H
                by_cases c13 : x7_2 < (l0.length : Int)
                · rw [if_pos c13] at H
                  have c13b0 : decide (x7_2 < (l0.length : Int)) = true := decide_eq_true c13
                  clear c13
                  by_cases c14 : 0 ≤ x7_2
                  · rw [if_pos c14] at H
                    have c14b0 : decide (0 ≤ x7_2) = true := decide_eq_true c14
                    clear c14
                    by_cases c15 : (rd l0 x7_2) = 35
                    · rw [if_pos c15] at H
                      have c15b0 : ((rd l0 x7_2) == 35) = true := beq_iff_eq.mpr c15
                      have c15b1 : ((rd l0 x7_2) != 35) = false := bne_eq_false_iff_eq.mpr c15
                      clear c15
                      by_cases c16 : (wrap64 (x6_2 + 1)) > 6
                      · rw [if_pos c16] at H
                        have c16b0 : decide (6 < (wrap64 (x6_2 + 1))) = true := decide_eq_true c16
                        clear c16
                        obtain rfl := Option.some.inj H
                        have p118 : 0 ≤ (x7_2 : Int) := of_decide_eq_true (by first | (with_reducible assumption) | assumption)
                        have q118 : x7_2 < (l0.length : Int) := of_decide_eq_true (by first | (with_reducible assumption) | assumption)
                        obtain ⟨ad118, e118, hx118_0⟩ := Kd.at_int HR0.out x7_2 p118 q118
                        obtain rfl : ad114 = ad118 := (by injection e118)
                        replace p118 := eq_true p118
                        replace q118 := eq_true q118
                        go_wp2
                        go_ret
                        exact ⟨by first | rfl | (simp; done) | (simp [*]; done), by repeat (first | exact Drawn0.refl _ | apply Drawn0.step)⟩
                      · rw [if_neg c16] at H
                        have c16b0 : decide (6 < (wrap64 (x6_2 + 1))) = false := decide_eq_false c16
                        clear c16
                        have H' := Aside0.mk H
                        clear H
                        have p118 : 0 ≤ (x7_2 : Int) := of_decide_eq_true (by first | (with_reducible assumption) | assumption)
                        have q118 : x7_2 < (l0.length : Int) := of_decide_eq_true (by first | (with_reducible assumption) | assumption)
                        obtain ⟨ad118, e118, hx118_0⟩ := Kd.at_int HR0.out x7_2 p118 q118
                        obtain rfl : ad114 = ad118 := (by injection e118)
                        replace p118 := eq_true p118
                        replace q118 := eq_true q118
                        go_wp2
                        go_roundg k2
                        case measure => have := HJ5.out; have := HK2.out; omega
                        case rel => exact ⟨(wrap64 (x6_2 + 1)), (wrap64 (x7_2 + 1)), (by first | rfl | (simp; done) | (simp [*]; done)), (by first | rfl | (simp; done) | (simp [*]; done)), H', ⟨by have := HJ5.out; have := HK2.out; omega⟩, by repeat (first | exact Drawn0.refl _ | apply Drawn0.step)⟩
                    · rw [if_neg c15] at H
                      have c15b0 : ((rd l0 x7_2) == 35) = false := beq_eq_false_iff_ne.mpr c15
                      have c15b1 : ((rd l0 x7_2) != 35) = true := bne_iff_ne.mpr c15
                      by_cases c17 : (rd l0 x7_2) = 7
                      · rw [if_pos c17] at H
                        have c17b0 : ((rd l0 x7_2) == 7) = true := beq_iff_eq.mpr c17
                        have c17b1 : ((rd l0 x7_2) != 7) = false := bne_eq_false_iff_eq.mpr c17
                        clear c17
                        have H' := Aside0.mk H
                        clear H
                        have p118 : 0 ≤ (x7_2 : Int) := of_decide_eq_true (by first | (with_reducible assumption) | assumption)
                        have q118 : x7_2 < (l0.length : Int) := of_decide_eq_true (by first | (with_reducible assumption) | assumption)
                        obtain ⟨ad118, e118, hx118_0⟩ := Kd.at_int HR0.out x7_2 p118 q118
                        obtain rfl : ad114 = ad118 := (by injection e118)
                        replace p118 := eq_true p118
                        replace q118 := eq_true q118
                        have p119 : 0 ≤ (x7_2 : Int) := of_decide_eq_true (by first | (with_reducible assumption) | assumption)
                        have q119 : x7_2 < (l0.length : Int) := of_decide_eq_true (by first | (with_reducible assumption) | assumption)
                        obtain ⟨ad119, e119, hx119_0⟩ := Kd.at_int HR0.out x7_2 p119 q119
                        obtain rfl : ad114 = ad119 := (by injection e119)
                        replace p119 := eq_true p119
                        replace q119 := eq_true q119
                        go_wp2
                        go_roundg k2
                        case measure => have := HJ5.out; have := HK2.out; omega
                        case rel => exact ⟨(x6_2), (wrap64 (x7_2 + 1)), (by first | rfl | (simp; done) | (simp [*]; done)), (by first | rfl | (simp; done) | (simp [*]; done)), H', ⟨by have := HJ5.out; have := HK2.out; omega⟩, by repeat (first | exact Drawn0.refl _ | apply Drawn0.step)⟩
                      · rw [if_neg c17] at H
                        have c17b0 : ((rd l0 x7_2) == 7) = false := beq_eq_false_iff_ne.mpr c17
                        have c17b1 : ((rd l0 x7_2) != 7) = true := bne_iff_ne.mpr c17
                        by_cases c18 : (rd l0 x7_2) = 32
                        · rw [if_pos c18] at H
                          have c18b0 : ((rd l0 x7_2) == 32) = true := beq_iff_eq.mpr c18
                          have c18b1 : ((rd l0 x7_2) != 32) = false := bne_eq_false_iff_eq.mpr c18
                          clear c18
                          obtain rfl := Option.some.inj H
                          have p118 : 0 ≤ (x7_2 : Int) := of_decide_eq_true (by first | (with_reducible assumption) | assumption)
                          have q118 : x7_2 < (l0.length : Int) := of_decide_eq_true (by first | (with_reducible assumption) | assumption)
                          obtain ⟨ad118, e118, hx118_0⟩ := Kd.at_int HR0.out x7_2 p118 q118
                          obtain rfl : ad114 = ad118 := (by injection e118)
                          replace p118 := eq_true p118
                          replace q118 := eq_true q118
                          have p119 : 0 ≤ (x7_2 : Int) := of_decide_eq_true (by first | (with_reducible assumption) | assumption)
                          have q119 : x7_2 < (l0.length : Int) := of_decide_eq_true (by first | (with_reducible assumption) | assumption)
                          obtain ⟨ad119, e119, hx119_0⟩ := Kd.at_int HR0.out x7_2 p119 q119
                          obtain rfl : ad114 = ad119 := (by injection e119)
                          replace p119 := eq_true p119
                          replace q119 := eq_true q119
                          have p120 : 0 ≤ (x7_2 : Int) := of_decide_eq_true (by first | (with_reducible assumption) | assumption)
                          have q120 : x7_2 < (l0.length : Int) := of_decide_eq_true (by first | (with_reducible assumption) | assumption)
                          obtain ⟨ad120, e120, hx120_0⟩ := Kd.at_int HR0.out x7_2 p120 q120
                          obtain rfl : ad114 = ad120 := (by injection e120)
                          replace p120 := eq_true p120
                          replace q120 := eq_true q120
                          go_wp2
                          go_ret
                          exact ⟨by first | rfl | (simp; done) | (simp [*]; done), by repeat (first | exact Drawn0.refl _ | apply Drawn0.step)⟩
                        · rw [if_neg c18] at H
                          have c18b0 : ((rd l0 x7_2) == 32) = false := beq_eq_false_iff_ne.mpr c18
                          have c18b1 : ((rd l0 x7_2) != 32) = true := bne_iff_ne.mpr c18
                          by_cases c19 : (rd l0 x7_2) = 9
                          · rw [if_pos c19] at H
                            have c19b0 : ((rd l0 x7_2) == 9) = true := beq_iff_eq.mpr c19
                            have c19b1 : ((rd l0 x7_2) != 9) = false := bne_eq_false_iff_eq.mpr c19
                            clear c19
                            obtain rfl := Option.some.inj H
                            have p118 : 0 ≤ (x7_2 : Int) := of_decide_eq_true (by first | (with_reducible assumption) | assumption)
                            have q118 : x7_2 < (l0.length : Int) := of_decide_eq_true (by first | (with_reducible assumption) | assumption)
                            obtain ⟨ad118, e118, hx118_0⟩ := Kd.at_int HR0.out x7_2 p118 q118
                            obtain rfl : ad114 = ad118 := (by injection e118)
                            replace p118 := eq_true p118
                            replace q118 := eq_true q118
                            have p119 : 0 ≤ (x7_2 : Int) := of_decide_eq_true (by first | (with_reducible assumption) | assumption)
                            have q119 : x7_2 < (l0.length : Int) := of_decide_eq_true (by first | (with_reducible assumption) | assumption)
                            obtain ⟨ad119, e119, hx119_0⟩ := Kd.at_int HR0.out x7_2 p119 q119
                            obtain rfl : ad114 = ad119 := (by injection e119)
                            replace p119 := eq_true p119
                            replace q119 := eq_true q119
                            have p120 : 0 ≤ (x7_2 : Int) := of_decide_eq_true (by first | (with_reducible assumption) | assumption)
                            have q120 : x7_2 < (l0.length : Int) := of_decide_eq_true (by first | (with_reducible assumption) | assumption)
                            obtain ⟨ad120, e120, hx120_0⟩ := Kd.at_int HR0.out x7_2 p120 q120
                            obtain rfl : ad114 = ad120 := (by injection e120)
                            replace p120 := eq_true p120
                            replace q120 := eq_true q120
                            have p121 : 0 ≤ (x7_2 : Int) := of_decide_eq_true (by first | (with_reducible assumption) | assumption)
                            have q121 : x7_2 < (l0.length : Int) := of_decide_eq_true (by first | (with_reducible assumption) | assumption)
                            obtain ⟨ad121, e121, hx121_0⟩ := Kd.at_int HR0.out x7_2 p121 q121
                            obtain rfl : ad114 = ad121 := (by injection e121)
                            replace p121 := eq_true p121
                            replace q121 := eq_true q121
                            go_wp2
                            go_ret
                            exact ⟨by first | rfl | (simp; done) | (simp [*]; done), by repeat (first | exact Drawn0.refl _ | apply Drawn0.step)⟩
                          · rw [if_neg c19] at H
                            have c19b0 : ((rd l0 x7_2) == 9) = false := beq_eq_false_iff_ne.mpr c19
                            have c19b1 : ((rd l0 x7_2) != 9) = true := bne_iff_ne.mpr c19
                            by_cases c20 : (rd l0 x7_2) = 10
                            · rw [if_pos c20] at H
                              have c20b0 : ((rd l0 x7_2) == 10) = true := beq_iff_eq.mpr c20
                              have c20b1 : ((rd l0 x7_2) != 10) = false := bne_eq_false_iff_eq.mpr c20
                              clear c20
                              obtain rfl := Option.some.inj H
                              have p118 : 0 ≤ (x7_2 : Int) := of_decide_eq_true (by first | (with_reducible assumption) | assumption)
                              have q118 : x7_2 < (l0.length : Int) := of_decide_eq_true (by first | (with_reducible assumption) | assumption)
                              obtain ⟨ad118, e118, hx118_0⟩ := Kd.at_int HR0.out x7_2 p118 q118
                              obtain rfl : ad114 = ad118 := (by injection e118)
                              replace p118 := eq_true p118
                              replace q118 := eq_true q118
                              have p119 : 0 ≤ (x7_2 : Int) := of_decide_eq_true (by first | (with_reducible assumption) | assumption)
                              have q119 : x7_2 < (l0.length : Int) := of_decide_eq_true (by first | (with_reducible assumption) | assumption)
                              obtain ⟨ad119, e119, hx119_0⟩ := Kd.at_int HR0.out x7_2 p119 q119
                              obtain rfl : ad114 = ad119 := (by injection e119)
                              replace p119 := eq_true p119
                              replace q119 := eq_true q119
                              have p120 : 0 ≤ (x7_2 : Int) := of_decide_eq_true (by first | (with_reducible assumption) | assumption)
                              have q120 : x7_2 < (l0.length : Int) := of_decide_eq_true (by first | (with_reducible assumption) | assumption)
                              obtain ⟨ad120, e120, hx120_0⟩ := Kd.at_int HR0.out x7_2 p120 q120
                              obtain rfl : ad114 = ad120 := (by injection e120)
                              replace p120 := eq_true p120
                              replace q120 := eq_true q120
                              have p121 : 0 ≤ (x7_2 : Int) := of_decide_eq_true (by first | (with_reducible assumption) | assumption)
                              have q121 : x7_2 < (l0.length : Int) := of_decide_eq_true (by first | (with_reducible assumption) | assumption)
                              obtain ⟨ad121, e121, hx121_0⟩ := Kd.at_int HR0.out x7_2 p121 q121
                              obtain rfl : ad114 = ad121 := (by injection e121)
                              replace p121 := eq_true p121
                              replace q121 := eq_true q121
                              have p122 : 0 ≤ (x7_2 : Int) := of_decide_eq_true (by first | (with_reducible assumption) | assumption)
                              have q122 : x7_2 < (l0.length : Int) := of_decide_eq_true (by first | (with_reducible assumption) | assumption)
                              obtain ⟨ad122, e122, hx122_0⟩ := Kd.at_int HR0.out x7_2 p122 q122
                              obtain rfl : ad114 = ad122 := (by injection e122)
                              replace p122 := eq_true p122
                              replace q122 := eq_true q122
                              go_wp2
                              go_ret
                              exact ⟨by first | rfl | (simp; done) | (simp [*]; done), by repeat (first | exact Drawn0.refl _ | apply Drawn0.step)⟩
                            · rw [if_neg c20] at H
                              have c20b0 : ((rd l0 x7_2) == 10) = false := beq_eq_false_iff_ne.mpr c20
                              have c20b1 : ((rd l0 x7_2) != 10) = true := bne_iff_ne.mpr c20
                              by_cases c21 : (rd l0 x7_2) = 13
                              · rw [if_pos c21] at H
                                have c21b0 : ((rd l0 x7_2) == 13) = true := beq_iff_eq.mpr c21
                                have c21b1 : ((rd l0 x7_2) != 13) = false := bne_eq_false_iff_eq.mpr c21
                                clear c21
                                obtain rfl := Option.some.inj H
                                have p118 : 0 ≤ (x7_2 : Int) := of_decide_eq_true (by first | (with_reducible assumption) | assumption)
                                have q118 : x7_2 < (l0.length : Int) := of_decide_eq_true (by first | (with_reducible assumption) | assumption)
                                obtain ⟨ad118, e118, hx118_0⟩ := Kd.at_int HR0.out x7_2 p118 q118
                                obtain rfl : ad114 = ad118 := (by injection e118)
                                replace p118 := eq_true p118
                                replace q118 := eq_true q118
                                have p119 : 0 ≤ (x7_2 : Int) := of_decide_eq_true (by first | (with_reducible assumption) | assumption)
                                have q119 : x7_2 < (l0.length : Int) := of_decide_eq_true (by first | (with_reducible assumption) | assumption)
                                obtain ⟨ad119, e119, hx119_0⟩ := Kd.at_int HR0.out x7_2 p119 q119
                                obtain rfl : ad114 = ad119 := (by injection e119)
                                replace p119 := eq_true p119
                                replace q119 := eq_true q119
                                have p120 : 0 ≤ (x7_2 : Int) := of_decide_eq_true (by first | (with_reducible assumption) | assumption)
                                have q120 : x7_2 < (l0.length : Int) := of_decide_eq_true (by first | (with_reducible assumption) | assumption)
                                obtain ⟨ad120, e120, hx120_0⟩ := Kd.at_int HR0.out x7_2 p120 q120
                                obtain rfl : ad114 = ad120 := (by injection e120)
                                replace p120 := eq_true p120
                                replace q120 := eq_true q120
                                have p121 : 0 ≤ (x7_2 : Int) := of_decide_eq_true (by first | (with_reducible assumption) | assumption)
                                have q121 : x7_2 < (l0.length : Int) := of_decide_eq_true (by first | (with_reducible assumption) | assumption)
                                obtain ⟨ad121, e121, hx121_0⟩ := Kd.at_int HR0.out x7_2 p121 q121
                                obtain rfl : ad114 = ad121 := (by injection e121)
                                replace p121 := eq_true p121
                                replace q121 := eq_true q121
                                have p122 : 0 ≤ (x7_2 : Int) := of_decide_eq_true (by first | (with_reducible assumption) | assumption)
                                have q122 : x7_2 < (l0.length : Int) := of_decide_eq_true (by first | (with_reducible assumption) | assumption)
                                obtain ⟨ad122, e122, hx122_0⟩ := Kd.at_int HR0.out x7_2 p122 q122
                                obtain rfl : ad114 = ad122 := (by injection e122)
                                replace p122 := eq_true p122
                                replace q122 := eq_true q122
                                have p123 : 0 ≤ (x7_2 : Int) := of_decide_eq_true (by first | (with_reducible assumption) | assumption)
                                have q123 : x7_2 < (l0.length : Int) := of_decide_eq_true (by first | (with_reducible assumption) | assumption)
                                obtain ⟨ad123, e123, hx123_0⟩ := Kd.at_int HR0.out x7_2 p123 q123
                                obtain rfl : ad114 = ad123 := (by injection e123)
                                replace p123 := eq_true p123
                                replace q123 := eq_true q123
                                go_wp2
                                go_ret
                                exact ⟨by first | rfl | (simp; done) | (simp [*]; done), by repeat (first | exact Drawn0.refl _ | apply Drawn0.step)⟩
                              · rw [if_neg c21] at H
                                have c21b0 : ((rd l0 x7_2) == 13) = false := beq_eq_false_iff_ne.mpr c21
                                have c21b1 : ((rd l0 x7_2) != 13) = true := bne_iff_ne.mpr c21
                                obtain rfl := Option.some.inj H
                                have p118 : 0 ≤ (x7_2 : Int) := of_decide_eq_true (by first | (with_reducible assumption) | assumption)
                                have q118 : x7_2 < (l0.length : Int) := of_decide_eq_true (by first | (with_reducible assumption) | assumption)
                                obtain ⟨ad118, e118, hx118_0⟩ := Kd.at_int HR0.out x7_2 p118 q118
                                obtain rfl : ad114 = ad118 := (by injection e118)
                                replace p118 := eq_true p118
                                replace q118 := eq_true q118
                                have p119 : 0 ≤ (x7_2 : Int) := of_decide_eq_true (by first | (with_reducible assumption) | assumption)
                                have q119 : x7_2 < (l0.length : Int) := of_decide_eq_true (by first | (with_reducible assumption) | assumption)
                                obtain ⟨ad119, e119, hx119_0⟩ := Kd.at_int HR0.out x7_2 p119 q119
                                obtain rfl : ad114 = ad119 := (by injection e119)
                                replace p119 := eq_true p119
                                replace q119 := eq_true q119
                                have p120 : 0 ≤ (x7_2 : Int) := of_decide_eq_true (by first | (with_reducible assumption) | assumption)
                                have q120 : x7_2 < (l0.length : Int) := of_decide_eq_true (by first | (with_reducible assumption) | assumption)
                                obtain ⟨ad120, e120, hx120_0⟩ := Kd.at_int HR0.out x7_2 p120 q120
                                obtain rfl : ad114 = ad120 := (by injection e120)
                                replace p120 := eq_true p120
                                replace q120 := eq_true q120
                                have p121 : 0 ≤ (x7_2 : Int) := of_decide_eq_true (by first | (with_reducible assumption) | assumption)
                                have q121 : x7_2 < (l0.length : Int) := of_decide_eq_true (by first | (with_reducible assumption) | assumption)
                                obtain ⟨ad121, e121, hx121_0⟩ := Kd.at_int HR0.out x7_2 p121 q121
                                obtain rfl : ad114 = ad121 := (by injection e121)
                                replace p121 := eq_true p121
                                replace q121 := eq_true q121
                                have p122 : 0 ≤ (x7_2 : Int) := of_decide_eq_true (by first | (with_reducible assumption) | assumption)
                                have q122 : x7_2 < (l0.length : Int) := of_decide_eq_true (by first | (with_reducible assumption) | assumption)
                                obtain ⟨ad122, e122, hx122_0⟩ := Kd.at_int HR0.out x7_2 p122 q122
                                obtain rfl : ad114 = ad122 := (by injection e122)
                                replace p122 := eq_true p122
                                replace q122 := eq_true q122
                                have p123 : 0 ≤ (x7_2 : Int) := of_decide_eq_true (by first | (with_reducible assumption) | assumption)
                                have q123 : x7_2 < (l0.length : Int) := of_decide_eq_true (by first | (with_reducible assumption) | assumption)
                                obtain ⟨ad123, e123, hx123_0⟩ := Kd.at_int HR0.out x7_2 p123 q123
                                obtain rfl : ad114 = ad123 := (by injection e123)
                                replace p123 := eq_true p123
                                replace q123 := eq_true q123
                                go_wp2
                                go_ret
                                exact ⟨by first | rfl | (simp; done) | (simp [*]; done), by repeat (first | exact Drawn0.refl _ | apply Drawn0.step)⟩
                  · rw [if_neg c14] at H
                    exact absurd H (by simp)
                · rw [if_neg c13] at H
                  have c13b0 : decide (x7_2 < (l0.length : Int)) = false := decide_eq_false c13
                  clear c13
                  obtain rfl := Option.some.inj H
                  go_wp2
                  go_ret
                  exact ⟨by first | rfl | (simp; done) | (simp [*]; done), by repeat (first | exact Drawn0.refl _ | apply Drawn0.step)⟩
      · rw [if_neg c5] at H
        have c5b0 : ((rd l0 a1) == 35) = false := beq_eq_false_iff_ne.mpr c5
        have c5b1 : ((rd l0 a1) != 35) = true := bne_iff_ne.mpr c5
        obtain rfl := Option.some.inj H
        have p114 : 0 ≤ (a1 : Int) := of_decide_eq_true (by first | (with_reducible assumption) | assumption)
        have q114 : a1 < (l0.length : Int) := of_decide_eq_true (by first | (with_reducible assumption) | assumption)
        obtain ⟨ad114, e114, hx114_0⟩ := Kd.at_int HR0.out a1 p114 q114
        cases e114
        replace p114 := eq_true p114
        replace q114 := eq_true q114
        go_enter Tryz.func42, Tryz.ntmps42
        go_wp2
        go_ret
        exact ⟨by first | rfl | (simp; done) | (simp [*]; done), by repeat (first | exact Drawn0.refl _ | apply Drawn0.step)⟩
    · rw [if_neg c4] at H
      exact absurd H (by simp)
  · rw [if_neg c3] at H
    exact absurd H (by simp)

end Go.Proofs.YtbkimfhlgpgoiaaGreatDoor.Ptested
