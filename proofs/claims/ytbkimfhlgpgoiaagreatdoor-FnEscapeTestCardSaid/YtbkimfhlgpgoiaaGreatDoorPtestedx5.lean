-- PRINTED BY print.sh 35421559b90ae4d0a3588c463048766b98c2df88dd9212a6774a882060cdf62d: not written by this session
import Derived.Test.YtbkimfhlgpgoiaaGreatDoorPtestedx0
namespace Go.Proofs.YtbkimfhlgpgoiaaGreatDoor.Ptested
open Go.RowKit Go.Proofs.YtbkimfhlgpgoiaaGreatDoorW.PrintWords Go.Proofs.YtbkimfhlgpgoiaaGreatDoorW.PrintLast Go.Proofs.YtbkimfhlgpgoiaaGreatDoorW.PrintMore
attribute [local go_sem] max2_int min2_int max_two min_two max_three min_three max_four min_four   -- for this text's walks alone
set_option linter.unusedVariables false
set_option linter.unusedSimpArgs false

/-! ### escape_IsDigit: function 79 -/
def escape_IsDigit.f (a0 : Int) : Option (Bool) := if a0 = 48 then (some true) else (if a0 = 49 then (some true) else (if a0 = 50 then (some true) else (if a0 = 51 then (some true) else (if a0 = 52 then (some true) else (if a0 = 53 then (some true) else (if a0 = 54 then (some true) else (if a0 = 55 then (some true) else (if a0 = 56 then (some true) else (if a0 = 57 then (some true) else (some false))))))))))
set_option maxHeartbeats 8000000 in
set_option maxRecDepth 100000 in
theorem escape_IsDigit.calls (a0 : Int) (r : Bool) (w : World) (h : escape_IsDigit.f a0 = some r) :
    Calls Tryz.prog 79 #[.int .u8 a0] w fun e w' => e = .returned (.bool r) ∧ Drawn0 w w' := by
  have H : (if a0 = 48 then (some true) else (if a0 = 49 then (some true) else (if a0 = 50 then (some true) else (if a0 = 51 then (some true) else (if a0 = 52 then (some true) else (if a0 = 53 then (some true) else (if a0 = 54 then (some true) else (if a0 = 55 then (some true) else (if a0 = 56 then (some true) else (if a0 = 57 then (some true) else (some false))))))))))) = some r := h
  clear h
  by_cases c2 : a0 = 48
  · rw [if_pos c2] at H
    have c2b0 : (a0 == 48) = true := beq_iff_eq.mpr c2
    have c2b1 : (a0 != 48) = false := bne_eq_false_iff_eq.mpr c2
    clear c2
    obtain rfl := Option.some.inj H
    go_enter Tryz.func79, Tryz.ntmps79
    go_wp2
    go_ret
    exact ⟨by first | rfl | (simp; done) | (simp [*]; done), by repeat (first | exact Drawn0.refl _ | apply Drawn0.step)⟩
  · rw [if_neg c2] at H
    have c2b0 : (a0 == 48) = false := beq_eq_false_iff_ne.mpr c2
    have c2b1 : (a0 != 48) = true := bne_iff_ne.mpr c2
    by_cases c3 : a0 = 49
    · rw [if_pos c3] at H
      have c3b0 : (a0 == 49) = true := beq_iff_eq.mpr c3
      have c3b1 : (a0 != 49) = false := bne_eq_false_iff_eq.mpr c3
      clear c3
      obtain rfl := Option.some.inj H
      go_enter Tryz.func79, Tryz.ntmps79
      go_wp2
      go_ret
      exact ⟨by first | rfl | (simp; done) | (simp [*]; done), by repeat (first | exact Drawn0.refl _ | apply Drawn0.step)⟩
    · rw [if_neg c3] at H
      have c3b0 : (a0 == 49) = false := beq_eq_false_iff_ne.mpr c3
      have c3b1 : (a0 != 49) = true := bne_iff_ne.mpr c3
      by_cases c4 : a0 = 50
      · rw [if_pos c4] at H
        have c4b0 : (a0 == 50) = true := beq_iff_eq.mpr c4
        have c4b1 : (a0 != 50) = false := bne_eq_false_iff_eq.mpr c4
        clear c4
        obtain rfl := Option.some.inj H
        go_enter Tryz.func79, Tryz.ntmps79
        go_wp2
        go_ret
        exact ⟨by first | rfl | (simp; done) | (simp [*]; done), by repeat (first | exact Drawn0.refl _ | apply Drawn0.step)⟩
      · rw [if_neg c4] at H
        have c4b0 : (a0 == 50) = false := beq_eq_false_iff_ne.mpr c4
        have c4b1 : (a0 != 50) = true := bne_iff_ne.mpr c4
        by_cases c5 : a0 = 51
        · rw [if_pos c5] at H
          have c5b0 : (a0 == 51) = true := beq_iff_eq.mpr c5
          have c5b1 : (a0 != 51) = false := bne_eq_false_iff_eq.mpr c5
          clear c5
          obtain rfl := Option.some.inj H
          go_enter Tryz.func79, Tryz.ntmps79
          go_wp2
          go_ret
          exact ⟨by first | rfl | (simp; done) | (simp [*]; done), by repeat (first | exact Drawn0.refl _ | apply Drawn0.step)⟩
        · rw [if_neg c5] at H
          have c5b0 : (a0 == 51) = false := beq_eq_false_iff_ne.mpr c5
          have c5b1 : (a0 != 51) = true := bne_iff_ne.mpr c5
          by_cases c6 : a0 = 52
          · rw [if_pos c6] at H
            have c6b0 : (a0 == 52) = true := beq_iff_eq.mpr c6
            have c6b1 : (a0 != 52) = false := bne_eq_false_iff_eq.mpr c6
            clear c6
            obtain rfl := Option.some.inj H
            go_enter Tryz.func79, Tryz.ntmps79
            go_wp2
            go_ret
            exact ⟨by first | rfl | (simp; done) | (simp [*]; done), by repeat (first | exact Drawn0.refl _ | apply Drawn0.step)⟩
          · rw [if_neg c6] at H
            have c6b0 : (a0 == 52) = false := beq_eq_false_iff_ne.mpr c6
            have c6b1 : (a0 != 52) = true := bne_iff_ne.mpr c6
            by_cases c7 : a0 = 53
            · rw [if_pos c7] at H
              have c7b0 : (a0 == 53) = true := beq_iff_eq.mpr c7
              have c7b1 : (a0 != 53) = false := bne_eq_false_iff_eq.mpr c7
              clear c7
              obtain rfl := Option.some.inj H
              go_enter Tryz.func79, Tryz.ntmps79
              go_wp2
              go_ret
              exact ⟨by first | rfl | (simp; done) | (simp [*]; done), by repeat (first | exact Drawn0.refl _ | apply Drawn0.step)⟩
            · rw [if_neg c7] at H
              have c7b0 : (a0 == 53) = false := beq_eq_false_iff_ne.mpr c7
              have c7b1 : (a0 != 53) = true := bne_iff_ne.mpr c7
              by_cases c8 : a0 = 54
              · rw [if_pos c8] at H
                have c8b0 : (a0 == 54) = true := beq_iff_eq.mpr c8
                have c8b1 : (a0 != 54) = false := bne_eq_false_iff_eq.mpr c8
                clear c8
                obtain rfl := Option.some.inj H
                go_enter Tryz.func79, Tryz.ntmps79
                go_wp2
                go_ret
                exact ⟨by first | rfl | (simp; done) | (simp [*]; done), by repeat (first | exact Drawn0.refl _ | apply Drawn0.step)⟩
              · rw [if_neg c8] at H
                have c8b0 : (a0 == 54) = false := beq_eq_false_iff_ne.mpr c8
                have c8b1 : (a0 != 54) = true := bne_iff_ne.mpr c8
                by_cases c9 : a0 = 55
                · rw [if_pos c9] at H
                  have c9b0 : (a0 == 55) = true := beq_iff_eq.mpr c9
                  have c9b1 : (a0 != 55) = false := bne_eq_false_iff_eq.mpr c9
                  clear c9
                  obtain rfl := Option.some.inj H
                  go_enter Tryz.func79, Tryz.ntmps79
                  go_wp2
                  go_ret
                  exact ⟨by first | rfl | (simp; done) | (simp [*]; done), by repeat (first | exact Drawn0.refl _ | apply Drawn0.step)⟩
                · rw [if_neg c9] at H
                  have c9b0 : (a0 == 55) = false := beq_eq_false_iff_ne.mpr c9
                  have c9b1 : (a0 != 55) = true := bne_iff_ne.mpr c9
                  by_cases c10 : a0 = 56
                  · rw [if_pos c10] at H
                    have c10b0 : (a0 == 56) = true := beq_iff_eq.mpr c10
                    have c10b1 : (a0 != 56) = false := bne_eq_false_iff_eq.mpr c10
                    clear c10
                    obtain rfl := Option.some.inj H
                    go_enter Tryz.func79, Tryz.ntmps79
                    go_wp2
                    go_ret
                    exact ⟨by first | rfl | (simp; done) | (simp [*]; done), by repeat (first | exact Drawn0.refl _ | apply Drawn0.step)⟩
                  · rw [if_neg c10] at H
                    have c10b0 : (a0 == 56) = false := beq_eq_false_iff_ne.mpr c10
                    have c10b1 : (a0 != 56) = true := bne_iff_ne.mpr c10
                    by_cases c11 : a0 = 57
                    · rw [if_pos c11] at H
                      have c11b0 : (a0 == 57) = true := beq_iff_eq.mpr c11
                      have c11b1 : (a0 != 57) = false := bne_eq_false_iff_eq.mpr c11
                      clear c11
                      obtain rfl := Option.some.inj H
                      go_enter Tryz.func79, Tryz.ntmps79
                      go_wp2
                      go_ret
                      exact ⟨by first | rfl | (simp; done) | (simp [*]; done), by repeat (first | exact Drawn0.refl _ | apply Drawn0.step)⟩
                    · rw [if_neg c11] at H
                      have c11b0 : (a0 == 57) = false := beq_eq_false_iff_ne.mpr c11
                      have c11b1 : (a0 != 57) = true := bne_iff_ne.mpr c11
                      obtain rfl := Option.some.inj H
                      go_enter Tryz.func79, Tryz.ntmps79
                      go_wp2
                      go_ret
                      exact ⟨by first | rfl | (simp; done) | (simp [*]; done), by repeat (first | exact Drawn0.refl _ | apply Drawn0.step)⟩

/-! ### escape_getNext: function 80 -/
def escape_getNext.l0 : Nat → List Int → Int → Option (Int)
  | 0, _, _ => none
  | k + 1, x0, x5 => if x5 < (x0.length : Int) then (if 0 ≤ x5 then (if (rd x0 x5) = 7 then (escape_getNext.l0 k x0 (wrap64 (x5 + 1))) else (some (rd x0 x5))) else (none)) else (some 0)
def escape_getNext.f (k : Nat) (l0 : List Int) (a1 : Int) : Option (Int) := escape_getNext.l0 k l0 (wrap64 (a1 + 1))
theorem escape_getNext.mono_l : ∀ k, (∀ y0 y1, LeO (escape_getNext.l0 k y0 y1) (escape_getNext.l0 (k + 1) y0 y1))
  | 0 => fun _ _ r h => by simp [escape_getNext.l0] at h
  | k + 1 => by
    have ih0 := escape_getNext.mono_l k
    · intro y0 y1
      unfold escape_getNext.l0
      repeat' first
      | (with_reducible exact ih0 _ _)
      | (with_reducible exact LeO.refl _)
      | (with_reducible exact LeO.none _)
      | (with_reducible refine LeO.ite ?_ ?_)
      | (with_reducible refine LeO.bind ?_ (fun _ => ?_))
      | exact ih0 _ _
      | exact LeO.none _
      | refine LeO.ite ?_ ?_
      | refine LeO.bind ?_ (fun _ => ?_)
theorem escape_getNext.mono : ∀ a0 a1 k, LeO (escape_getNext.f k a0 a1) (escape_getNext.f (k + 1) a0 a1) := by
  intro a0 a1 k
  have ih0 := escape_getNext.mono_l k
  unfold escape_getNext.f
  repeat' first
      | (with_reducible exact ih0 _ _)
      | (with_reducible exact LeO.refl _)
      | (with_reducible exact LeO.none _)
      | (with_reducible refine LeO.ite ?_ ?_)
      | (with_reducible refine LeO.bind ?_ (fun _ => ?_))
      | exact ih0 _ _
      | exact LeO.none _
      | refine LeO.ite ?_ ?_
      | refine LeO.bind ?_ (fun _ => ?_)
set_option maxHeartbeats 8000000 in
set_option maxRecDepth 100000 in
theorem escape_getNext.calls (k : Nat) (A0 : Option Addr) (c0 : Nat) (l0 : List Int) (a1 : Int) (r : Int) (w : World) (hr0 : Kd.C (Kd.int .u8) w A0 l0.length l0) (hc0 : l0.length ≤ c0) (h : escape_getNext.f k l0 a1 = some r) :
    Calls Tryz.prog 80 #[.slice A0 l0.length c0, .int .i64 a1] w fun e w' => e = .returned (.int .u8 r) ∧ Drawn0 w w' := by
  have HR0 := Aside0.mk hr0
  have HC0 := Aside0.mk hc0
  clear hr0 hc0
  have H : (escape_getNext.l0 k l0 (wrap64 (a1 + 1))) = some r := h
  clear h
  have H' := Aside0.mk H
  clear H
  go_enter Tryz.func80, Tryz.ntmps80
  go_wp2
  go_loopg [5] k (fun kq v5 w' => ∃ (x5_1 : Int), v5 = .int .i64 x5_1 ∧ Aside0 (escape_getNext.l0 kq l0 x5_1 = some r) ∧ Aside0 (kq ≤ k) ∧ Drawn0 w w')
  case atStart => exact ⟨(wrap64 (a1 + 1)), (by first | rfl | (simp; done) | (simp [*]; done)), H', ⟨Nat.le_refl _⟩, by repeat (first | exact Drawn0.refl _ | apply Drawn0.step)⟩
  case round =>
    clear H'
    try clear p2
    obtain ⟨x5_1, rfl, HA, HK1, ⟨m1, rfl⟩⟩ := hrel
    cases gk with
    | zero => exact absurd HA.out (by simp [escape_getNext.l0])
    | succ k1 =>
      have H := HA.out
      clear HA
      simp only [escape_getNext.l0] at H
      by_cases c3 : x5_1 < (l0.length : Int)
      · rw [if_pos c3] at H
        have c3b0 : decide (x5_1 < (l0.length : Int)) = true := decide_eq_true c3
        clear c3
        by_cases c4 : 0 ≤ x5_1
        · rw [if_pos c4] at H
          have c4b0 : decide (0 ≤ x5_1) = true := decide_eq_true c4
          clear c4
          by_cases c5 : (rd l0 x5_1) = 7
          · rw [if_pos c5] at H
            have c5b0 : ((rd l0 x5_1) == 7) = true := beq_iff_eq.mpr c5
            have c5b1 : ((rd l0 x5_1) != 7) = false := bne_eq_false_iff_eq.mpr c5
            clear c5
            have H' := Aside0.mk H
            clear H
            have p146 : 0 ≤ (x5_1 : Int) := of_decide_eq_true (by first | (with_reducible assumption) | assumption)
            have q146 : x5_1 < (l0.length : Int) := of_decide_eq_true (by first | (with_reducible assumption) | assumption)
            obtain ⟨ad146, e146, hx146_0⟩ := Kd.at_int HR0.out x5_1 p146 q146
            cases e146
            replace p146 := eq_true p146
            replace q146 := eq_true q146
            go_wp2
            go_roundg k1
            case measure => have := HK1.out; omega
            case rel => exact ⟨(wrap64 (x5_1 + 1)), (by first | rfl | (simp; done) | (simp [*]; done)), H', ⟨by have := HK1.out; omega⟩, by repeat (first | exact Drawn0.refl _ | apply Drawn0.step)⟩
          · rw [if_neg c5] at H
            have c5b0 : ((rd l0 x5_1) == 7) = false := beq_eq_false_iff_ne.mpr c5
            have c5b1 : ((rd l0 x5_1) != 7) = true := bne_iff_ne.mpr c5
            obtain rfl := Option.some.inj H
            have p146 : 0 ≤ (x5_1 : Int) := of_decide_eq_true (by first | (with_reducible assumption) | assumption)
            have q146 : x5_1 < (l0.length : Int) := of_decide_eq_true (by first | (with_reducible assumption) | assumption)
            obtain ⟨ad146, e146, hx146_0⟩ := Kd.at_int HR0.out x5_1 p146 q146
            cases e146
            replace p146 := eq_true p146
            replace q146 := eq_true q146
            have p147 : 0 ≤ (x5_1 : Int) := of_decide_eq_true (by first | (with_reducible assumption) | assumption)
            have q147 : x5_1 < (l0.length : Int) := of_decide_eq_true (by first | (with_reducible assumption) | assumption)
            obtain ⟨ad147, e147, hx147_0⟩ := Kd.at_int HR0.out x5_1 p147 q147
            obtain rfl : ad146 = ad147 := (by injection e147)
            replace p147 := eq_true p147
            replace q147 := eq_true q147
            go_wp2
            go_ret
            exact ⟨by first | rfl | (simp; done) | (simp [*]; done), by repeat (first | exact Drawn0.refl _ | apply Drawn0.step)⟩
        · rw [if_neg c4] at H
          exact absurd H (by simp)
      · rw [if_neg c3] at H
        have c3b0 : decide (x5_1 < (l0.length : Int)) = false := decide_eq_false c3
        clear c3
        obtain rfl := Option.some.inj H
        go_wp2
        go_ret
        exact ⟨by first | rfl | (simp; done) | (simp [*]; done), by repeat (first | exact Drawn0.refl _ | apply Drawn0.step)⟩

/-! ### escape_IsSpace: function 81 -/
def escape_IsSpace.f (a0 : Int) : Option (Bool) := if a0 = 9 then (some true) else (if a0 = 10 then (some true) else (if a0 = 11 then (some true) else (if a0 = 12 then (some true) else (if a0 = 13 then (some true) else (if a0 = 32 then (some true) else (if a0 = 133 then (some true) else (if a0 = 160 then (some true) else (some false))))))))
set_option maxHeartbeats 8000000 in
set_option maxRecDepth 100000 in
theorem escape_IsSpace.calls (a0 : Int) (r : Bool) (w : World) (h : escape_IsSpace.f a0 = some r) :
    Calls Tryz.prog 81 #[.int .u8 a0] w fun e w' => e = .returned (.bool r) ∧ Drawn0 w w' := by
  have H : (if a0 = 9 then (some true) else (if a0 = 10 then (some true) else (if a0 = 11 then (some true) else (if a0 = 12 then (some true) else (if a0 = 13 then (some true) else (if a0 = 32 then (some true) else (if a0 = 133 then (some true) else (if a0 = 160 then (some true) else (some false))))))))) = some r := h
  clear h
  by_cases c2 : a0 = 9
  · rw [if_pos c2] at H
    have c2b0 : (a0 == 9) = true := beq_iff_eq.mpr c2
    have c2b1 : (a0 != 9) = false := bne_eq_false_iff_eq.mpr c2
    clear c2
    obtain rfl := Option.some.inj H
    go_enter Tryz.func81, Tryz.ntmps81
    go_wp2
    go_ret
    exact ⟨by first | rfl | (simp; done) | (simp [*]; done), by repeat (first | exact Drawn0.refl _ | apply Drawn0.step)⟩
  · rw [if_neg c2] at H
    have c2b0 : (a0 == 9) = false := beq_eq_false_iff_ne.mpr c2
    have c2b1 : (a0 != 9) = true := bne_iff_ne.mpr c2
    by_cases c3 : a0 = 10
    · rw [if_pos c3] at H
      have c3b0 : (a0 == 10) = true := beq_iff_eq.mpr c3
      have c3b1 : (a0 != 10) = false := bne_eq_false_iff_eq.mpr c3
      clear c3
      obtain rfl := Option.some.inj H
      go_enter Tryz.func81, Tryz.ntmps81
      go_wp2
      go_ret
      exact ⟨by first | rfl | (simp; done) | (simp [*]; done), by repeat (first | exact Drawn0.refl _ | apply Drawn0.step)⟩
    · rw [if_neg c3] at H
      have c3b0 : (a0 == 10) = false := beq_eq_false_iff_ne.mpr c3
      have c3b1 : (a0 != 10) = true := bne_iff_ne.mpr c3
      by_cases c4 : a0 = 11
      · rw [if_pos c4] at H
        have c4b0 : (a0 == 11) = true := beq_iff_eq.mpr c4
        have c4b1 : (a0 != 11) = false := bne_eq_false_iff_eq.mpr c4
        clear c4
        obtain rfl := Option.some.inj H
        go_enter Tryz.func81, Tryz.ntmps81
        go_wp2
        go_ret
        exact ⟨by first | rfl | (simp; done) | (simp [*]; done), by repeat (first | exact Drawn0.refl _ | apply Drawn0.step)⟩
      · rw [if_neg c4] at H
        have c4b0 : (a0 == 11) = false := beq_eq_false_iff_ne.mpr c4
        have c4b1 : (a0 != 11) = true := bne_iff_ne.mpr c4
        by_cases c5 : a0 = 12
        · rw [if_pos c5] at H
          have c5b0 : (a0 == 12) = true := beq_iff_eq.mpr c5
          have c5b1 : (a0 != 12) = false := bne_eq_false_iff_eq.mpr c5
          clear c5
          obtain rfl := Option.some.inj H
          go_enter Tryz.func81, Tryz.ntmps81
          go_wp2
          go_ret
          exact ⟨by first | rfl | (simp; done) | (simp [*]; done), by repeat (first | exact Drawn0.refl _ | apply Drawn0.step)⟩
        · rw [if_neg c5] at H
          have c5b0 : (a0 == 12) = false := beq_eq_false_iff_ne.mpr c5
          have c5b1 : (a0 != 12) = true := bne_iff_ne.mpr c5
          by_cases c6 : a0 = 13
          · rw [if_pos c6] at H
            have c6b0 : (a0 == 13) = true := beq_iff_eq.mpr c6
            have c6b1 : (a0 != 13) = false := bne_eq_false_iff_eq.mpr c6
            clear c6
            obtain rfl := Option.some.inj H
            go_enter Tryz.func81, Tryz.ntmps81
            go_wp2
            go_ret
            exact ⟨by first | rfl | (simp; done) | (simp [*]; done), by repeat (first | exact Drawn0.refl _ | apply Drawn0.step)⟩
          · rw [if_neg c6] at H
            have c6b0 : (a0 == 13) = false := beq_eq_false_iff_ne.mpr c6
            have c6b1 : (a0 != 13) = true := bne_iff_ne.mpr c6
            by_cases c7 : a0 = 32
            · rw [if_pos c7] at H
              have c7b0 : (a0 == 32) = true := beq_iff_eq.mpr c7
              have c7b1 : (a0 != 32) = false := bne_eq_false_iff_eq.mpr c7
              clear c7
              obtain rfl := Option.some.inj H
              go_enter Tryz.func81, Tryz.ntmps81
              go_wp2
              go_ret
              exact ⟨by first | rfl | (simp; done) | (simp [*]; done), by repeat (first | exact Drawn0.refl _ | apply Drawn0.step)⟩
            · rw [if_neg c7] at H
              have c7b0 : (a0 == 32) = false := beq_eq_false_iff_ne.mpr c7
              have c7b1 : (a0 != 32) = true := bne_iff_ne.mpr c7
              by_cases c8 : a0 = 133
              · rw [if_pos c8] at H
                have c8b0 : (a0 == 133) = true := beq_iff_eq.mpr c8
                have c8b1 : (a0 != 133) = false := bne_eq_false_iff_eq.mpr c8
                clear c8
                obtain rfl := Option.some.inj H
                go_enter Tryz.func81, Tryz.ntmps81
                go_wp2
                go_ret
                exact ⟨by first | rfl | (simp; done) | (simp [*]; done), by repeat (first | exact Drawn0.refl _ | apply Drawn0.step)⟩
              · rw [if_neg c8] at H
                have c8b0 : (a0 == 133) = false := beq_eq_false_iff_ne.mpr c8
                have c8b1 : (a0 != 133) = true := bne_iff_ne.mpr c8
                by_cases c9 : a0 = 160
                · rw [if_pos c9] at H
                  have c9b0 : (a0 == 160) = true := beq_iff_eq.mpr c9
                  have c9b1 : (a0 != 160) = false := bne_eq_false_iff_eq.mpr c9
                  clear c9
                  obtain rfl := Option.some.inj H
                  go_enter Tryz.func81, Tryz.ntmps81
                  go_wp2
                  go_ret
                  exact ⟨by first | rfl | (simp; done) | (simp [*]; done), by repeat (first | exact Drawn0.refl _ | apply Drawn0.step)⟩
                · rw [if_neg c9] at H
                  have c9b0 : (a0 == 160) = false := beq_eq_false_iff_ne.mpr c9
                  have c9b1 : (a0 != 160) = true := bne_iff_ne.mpr c9
                  obtain rfl := Option.some.inj H
                  go_enter Tryz.func81, Tryz.ntmps81
                  go_wp2
                  go_ret
                  exact ⟨by first | rfl | (simp; done) | (simp [*]; done), by repeat (first | exact Drawn0.refl _ | apply Drawn0.step)⟩

-- NOT PRINTED: function 45 (escape_IsOrderedList)

/-! ### escape_IsUnorderedList: function 46 -/
mutual
def escape_IsUnorderedList.j0 : Nat → List Int → Int → Bool → Option (Int)
  | 0, _, _, _ => none
  | k + 1, x0, x1, x25 => if x25 = true then (some (-1)) else (escape_IsUnorderedList.l0 k x0 x1 (wrap64 (x1 - 1)))
def escape_IsUnorderedList.j2 : Nat → List Int → Int → Option (Int)
  | 0, _, _ => none
  | k + 1, x0, x1 => (escape_getNext.f k x0 x1).bind fun t156 => ((escape_IsSpace.f t156).bind fun t157 => (if t157 = true then (some 1) else (if t156 = 0 then (some 1) else (some (-1)))))
def escape_IsUnorderedList.l0 : Nat → List Int → Int → Int → Option (Int)
  | 0, _, _, _ => none
  | k + 1, x0, x1, x5 => if x5 ≥ 0 then (if 0 ≤ x5 then (if x5 < (x0.length : Int) then (if (rd x0 x5) = 10 then (escape_IsUnorderedList.j2 k x0 x1) else (if (rd x0 x5) = 32 then (escape_IsUnorderedList.l0 k x0 x1 (wrap64 (x5 - 1))) else (if (rd x0 x5) = 7 then (escape_IsUnorderedList.l0 k x0 x1 (wrap64 (x5 - 1))) else (some (-1))))) else (none)) else (none)) else (escape_IsUnorderedList.j2 k x0 x1)
end
def escape_IsUnorderedList.f (k : Nat) (l0 : List Int) (a1 : Int) : Option (Int) := if 0 ≤ a1 then (if a1 < (l0.length : Int) then (if (rd l0 a1) = 45 then (escape_IsUnorderedList.j0 k l0 a1 false) else (if (rd l0 a1) = 42 then (escape_IsUnorderedList.j0 k l0 a1 false) else (escape_IsUnorderedList.j0 k l0 a1 ((rd l0 a1) != 43)))) else (none)) else (none)
theorem escape_IsUnorderedList.mono_l : ∀ k, (∀ y0 y1 y2, LeO (escape_IsUnorderedList.j0 k y0 y1 y2) (escape_IsUnorderedList.j0 (k + 1) y0 y1 y2)) ∧ (∀ y0 y1, LeO (escape_IsUnorderedList.j2 k y0 y1) (escape_IsUnorderedList.j2 (k + 1) y0 y1)) ∧ (∀ y0 y1 y2, LeO (escape_IsUnorderedList.l0 k y0 y1 y2) (escape_IsUnorderedList.l0 (k + 1) y0 y1 y2))
  | 0 => ⟨fun _ _ _ r h => by simp [escape_IsUnorderedList.j0] at h, fun _ _ r h => by simp [escape_IsUnorderedList.j2] at h, fun _ _ _ r h => by simp [escape_IsUnorderedList.l0] at h⟩
  | k + 1 => by
    obtain ⟨ih0, ih1, ih2⟩ := escape_IsUnorderedList.mono_l k
    refine ⟨?_, ?_, ?_⟩
    · intro y0 y1 y2
      unfold escape_IsUnorderedList.j0
      repeat' first
      | (with_reducible exact ih0 _ _ _)
      | (with_reducible exact ih1 _ _)
      | (with_reducible exact ih2 _ _ _)
      | (with_reducible exact escape_getNext.mono _ _ _)
      | (with_reducible exact LeO.refl _)
      | (with_reducible exact LeO.none _)
      | (with_reducible refine LeO.ite ?_ ?_)
      | (with_reducible refine LeO.bind ?_ (fun _ => ?_))
      | exact ih0 _ _ _
      | exact ih1 _ _
      | exact ih2 _ _ _
      | exact escape_getNext.mono _ _ _
      | exact LeO.none _
      | refine LeO.ite ?_ ?_
      | refine LeO.bind ?_ (fun _ => ?_)
    · intro y0 y1
      unfold escape_IsUnorderedList.j2
      repeat' first
      | (with_reducible exact ih0 _ _ _)
      | (with_reducible exact ih1 _ _)
      | (with_reducible exact ih2 _ _ _)
      | (with_reducible exact escape_getNext.mono _ _ _)
      | (with_reducible exact LeO.refl _)
      | (with_reducible exact LeO.none _)
      | (with_reducible refine LeO.ite ?_ ?_)
      | (with_reducible refine LeO.bind ?_ (fun _ => ?_))
      | exact ih0 _ _ _
      | exact ih1 _ _
      | exact ih2 _ _ _
      | exact escape_getNext.mono _ _ _
      | exact LeO.none _
      | refine LeO.ite ?_ ?_
      | refine LeO.bind ?_ (fun _ => ?_)
    · intro y0 y1 y2
      unfold escape_IsUnorderedList.l0
      repeat' first
      | (with_reducible exact ih0 _ _ _)
      | (with_reducible exact ih1 _ _)
      | (with_reducible exact ih2 _ _ _)
      | (with_reducible exact escape_getNext.mono _ _ _)
      | (with_reducible exact LeO.refl _)
      | (with_reducible exact LeO.none _)
      | (with_reducible refine LeO.ite ?_ ?_)
      | (with_reducible refine LeO.bind ?_ (fun _ => ?_))
      | exact ih0 _ _ _
      | exact ih1 _ _
      | exact ih2 _ _ _
      | exact escape_getNext.mono _ _ _
      | exact LeO.none _
      | refine LeO.ite ?_ ?_
      | refine LeO.bind ?_ (fun _ => ?_)
theorem escape_IsUnorderedList.mono : ∀ a0 a1 k, LeO (escape_IsUnorderedList.f k a0 a1) (escape_IsUnorderedList.f (k + 1) a0 a1) := by
  intro a0 a1 k
  obtain ⟨ih0, ih1, ih2⟩ := escape_IsUnorderedList.mono_l k
  unfold escape_IsUnorderedList.f
  repeat' first
      | (with_reducible exact ih0 _ _ _)
      | (with_reducible exact ih1 _ _)
      | (with_reducible exact ih2 _ _ _)
      | (with_reducible exact escape_getNext.mono _ _ _)
      | (with_reducible exact LeO.refl _)
      | (with_reducible exact LeO.none _)
      | (with_reducible refine LeO.ite ?_ ?_)
      | (with_reducible refine LeO.bind ?_ (fun _ => ?_))
      | exact ih0 _ _ _
      | exact ih1 _ _
      | exact ih2 _ _ _
      | exact escape_getNext.mono _ _ _
      | exact LeO.none _
      | refine LeO.ite ?_ ?_
      | refine LeO.bind ?_ (fun _ => ?_)
set_option maxHeartbeats 8000000 in
set_option maxRecDepth 100000 in
theorem escape_IsUnorderedList.calls (k : Nat) (A0 : Option Addr) (c0 : Nat) (l0 : List Int) (a1 : Int) (r : Int) (w : World) (hr0 : Kd.C (Kd.int .u8) w A0 l0.length l0) (hc0 : l0.length ≤ c0) (h : escape_IsUnorderedList.f k l0 a1 = some r) :
    Calls Tryz.prog 46 #[.slice A0 l0.length c0, .int .i64 a1] w fun e w' => e = .returned (.int .i64 r) ∧ Drawn0 w w' := by
  have HR0 := Aside0.mk hr0
  have HC0 := Aside0.mk hc0
  clear hr0 hc0
  have H : (if 0 ≤ a1 then (if a1 < (l0.length : Int) then (if (rd l0 a1) = 45 then (escape_IsUnorderedList.j0 k l0 a1 false) else (if (rd l0 a1) = 42 then (escape_IsUnorderedList.j0 k l0 a1 false) else (escape_IsUnorderedList.j0 k l0 a1 ((rd l0 a1) != 43)))) else (none)) else (none)) = some r := h
  clear h
  have HC3 := Aside0.mk H
  clear H
  go_enter Tryz.func46, Tryz.ntmps46
  go_upto_region 1 with (fail)
  go_cut [25] (fun v25 wc => ∃ (kq : Nat) (x25_2 : Bool), v25 = .bool x25_2 ∧ Aside0 (escape_IsUnorderedList.j0 kq l0 a1 x25_2 = some r) ∧ Aside0 (kq ≤ k) ∧ Drawn0 w wc)
  case first =>
    have H := HC3.out
    clear HC3
    by_cases c4 : 0 ≤ a1
    · rw [if_pos c4] at H
      have c4b0 : decide (0 ≤ a1) = true := decide_eq_true c4
      clear c4
      (first | rw [c4b0] | (simp only [i64_w, i32_w]; rw [c4b0]) | skip)
      by_cases c5 : a1 < (l0.length : Int)
      · rw [if_pos c5] at H
        have c5b0 : decide (a1 < (l0.length : Int)) = true := decide_eq_true c5
        clear c5
        by_cases c6 : (rd l0 a1) = 45
        · rw [if_pos c6] at H
          have c6b0 : ((rd l0 a1) == 45) = true := beq_iff_eq.mpr c6
          have c6b1 : ((rd l0 a1) != 45) = false := bne_eq_false_iff_eq.mpr c6
          clear c6
          have H' := Aside0.mk H
          clear H
          have p150 : 0 ≤ (a1 : Int) := of_decide_eq_true (by first | (with_reducible assumption) | assumption)
          have q150 : a1 < (l0.length : Int) := of_decide_eq_true (by first | (with_reducible assumption) | assumption)
          obtain ⟨ad150, e150, hx150_0⟩ := Kd.at_int HR0.out a1 p150 q150
          cases e150
          replace p150 := eq_true p150
          replace q150 := eq_true q150
          go_wp2
          go_meet
          case rel => exact ⟨_, (false), (by first | rfl | (simp; done) | (simp [*]; done)), H', ⟨by first | omega | exact Nat.le_refl _⟩, by repeat (first | exact Drawn0.refl _ | apply Drawn0.step)⟩
        · rw [if_neg c6] at H
          have c6b0 : ((rd l0 a1) == 45) = false := beq_eq_false_iff_ne.mpr c6
          have c6b1 : ((rd l0 a1) != 45) = true := bne_iff_ne.mpr c6
          by_cases c7 : (rd l0 a1) = 42
          · rw [if_pos c7] at H
            have c7b0 : ((rd l0 a1) == 42) = true := beq_iff_eq.mpr c7
            have c7b1 : ((rd l0 a1) != 42) = false := bne_eq_false_iff_eq.mpr c7
            clear c7
            have H' := Aside0.mk H
            clear H
            have p150 : 0 ≤ (a1 : Int) := of_decide_eq_true (by first | (with_reducible assumption) | assumption)
            have q150 : a1 < (l0.length : Int) := of_decide_eq_true (by first | (with_reducible assumption) | assumption)
            obtain ⟨ad150, e150, hx150_0⟩ := Kd.at_int HR0.out a1 p150 q150
            cases e150
            replace p150 := eq_true p150
            replace q150 := eq_true q150
            have p151 : 0 ≤ (a1 : Int) := of_decide_eq_true (by first | (with_reducible assumption) | assumption)
            have q151 : a1 < (l0.length : Int) := of_decide_eq_true (by first | (with_reducible assumption) | assumption)
            obtain ⟨ad151, e151, hx151_0⟩ := Kd.at_int HR0.out a1 p151 q151
            obtain rfl : ad150 = ad151 := (by injection e151)
            replace p151 := eq_true p151
            replace q151 := eq_true q151
            go_wp2
            go_meet
            case rel => exact ⟨_, (false), (by first | rfl | (simp; done) | (simp [*]; done)), H', ⟨by first | omega | exact Nat.le_refl _⟩, by repeat (first | exact Drawn0.refl _ | apply Drawn0.step)⟩
          · rw [if_neg c7] at H
            have c7b0 : ((rd l0 a1) == 42) = false := beq_eq_false_iff_ne.mpr c7
            have c7b1 : ((rd l0 a1) != 42) = true := bne_iff_ne.mpr c7
            have H' := Aside0.mk H
            clear H
            have p150 : 0 ≤ (a1 : Int) := of_decide_eq_true (by first | (with_reducible assumption) | assumption)
            have q150 : a1 < (l0.length : Int) := of_decide_eq_true (by first | (with_reducible assumption) | assumption)
            obtain ⟨ad150, e150, hx150_0⟩ := Kd.at_int HR0.out a1 p150 q150
            cases e150
            replace p150 := eq_true p150
            replace q150 := eq_true q150
            have p151 : 0 ≤ (a1 : Int) := of_decide_eq_true (by first | (with_reducible assumption) | assumption)
            have q151 : a1 < (l0.length : Int) := of_decide_eq_true (by first | (with_reducible assumption) | assumption)
            obtain ⟨ad151, e151, hx151_0⟩ := Kd.at_int HR0.out a1 p151 q151
            obtain rfl : ad150 = ad151 := (by injection e151)
            replace p151 := eq_true p151
            replace q151 := eq_true q151
            have p152 : 0 ≤ (a1 : Int) := of_decide_eq_true (by first | (with_reducible assumption) | assumption)
            have q152 : a1 < (l0.length : Int) := of_decide_eq_true (by first | (with_reducible assumption) | assumption)
            obtain ⟨ad152, e152, hx152_0⟩ := Kd.at_int HR0.out a1 p152 q152
            obtain rfl : ad150 = ad152 := (by injection e152)
            replace p152 := eq_true p152
            replace q152 := eq_true q152
            go_wp2
            go_meet
            case rel => exact ⟨_, (((rd l0 a1) != 43)), (by first | rfl | (simp; done) | (simp [*]; done)), H', ⟨by first | omega | exact Nat.le_refl _⟩, by repeat (first | exact Drawn0.refl _ | apply Drawn0.step)⟩
      · rw [if_neg c5] at H
        exact absurd H (by simp)
    · rw [if_neg c4] at H
      exact absurd H (by simp)
  case rest =>
    clear HC3
    try clear p1
    try clear q1
    try clear hx1
    try clear p2
    try clear c4
    try clear c4b0
    try clear c5
    try clear c5b0
    try clear c6
    try clear c6b0
    try clear c6b1
    try clear c7
    try clear c7b0
    try clear c7b1
    try clear hx150_0
    try clear hx151_0
    try clear hx152_0
    try clear p150
    try clear p151
    try clear p152
    try clear q150
    try clear q151
    try clear q152
    obtain ⟨kq, x25_2, rfl, HA, HJ2, ⟨mc2, rfl⟩⟩ := hcut
    cases kq with
    | zero => exact absurd HA.out (by simp [escape_IsUnorderedList.j0])
    | succ kj2 =>
      have H := HA.out
      clear HA
      simp only [escape_IsUnorderedList.j0] at H
      by_cases c8 : x25_2 = true
      · subst c8
        have H1 : (some (-1)) = some r := by rw [if_pos rfl] at H; exact H
        clear H
        have H := H1
        clear H1
        obtain rfl := Option.some.inj H
        go_wp2
        go_ret
        exact ⟨by first | rfl | (simp; done) | (simp [*]; done), by repeat (first | exact Drawn0.refl _ | apply Drawn0.step)⟩
      · replace c8 := Bool.eq_false_iff.mpr c8
        subst c8
        have H1 : (escape_IsUnorderedList.l0 kj2 l0 a1 (wrap64 (a1 - 1))) = some r := by rw [if_neg (show ¬ (false = true) by decide)] at H; exact H
        clear H
        have H := H1
        clear H1
        have HC9 := Aside0.mk H
        clear H
        go_upto_block 0 with (fail)
        go_cut [] (fun wc => ∃ (kq : Nat), Aside0 (escape_IsUnorderedList.j2 kq l0 a1 = some r) ∧ Aside0 (kq ≤ kj2) ∧ Drawn0 w wc)
        case first =>
          have H := HC9.out
          clear HC9
          have H' := Aside0.mk H
          clear H
          go_wp2
          go_loopg [5] kj2 (fun kq v5 w' => ∃ (x5_2 : Int), v5 = .int .i64 x5_2 ∧ Aside0 (escape_IsUnorderedList.l0 kq l0 a1 x5_2 = some r) ∧ Aside0 (kq ≤ kj2) ∧ Drawn0 w w')
          case atStart => exact ⟨(wrap64 (a1 - 1)), (by first | rfl | (simp; done) | (simp [*]; done)), H', ⟨Nat.le_refl _⟩, by repeat (first | exact Drawn0.refl _ | apply Drawn0.step)⟩
          case round =>
            clear H'
            try clear p1
            try clear q1
            try clear hx1
            try clear c2
            try clear p2
            try clear c4
            try clear c4b0
            try clear c5
            try clear c5b0
            try clear c6
            try clear c6b0
            try clear c6b1
            try clear p6
            try clear c7
            try clear c7b0
            try clear c7b1
            try clear c8
            try clear hx150_0
            try clear hx151_0
            try clear hx152_0
            try clear p1
            try clear p150
            try clear p151
            try clear p152
            try clear p2
            try clear q1
            try clear q150
            try clear q151
            try clear q152
            obtain ⟨x5_2, rfl, HA, HK2, ⟨m2, rfl⟩⟩ := hrel
            cases gk with
            | zero => exact absurd HA.out (by simp [escape_IsUnorderedList.l0])
            | succ k2 =>
              have H := HA.out
              clear HA
              simp only [escape_IsUnorderedList.l0] at H
              by_cases c10 : x5_2 ≥ 0
              · rw [if_pos c10] at H
                have c10b0 : decide (0 ≤ x5_2) = true := decide_eq_true c10
                clear c10
                (first | rw [c10b0] | (simp only [i64_w, i32_w]; rw [c10b0]) | skip)
                by_cases c11 : 0 ≤ x5_2
                · rw [if_pos c11] at H
                  have c11b0 : decide (0 ≤ x5_2) = true := decide_eq_true c11
                  clear c11
                  by_cases c12 : x5_2 < (l0.length : Int)
                  · rw [if_pos c12] at H
                    have c12b0 : decide (x5_2 < (l0.length : Int)) = true := decide_eq_true c12
                    clear c12
                    by_cases c13 : (rd l0 x5_2) = 10
                    · rw [if_pos c13] at H
                      have c13b0 : ((rd l0 x5_2) == 10) = true := beq_iff_eq.mpr c13
                      have c13b1 : ((rd l0 x5_2) != 10) = false := bne_eq_false_iff_eq.mpr c13
                      clear c13
                      have H' := Aside0.mk H
                      clear H
                      have p153 : 0 ≤ (x5_2 : Int) := of_decide_eq_true (by first | (with_reducible assumption) | assumption)
                      have q153 : x5_2 < (l0.length : Int) := of_decide_eq_true (by first | (with_reducible assumption) | assumption)
                      obtain ⟨ad153, e153, hx153_0⟩ := Kd.at_int HR0.out x5_2 p153 q153
                      cases e153
                      replace p153 := eq_true p153
                      replace q153 := eq_true q153
                      go_wp2
                      go_meet
                      case rel => exact ⟨_, H', ⟨by have := HJ2.out; have := HK2.out; first | omega | exact Nat.le_refl _⟩, by repeat (first | exact Drawn0.refl _ | apply Drawn0.step)⟩
                    · rw [if_neg c13] at H
                      have c13b0 : ((rd l0 x5_2) == 10) = false := beq_eq_false_iff_ne.mpr c13
                      have c13b1 : ((rd l0 x5_2) != 10) = true := bne_iff_ne.mpr c13
                      by_cases c14 : (rd l0 x5_2) = 32
                      · rw [if_pos c14] at H
                        have c14b0 : ((rd l0 x5_2) == 32) = true := beq_iff_eq.mpr c14
                        have c14b1 : ((rd l0 x5_2) != 32) = false := bne_eq_false_iff_eq.mpr c14
                        clear c14
                        have H' := Aside0.mk H
                        clear H
                        have p153 : 0 ≤ (x5_2 : Int) := of_decide_eq_true (by first | (with_reducible assumption) | assumption)
                        have q153 : x5_2 < (l0.length : Int) := of_decide_eq_true (by first | (with_reducible assumption) | assumption)
                        obtain ⟨ad153, e153, hx153_0⟩ := Kd.at_int HR0.out x5_2 p153 q153
                        cases e153
                        replace p153 := eq_true p153
                        replace q153 := eq_true q153
                        have p154 : 0 ≤ (x5_2 : Int) := of_decide_eq_true (by first | (with_reducible assumption) | assumption)
                        have q154 : x5_2 < (l0.length : Int) := of_decide_eq_true (by first | (with_reducible assumption) | assumption)
                        obtain ⟨ad154, e154, hx154_0⟩ := Kd.at_int HR0.out x5_2 p154 q154
                        obtain rfl : ad153 = ad154 := (by injection e154)
                        replace p154 := eq_true p154
                        replace q154 := eq_true q154
                        go_wp2
                        go_roundg k2
                        case measure => have := HJ2.out; have := HK2.out; omega
                        case rel => exact ⟨(wrap64 (x5_2 - 1)), (by first | rfl | (simp; done) | (simp [*]; done)), H', ⟨by have := HJ2.out; have := HK2.out; omega⟩, by repeat (first | exact Drawn0.refl _ | apply Drawn0.step)⟩
                      · rw [if_neg c14] at H
                        have c14b0 : ((rd l0 x5_2) == 32) = false := beq_eq_false_iff_ne.mpr c14
                        have c14b1 : ((rd l0 x5_2) != 32) = true := bne_iff_ne.mpr c14
                        by_cases c15 : (rd l0 x5_2) = 7
                        · rw [if_pos c15] at H
                          have c15b0 : ((rd l0 x5_2) == 7) = true := beq_iff_eq.mpr c15
                          have c15b1 : ((rd l0 x5_2) != 7) = false := bne_eq_false_iff_eq.mpr c15
                          clear c15
                          have H' := Aside0.mk H
                          clear H
                          have p153 : 0 ≤ (x5_2 : Int) := of_decide_eq_true (by first | (with_reducible assumption) | assumption)
                          have q153 : x5_2 < (l0.length : Int) := of_decide_eq_true (by first | (with_reducible assumption) | assumption)
                          obtain ⟨ad153, e153, hx153_0⟩ := Kd.at_int HR0.out x5_2 p153 q153
                          cases e153
                          replace p153 := eq_true p153
                          replace q153 := eq_true q153
                          have p154 : 0 ≤ (x5_2 : Int) := of_decide_eq_true (by first | (with_reducible assumption) | assumption)
                          have q154 : x5_2 < (l0.length : Int) := of_decide_eq_true (by first | (with_reducible assumption) | assumption)
                          obtain ⟨ad154, e154, hx154_0⟩ := Kd.at_int HR0.out x5_2 p154 q154
                          obtain rfl : ad153 = ad154 := (by injection e154)
                          replace p154 := eq_true p154
                          replace q154 := eq_true q154
                          have p155 : 0 ≤ (x5_2 : Int) := of_decide_eq_true (by first | (with_reducible assumption) | assumption)
                          have q155 : x5_2 < (l0.length : Int) := of_decide_eq_true (by first | (with_reducible assumption) | assumption)
                          obtain ⟨ad155, e155, hx155_0⟩ := Kd.at_int HR0.out x5_2 p155 q155
                          obtain rfl : ad153 = ad155 := (by injection e155)
                          replace p155 := eq_true p155
                          replace q155 := eq_true q155
                          go_wp2
                          go_roundg k2
                          case measure => have := HJ2.out; have := HK2.out; omega
                          case rel => exact ⟨(wrap64 (x5_2 - 1)), (by first | rfl | (simp; done) | (simp [*]; done)), H', ⟨by have := HJ2.out; have := HK2.out; omega⟩, by repeat (first | exact Drawn0.refl _ | apply Drawn0.step)⟩
                        · rw [if_neg c15] at H
                          have c15b0 : ((rd l0 x5_2) == 7) = false := beq_eq_false_iff_ne.mpr c15
                          have c15b1 : ((rd l0 x5_2) != 7) = true := bne_iff_ne.mpr c15
                          obtain rfl := Option.some.inj H
                          have p153 : 0 ≤ (x5_2 : Int) := of_decide_eq_true (by first | (with_reducible assumption) | assumption)
                          have q153 : x5_2 < (l0.length : Int) := of_decide_eq_true (by first | (with_reducible assumption) | assumption)
                          obtain ⟨ad153, e153, hx153_0⟩ := Kd.at_int HR0.out x5_2 p153 q153
                          cases e153
                          replace p153 := eq_true p153
                          replace q153 := eq_true q153
                          have p154 : 0 ≤ (x5_2 : Int) := of_decide_eq_true (by first | (with_reducible assumption) | assumption)
                          have q154 : x5_2 < (l0.length : Int) := of_decide_eq_true (by first | (with_reducible assumption) | assumption)
                          obtain ⟨ad154, e154, hx154_0⟩ := Kd.at_int HR0.out x5_2 p154 q154
                          obtain rfl : ad153 = ad154 := (by injection e154)
                          replace p154 := eq_true p154
                          replace q154 := eq_true q154
                          have p155 : 0 ≤ (x5_2 : Int) := of_decide_eq_true (by first | (with_reducible assumption) | assumption)
                          have q155 : x5_2 < (l0.length : Int) := of_decide_eq_true (by first | (with_reducible assumption) | assumption)
                          obtain ⟨ad155, e155, hx155_0⟩ := Kd.at_int HR0.out x5_2 p155 q155
                          obtain rfl : ad153 = ad155 := (by injection e155)
                          replace p155 := eq_true p155
                          replace q155 := eq_true q155
                          go_wp2
                          go_ret
                          exact ⟨by first | rfl | (simp; done) | (simp [*]; done), by repeat (first | exact Drawn0.refl _ | apply Drawn0.step)⟩
                  · rw [if_neg c12] at H
                    exact absurd H (by simp)
                · rw [if_neg c11] at H
                  exact absurd H (by simp)
              · rw [if_neg c10] at H
                have c10b0 : decide (0 ≤ x5_2) = false := decide_eq_false c10
                clear c10
                (first | rw [c10b0] | (simp only [i64_w, i32_w]; rw [c10b0]) | skip)
                have H' := Aside0.mk H
                clear H
                go_wp2
                go_meet
                case rel => exact ⟨_, H', ⟨by have := HJ2.out; have := HK2.out; first | omega | exact Nat.le_refl _⟩, by repeat (first | exact Drawn0.refl _ | apply Drawn0.step)⟩
        case rest =>
          clear HC9
          try clear c1
          try clear p1
          try clear q1
          try clear hx1
          try clear c2
          try clear p2
          try clear c4
          try clear c4b0
          try clear c5
          try clear c5b0
          try clear c6
          try clear c6b0
          try clear c6b1
          try clear p6
          try clear c7
          try clear c7b0
          try clear c7b1
          try clear c8
          try clear c10
          try clear c10b0
          try clear c11
          try clear c11b0
          try clear c12
          try clear c12b0
          try clear c13
          try clear c13b0
          try clear c13b1
          try clear c14
          try clear c14b0
          try clear c14b1
          try clear c15
          try clear c15b0
          try clear c15b1
          try clear p15
          try clear q15
          try clear hx15
          try clear hx150_0
          try clear hx151_0
          try clear hx152_0
          try clear hx153_0
          try clear hx154_0
          try clear hx155_0
          try clear p1
          try clear p150
          try clear p151
          try clear p152
          try clear p153
          try clear p154
          try clear p155
          try clear p2
          try clear p6
          try clear q1
          try clear q150
          try clear q151
          try clear q152
          try clear q153
          try clear q154
          try clear q155
          obtain ⟨kq, HA, HJ8, ⟨mc8, rfl⟩⟩ := hcut
          cases kq with
          | zero => exact absurd HA.out (by simp [escape_IsUnorderedList.j2])
          | succ kj8 =>
            have H := HA.out
            clear HA
            simp only [escape_IsUnorderedList.j2] at H
            replace H := Option.bind_eq_some_iff.mp H
            obtain ⟨t156, A160, H⟩ := H
            replace H : ((escape_IsSpace.f t156).bind fun t157 => (if t157 = true then (some 1) else (if t156 = 0 then (some 1) else (some (-1))))) = some r := H
            have A16 := Aside0.mk A160
            clear A160
            replace H := Option.bind_eq_some_iff.mp H
            obtain ⟨t157, A170, H⟩ := H
            replace H : (if t157 = true then (some 1) else (if t156 = 0 then (some 1) else (some (-1)))) = some r := H
            have A17 := Aside0.mk A170
            clear A170
            by_cases c18 : t157 = true
            · subst c18
              have H1 : (some 1) = some r := by rw [if_pos rfl] at H; exact H
              clear H
              have H := H1
              clear H1
              obtain rfl := Option.some.inj H
              go_wp2_with (first | ((with_reducible refine gate_callee (f := 80) rfl ?_); refine goesL_ (some 49) rfl rfl Tryz.func80 (by kernel_rfl) rfl #[.slice A0 l0.length c0, .int .i64 a1] rfl (by (try simp only [List.map_toArray, List.map_cons, List.map_nil]); first | done | rfl | (simp only [List.length_drop, List.length_take]; rfl)) ?_; (with_reducible refine (escape_getNext.calls kj8 _ _ l0 a1 t156 _ ?side1 ?side2 A16.out).mono ?_); (case side1 => repeat (first | exact HR0.out | (with_reducible refine Kd.C_alloc ?_ _) | (with_reducible refine Kd.C_drewN ?_ _) | (with_reducible refine Kd.C_drew ?_))); (case side2 => exact HC0.out); rintro e w' ⟨rfl, ⟨nd, rfl⟩⟩; refine ⟨_, rfl, ?_⟩) | ((with_reducible refine gate_callee (f := 81) rfl ?_); refine goesL_ (some 51) rfl rfl Tryz.func81 (by kernel_rfl) rfl #[.int .u8 t156] rfl (by (try simp only [List.map_toArray, List.map_cons, List.map_nil]); first | done | rfl | (simp only [List.length_drop, List.length_take]; rfl)) ?_; (with_reducible refine (escape_IsSpace.calls t156 true _ A17.out).mono ?_); rintro e w' ⟨rfl, ⟨nd, rfl⟩⟩; refine ⟨_, rfl, ?_⟩))
              go_ret
              exact ⟨by first | rfl | (simp; done) | (simp [*]; done), by repeat (first | exact Drawn0.refl _ | apply Drawn0.step)⟩
            · replace c18 := Bool.eq_false_iff.mpr c18
              subst c18
              have H1 : (if t156 = 0 then (some 1) else (some (-1))) = some r := by rw [if_neg (show ¬ (false = true) by decide)] at H; exact H
              clear H
              have H := H1
              clear H1
              by_cases c19 : t156 = 0
              · rw [if_pos c19] at H
                have c19b0 : (t156 == 0) = true := beq_iff_eq.mpr c19
                have c19b1 : (t156 != 0) = false := bne_eq_false_iff_eq.mpr c19
                clear c19
                obtain rfl := Option.some.inj H
                go_wp2_with (first | ((with_reducible refine gate_callee (f := 80) rfl ?_); refine goesL_ (some 49) rfl rfl Tryz.func80 (by kernel_rfl) rfl #[.slice A0 l0.length c0, .int .i64 a1] rfl (by (try simp only [List.map_toArray, List.map_cons, List.map_nil]); first | done | rfl | (simp only [List.length_drop, List.length_take]; rfl)) ?_; (with_reducible refine (escape_getNext.calls kj8 _ _ l0 a1 t156 _ ?side1 ?side2 A16.out).mono ?_); (case side1 => repeat (first | exact HR0.out | (with_reducible refine Kd.C_alloc ?_ _) | (with_reducible refine Kd.C_drewN ?_ _) | (with_reducible refine Kd.C_drew ?_))); (case side2 => exact HC0.out); rintro e w' ⟨rfl, ⟨nd, rfl⟩⟩; refine ⟨_, rfl, ?_⟩) | ((with_reducible refine gate_callee (f := 81) rfl ?_); refine goesL_ (some 51) rfl rfl Tryz.func81 (by kernel_rfl) rfl #[.int .u8 t156] rfl (by (try simp only [List.map_toArray, List.map_cons, List.map_nil]); first | done | rfl | (simp only [List.length_drop, List.length_take]; rfl)) ?_; (with_reducible refine (escape_IsSpace.calls t156 false _ A17.out).mono ?_); rintro e w' ⟨rfl, ⟨nd, rfl⟩⟩; refine ⟨_, rfl, ?_⟩))
                go_ret
                exact ⟨by first | rfl | (simp; done) | (simp [*]; done), by repeat (first | exact Drawn0.refl _ | apply Drawn0.step)⟩
              · rw [if_neg c19] at H
                have c19b0 : (t156 == 0) = false := beq_eq_false_iff_ne.mpr c19
                have c19b1 : (t156 != 0) = true := bne_iff_ne.mpr c19
                obtain rfl := Option.some.inj H
                go_wp2_with (first | ((with_reducible refine gate_callee (f := 80) rfl ?_); refine goesL_ (some 49) rfl rfl Tryz.func80 (by kernel_rfl) rfl #[.slice A0 l0.length c0, .int .i64 a1] rfl (by (try simp only [List.map_toArray, List.map_cons, List.map_nil]); first | done | rfl | (simp only [List.length_drop, List.length_take]; rfl)) ?_; (with_reducible refine (escape_getNext.calls kj8 _ _ l0 a1 t156 _ ?side1 ?side2 A16.out).mono ?_); (case side1 => repeat (first | exact HR0.out | (with_reducible refine Kd.C_alloc ?_ _) | (with_reducible refine Kd.C_drewN ?_ _) | (with_reducible refine Kd.C_drew ?_))); (case side2 => exact HC0.out); rintro e w' ⟨rfl, ⟨nd, rfl⟩⟩; refine ⟨_, rfl, ?_⟩) | ((with_reducible refine gate_callee (f := 81) rfl ?_); refine goesL_ (some 51) rfl rfl Tryz.func81 (by kernel_rfl) rfl #[.int .u8 t156] rfl (by (try simp only [List.map_toArray, List.map_cons, List.map_nil]); first | done | rfl | (simp only [List.length_drop, List.length_take]; rfl)) ?_; (with_reducible refine (escape_IsSpace.calls t156 false _ A17.out).mono ?_); rintro e w' ⟨rfl, ⟨nd, rfl⟩⟩; refine ⟨_, rfl, ?_⟩))
                go_ret
                exact ⟨by first | rfl | (simp; done) | (simp [*]; done), by repeat (first | exact Drawn0.refl _ | apply Drawn0.step)⟩

end Go.Proofs.YtbkimfhlgpgoiaaGreatDoor.Ptested
