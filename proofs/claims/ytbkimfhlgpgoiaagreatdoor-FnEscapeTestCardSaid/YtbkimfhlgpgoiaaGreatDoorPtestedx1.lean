-- PRINTED BY print.sh 35421559b90ae4d0a3588c463048766b98c2df88dd9212a6774a882060cdf62d: not written by this session
import Derived.Test.YtbkimfhlgpgoiaaGreatDoorPtestedx0
namespace Go.Proofs.YtbkimfhlgpgoiaaGreatDoor.Ptested
open Go.RowKit Go.Proofs.YtbkimfhlgpgoiaaGreatDoorW.PrintWords Go.Proofs.YtbkimfhlgpgoiaaGreatDoorW.PrintLast Go.Proofs.YtbkimfhlgpgoiaaGreatDoorW.PrintMore
attribute [local go_sem] max2_int min2_int max_two min_two max_three min_three max_four min_four   -- for this text's walks alone
set_option linter.unusedVariables false
set_option linter.unusedSimpArgs false

-- NOT PRINTED: function 116 (unicode_is16)

-- NOT PRINTED: function 117 (unicode_is32)

-- NOT PRINTED: function 84 (unicode_isExcludingLatin)

-- NOT PRINTED: function 51 (unicode_IsSpace)

-- NOT PRINTED: function 113 (utf8_decodeRuneSlow)

-- NOT PRINTED: function 70 (utf8_DecodeRune)

-- NOT PRINTED: function 76 (escape_getNextAsRune)

-- NOT PRINTED: function 40 (escape_IsItalicOrBold)

/-! ### escape_IsBlockQuote: function 41 -/
def escape_IsBlockQuote.l0 : Nat → List Int → Int → Option (Int)
  | 0, _, _ => none
  | k + 1, x0, x5 => if x5 ≥ 0 then (if 0 ≤ x5 then (if x5 < (x0.length : Int) then (if (rd x0 x5) = 10 then (some 1) else (if (rd x0 x5) = 7 then (escape_IsBlockQuote.l0 k x0 (wrap64 (x5 - 1))) else (if (rd x0 x5) = 32 then (escape_IsBlockQuote.l0 k x0 (wrap64 (x5 - 1))) else (some (-1))))) else (none)) else (none)) else (some 1)
def escape_IsBlockQuote.f (k : Nat) (l0 : List Int) (a1 : Int) : Option (Int) := if 0 ≤ a1 then (if a1 < (l0.length : Int) then (if (rd l0 a1) = 62 then (escape_IsBlockQuote.l0 k l0 (wrap64 (a1 - 1))) else (some (-1))) else (none)) else (none)
theorem escape_IsBlockQuote.mono_l : ∀ k, (∀ y0 y1, LeO (escape_IsBlockQuote.l0 k y0 y1) (escape_IsBlockQuote.l0 (k + 1) y0 y1))
  | 0 => fun _ _ r h => by simp [escape_IsBlockQuote.l0] at h
  | k + 1 => by
    have ih0 := escape_IsBlockQuote.mono_l k
    · intro y0 y1
      unfold escape_IsBlockQuote.l0
      repeat' first
      | (with_reducible exact ih0 _ _)
      | (with_reducible exact LeO.refl _)
      | (with_reducible exact LeO.none _)
      | (with_reducible refine LeO.ite ?_ ?_)
      | (with_reducible refine LeO.bind ?_ (fun _ => ?_))
      | exact ih0 _ _
      | exact LeO.none _
      | refine LeO.ite ?_ ?_
      | refine LeO.bind ?_ (fun _ => ?_)
theorem escape_IsBlockQuote.mono : ∀ a0 a1 k, LeO (escape_IsBlockQuote.f k a0 a1) (escape_IsBlockQuote.f (k + 1) a0 a1) := by
  intro a0 a1 k
  have ih0 := escape_IsBlockQuote.mono_l k
  unfold escape_IsBlockQuote.f
  repeat' first
      | (with_reducible exact ih0 _ _)
      | (with_reducible exact LeO.refl _)
      | (with_reducible exact LeO.none _)
      | (with_reducible refine LeO.ite ?_ ?_)
      | (with_reducible refine LeO.bind ?_ (fun _ => ?_))
      | exact ih0 _ _
      | exact LeO.none _
      | refine LeO.ite ?_ ?_
      | refine LeO.bind ?_ (fun _ => ?_)
set_option maxHeartbeats 8000000 in
set_option maxRecDepth 100000 in
theorem escape_IsBlockQuote.calls (k : Nat) (A0 : Option Addr) (c0 : Nat) (l0 : List Int) (a1 : Int) (r : Int) (w : World) (hr0 : Kd.C (Kd.int .u8) w A0 l0.length l0) (hc0 : l0.length ≤ c0) (h : escape_IsBlockQuote.f k l0 a1 = some r) :
    Calls Tryz.prog 41 #[.slice A0 l0.length c0, .int .i64 a1] w fun e w' => e = .returned (.int .i64 r) ∧ Drawn0 w w' := by
  have HR0 := Aside0.mk hr0
  have HC0 := Aside0.mk hc0
  clear hr0 hc0
  have H : (if 0 ≤ a1 then (if a1 < (l0.length : Int) then (if (rd l0 a1) = 62 then (escape_IsBlockQuote.l0 k l0 (wrap64 (a1 - 1))) else (some (-1))) else (none)) else (none)) = some r := h
  clear h
  by_cases c3 : 0 ≤ a1
  · rw [if_pos c3] at H
    have c3b0 : decide (0 ≤ a1) = true := decide_eq_true c3
    clear c3
    by_cases c4 : a1 < (l0.length : Int)
    · rw [if_pos c4] at H
      have c4b0 : decide (a1 < (l0.length : Int)) = true := decide_eq_true c4
      clear c4
      by_cases c5 : (rd l0 a1) = 62
      · rw [if_pos c5] at H
        have c5b0 : ((rd l0 a1) == 62) = true := beq_iff_eq.mpr c5
        have c5b1 : ((rd l0 a1) != 62) = false := bne_eq_false_iff_eq.mpr c5
        clear c5
        have H' := Aside0.mk H
        clear H
        have p110 : 0 ≤ (a1 : Int) := of_decide_eq_true (by first | (with_reducible assumption) | assumption)
        have q110 : a1 < (l0.length : Int) := of_decide_eq_true (by first | (with_reducible assumption) | assumption)
        obtain ⟨ad110, e110, hx110_0⟩ := Kd.at_int HR0.out a1 p110 q110
        cases e110
        replace p110 := eq_true p110
        replace q110 := eq_true q110
        go_enter Tryz.func41, Tryz.ntmps41
        go_wp2
        go_loopg [5] k (fun kq v5 w' => ∃ (x5_1 : Int), v5 = .int .i64 x5_1 ∧ Aside0 (escape_IsBlockQuote.l0 kq l0 x5_1 = some r) ∧ Aside0 (kq ≤ k) ∧ Drawn0 w w')
        case atStart => exact ⟨(wrap64 (a1 - 1)), (by first | rfl | (simp; done) | (simp [*]; done)), H', ⟨Nat.le_refl _⟩, by repeat (first | exact Drawn0.refl _ | apply Drawn0.step)⟩
        case round =>
          clear H'
          try clear p1
          try clear q1
          try clear hx1
          try clear p2
          try clear c3
          try clear c3b0
          try clear c4
          try clear c4b0
          try clear c5
          try clear c5b0
          try clear c5b1
          try clear hx110_0
          try clear p110
          try clear q110
          obtain ⟨x5_1, rfl, HA, HK1, ⟨m1, rfl⟩⟩ := hrel
          cases gk with
          | zero => exact absurd HA.out (by simp [escape_IsBlockQuote.l0])
          | succ k1 =>
            have H := HA.out
            clear HA
            simp only [escape_IsBlockQuote.l0] at H
            by_cases c6 : x5_1 ≥ 0
            · rw [if_pos c6] at H
              have c6b0 : decide (0 ≤ x5_1) = true := decide_eq_true c6
              clear c6
              by_cases c7 : 0 ≤ x5_1
              · rw [if_pos c7] at H
                have c7b0 : decide (0 ≤ x5_1) = true := decide_eq_true c7
                clear c7
                by_cases c8 : x5_1 < (l0.length : Int)
                · rw [if_pos c8] at H
                  have c8b0 : decide (x5_1 < (l0.length : Int)) = true := decide_eq_true c8
                  clear c8
                  by_cases c9 : (rd l0 x5_1) = 10
                  · rw [if_pos c9] at H
                    have c9b0 : ((rd l0 x5_1) == 10) = true := beq_iff_eq.mpr c9
                    have c9b1 : ((rd l0 x5_1) != 10) = false := bne_eq_false_iff_eq.mpr c9
                    clear c9
                    obtain rfl := Option.some.inj H
                    have p111 : 0 ≤ (x5_1 : Int) := of_decide_eq_true (by first | (with_reducible assumption) | assumption)
                    have q111 : x5_1 < (l0.length : Int) := of_decide_eq_true (by first | (with_reducible assumption) | assumption)
                    obtain ⟨ad111, e111, hx111_0⟩ := Kd.at_int HR0.out x5_1 p111 q111
                    obtain rfl : ad110 = ad111 := (by injection e111)
                    replace p111 := eq_true p111
                    replace q111 := eq_true q111
                    go_wp2
                    go_ret
                    exact ⟨by first | rfl | (simp; done) | (simp [*]; done), by repeat (first | exact Drawn0.refl _ | apply Drawn0.step)⟩
                  · rw [if_neg c9] at H
                    have c9b0 : ((rd l0 x5_1) == 10) = false := beq_eq_false_iff_ne.mpr c9
                    have c9b1 : ((rd l0 x5_1) != 10) = true := bne_iff_ne.mpr c9
                    by_cases c10 : (rd l0 x5_1) = 7
                    · rw [if_pos c10] at H
                      have c10b0 : ((rd l0 x5_1) == 7) = true := beq_iff_eq.mpr c10
                      have c10b1 : ((rd l0 x5_1) != 7) = false := bne_eq_false_iff_eq.mpr c10
                      clear c10
                      have H' := Aside0.mk H
                      clear H
                      have p111 : 0 ≤ (x5_1 : Int) := of_decide_eq_true (by first | (with_reducible assumption) | assumption)
                      have q111 : x5_1 < (l0.length : Int) := of_decide_eq_true (by first | (with_reducible assumption) | assumption)
                      obtain ⟨ad111, e111, hx111_0⟩ := Kd.at_int HR0.out x5_1 p111 q111
                      obtain rfl : ad110 = ad111 := (by injection e111)
                      replace p111 := eq_true p111
                      replace q111 := eq_true q111
                      have p112 : 0 ≤ (x5_1 : Int) := of_decide_eq_true (by first | (with_reducible assumption) | assumption)
                      have q112 : x5_1 < (l0.length : Int) := of_decide_eq_true (by first | (with_reducible assumption) | assumption)
                      obtain ⟨ad112, e112, hx112_0⟩ := Kd.at_int HR0.out x5_1 p112 q112
                      obtain rfl : ad110 = ad112 := (by injection e112)
                      replace p112 := eq_true p112
                      replace q112 := eq_true q112
                      go_wp2
                      go_roundg k1
                      case measure => have := HK1.out; omega
                      case rel => exact ⟨(wrap64 (x5_1 - 1)), (by first | rfl | (simp; done) | (simp [*]; done)), H', ⟨by have := HK1.out; omega⟩, by repeat (first | exact Drawn0.refl _ | apply Drawn0.step)⟩
                    · rw [if_neg c10] at H
                      have c10b0 : ((rd l0 x5_1) == 7) = false := beq_eq_false_iff_ne.mpr c10
                      have c10b1 : ((rd l0 x5_1) != 7) = true := bne_iff_ne.mpr c10
                      by_cases c11 : (rd l0 x5_1) = 32
                      · rw [if_pos c11] at H
                        have c11b0 : ((rd l0 x5_1) == 32) = true := beq_iff_eq.mpr c11
                        have c11b1 : ((rd l0 x5_1) != 32) = false := bne_eq_false_iff_eq.mpr c11
                        clear c11
                        have H' := Aside0.mk H
                        clear H
                        have p111 : 0 ≤ (x5_1 : Int) := of_decide_eq_true (by first | (with_reducible assumption) | assumption)
                        have q111 : x5_1 < (l0.length : Int) := of_decide_eq_true (by first | (with_reducible assumption) | assumption)
                        obtain ⟨ad111, e111, hx111_0⟩ := Kd.at_int HR0.out x5_1 p111 q111
                        obtain rfl : ad110 = ad111 := (by injection e111)
                        replace p111 := eq_true p111
                        replace q111 := eq_true q111
                        have p112 : 0 ≤ (x5_1 : Int) := of_decide_eq_true (by first | (with_reducible assumption) | assumption)
                        have q112 : x5_1 < (l0.length : Int) := of_decide_eq_true (by first | (with_reducible assumption) | assumption)
                        obtain ⟨ad112, e112, hx112_0⟩ := Kd.at_int HR0.out x5_1 p112 q112
                        obtain rfl : ad110 = ad112 := (by injection e112)
                        replace p112 := eq_true p112
                        replace q112 := eq_true q112
                        have p113 : 0 ≤ (x5_1 : Int) := of_decide_eq_true (by first | (with_reducible assumption) | assumption)
                        have q113 : x5_1 < (l0.length : Int) := of_decide_eq_true (by first | (with_reducible assumption) | assumption)
                        obtain ⟨ad113, e113, hx113_0⟩ := Kd.at_int HR0.out x5_1 p113 q113
                        obtain rfl : ad110 = ad113 := (by injection e113)
                        replace p113 := eq_true p113
                        replace q113 := eq_true q113
                        go_wp2
                        go_roundg k1
                        case measure => have := HK1.out; omega
                        case rel => exact ⟨(wrap64 (x5_1 - 1)), (by first | rfl | (simp; done) | (simp [*]; done)), H', ⟨by have := HK1.out; omega⟩, by repeat (first | exact Drawn0.refl _ | apply Drawn0.step)⟩
                      · rw [if_neg c11] at H
                        have c11b0 : ((rd l0 x5_1) == 32) = false := beq_eq_false_iff_ne.mpr c11
                        have c11b1 : ((rd l0 x5_1) != 32) = true := bne_iff_ne.mpr c11
                        obtain rfl := Option.some.inj H
                        have p111 : 0 ≤ (x5_1 : Int) := of_decide_eq_true (by first | (with_reducible assumption) | assumption)
                        have q111 : x5_1 < (l0.length : Int) := of_decide_eq_true (by first | (with_reducible assumption) | assumption)
                        obtain ⟨ad111, e111, hx111_0⟩ := Kd.at_int HR0.out x5_1 p111 q111
                        obtain rfl : ad110 = ad111 := (by injection e111)
                        replace p111 := eq_true p111
                        replace q111 := eq_true q111
                        have p112 : 0 ≤ (x5_1 : Int) := of_decide_eq_true (by first | (with_reducible assumption) | assumption)
                        have q112 : x5_1 < (l0.length : Int) := of_decide_eq_true (by first | (with_reducible assumption) | assumption)
                        obtain ⟨ad112, e112, hx112_0⟩ := Kd.at_int HR0.out x5_1 p112 q112
                        obtain rfl : ad110 = ad112 := (by injection e112)
                        replace p112 := eq_true p112
                        replace q112 := eq_true q112
                        have p113 : 0 ≤ (x5_1 : Int) := of_decide_eq_true (by first | (with_reducible assumption) | assumption)
                        have q113 : x5_1 < (l0.length : Int) := of_decide_eq_true (by first | (with_reducible assumption) | assumption)
                        obtain ⟨ad113, e113, hx113_0⟩ := Kd.at_int HR0.out x5_1 p113 q113
                        obtain rfl : ad110 = ad113 := (by injection e113)
                        replace p113 := eq_true p113
                        replace q113 := eq_true q113
                        go_wp2
                        go_ret
                        exact ⟨by first | rfl | (simp; done) | (simp [*]; done), by repeat (first | exact Drawn0.refl _ | apply Drawn0.step)⟩
                · rw [if_neg c8] at H
                  exact absurd H (by simp)
              · rw [if_neg c7] at H
                exact absurd H (by simp)
            · rw [if_neg c6] at H
              have c6b0 : decide (0 ≤ x5_1) = false := decide_eq_false c6
              clear c6
              obtain rfl := Option.some.inj H
              go_wp2
              go_ret
              exact ⟨by first | rfl | (simp; done) | (simp [*]; done), by repeat (first | exact Drawn0.refl _ | apply Drawn0.step)⟩
      · rw [if_neg c5] at H
        have c5b0 : ((rd l0 a1) == 62) = false := beq_eq_false_iff_ne.mpr c5
        have c5b1 : ((rd l0 a1) != 62) = true := bne_iff_ne.mpr c5
        obtain rfl := Option.some.inj H
        have p110 : 0 ≤ (a1 : Int) := of_decide_eq_true (by first | (with_reducible assumption) | assumption)
        have q110 : a1 < (l0.length : Int) := of_decide_eq_true (by first | (with_reducible assumption) | assumption)
        obtain ⟨ad110, e110, hx110_0⟩ := Kd.at_int HR0.out a1 p110 q110
        cases e110
        replace p110 := eq_true p110
        replace q110 := eq_true q110
        go_enter Tryz.func41, Tryz.ntmps41
        go_wp2
        go_ret
        exact ⟨by first | rfl | (simp; done) | (simp [*]; done), by repeat (first | exact Drawn0.refl _ | apply Drawn0.step)⟩
    · rw [if_neg c4] at H
      exact absurd H (by simp)
  · rw [if_neg c3] at H
    exact absurd H (by simp)

end Go.Proofs.YtbkimfhlgpgoiaaGreatDoor.Ptested
