-- PRINTED BY print.sh 35421559b90ae4d0a3588c463048766b98c2df88dd9212a6774a882060cdf62d: not written by this session
import Derived.Test.YtbkimfhlgpgoiaaGreatDoorPtestedx0
namespace Go.Proofs.YtbkimfhlgpgoiaaGreatDoor.Ptested
open Go.RowKit Go.Proofs.YtbkimfhlgpgoiaaGreatDoorW.PrintWords Go.Proofs.YtbkimfhlgpgoiaaGreatDoorW.PrintLast Go.Proofs.YtbkimfhlgpgoiaaGreatDoorW.PrintMore
attribute [local go_sem] max2_int min2_int max_two min_two max_three min_three max_four min_four   -- for this text's walks alone
set_option linter.unusedVariables false
set_option linter.unusedSimpArgs false

/-! ### escape_isImageOrLinkStartExclamation: function 82 -/
def escape_isImageOrLinkStartExclamation.f (l0 : List Int) (a1 : Int) : Option (Int) := if (wrap64 (a1 + 1)) < (l0.length : Int) then (if 0 ≤ (wrap64 (a1 + 1)) then (if (rd l0 (wrap64 (a1 + 1))) = 91 then (some 1) else (some (-1))) else (none)) else (some (-1))
set_option maxHeartbeats 8000000 in
set_option maxRecDepth 100000 in
theorem escape_isImageOrLinkStartExclamation.calls (A0 : Option Addr) (c0 : Nat) (l0 : List Int) (a1 : Int) (r : Int) (w : World) (hr0 : Kd.C (Kd.int .u8) w A0 l0.length l0) (hc0 : l0.length ≤ c0) (h : escape_isImageOrLinkStartExclamation.f l0 a1 = some r) :
    Calls Tryz.prog 82 #[.slice A0 l0.length c0, .int .i64 a1] w fun e w' => e = .returned (.int .i64 r) ∧ Drawn0 w w' := by
  have HR0 := Aside0.mk hr0
  have HC0 := Aside0.mk hc0
  clear hr0 hc0
  have H : (if (wrap64 (a1 + 1)) < (l0.length : Int) then (if 0 ≤ (wrap64 (a1 + 1)) then (if (rd l0 (wrap64 (a1 + 1))) = 91 then (some 1) else (some (-1))) else (none)) else (some (-1))) = some r := h
  clear h
  by_cases c3 : (wrap64 (a1 + 1)) < (l0.length : Int)
  · rw [if_pos c3] at H
    have c3b0 : decide ((wrap64 (a1 + 1)) < (l0.length : Int)) = true := decide_eq_true c3
    clear c3
    obtain ⟨ji4, hji4⟩ : ∃ j_ : Int, (wrap64 (a1 + 1)) = j_ := ⟨_, rfl⟩
    replace H : (if 0 ≤ (ji4) then (if (rd l0 (ji4)) = 91 then (some 1) else (some (-1))) else (none)) = some r := by first | (rw [hji4] at H; exact H) | (simp only [hji4] at H ⊢; exact H)
    (try rw [hji4] at c3b0)
    have hji4w : (IntKind.i64.wrap (a1 + 1)) = ji4 := (i64_w _).trans hji4
    by_cases c5 : 0 ≤ (ji4)
    · rw [if_pos c5] at H
      have c5b0 : decide (0 ≤ (ji4)) = true := decide_eq_true c5
      clear c5
      by_cases c6 : (rd l0 (ji4)) = 91
      · rw [if_pos c6] at H
        have c6b0 : ((rd l0 (ji4)) == 91) = true := beq_iff_eq.mpr c6
        have c6b1 : ((rd l0 (ji4)) != 91) = false := bne_eq_false_iff_eq.mpr c6
        clear c6
        obtain rfl := Option.some.inj H
        have p158 : 0 ≤ ((ji4) : Int) := of_decide_eq_true (by first | (with_reducible assumption) | assumption)
        have q158 : (ji4) < (l0.length : Int) := of_decide_eq_true (by first | (with_reducible assumption) | assumption)
        obtain ⟨ad158, e158, hx158_0⟩ := Kd.at_int HR0.out (ji4) p158 q158
        cases e158
        replace p158 := eq_true p158
        replace q158 := eq_true q158
        go_enter Tryz.func82, Tryz.ntmps82
        go_wp2
        go_ret
        exact ⟨by first | rfl | (simp; done) | (simp only [← hji4] <;> (first | rfl | simp)) | (simp [*]; done), by repeat (first | exact Drawn0.refl _ | apply Drawn0.step)⟩
      · rw [if_neg c6] at H
        have c6b0 : ((rd l0 (ji4)) == 91) = false := beq_eq_false_iff_ne.mpr c6
        have c6b1 : ((rd l0 (ji4)) != 91) = true := bne_iff_ne.mpr c6
        obtain rfl := Option.some.inj H
        have p158 : 0 ≤ ((ji4) : Int) := of_decide_eq_true (by first | (with_reducible assumption) | assumption)
        have q158 : (ji4) < (l0.length : Int) := of_decide_eq_true (by first | (with_reducible assumption) | assumption)
        obtain ⟨ad158, e158, hx158_0⟩ := Kd.at_int HR0.out (ji4) p158 q158
        cases e158
        replace p158 := eq_true p158
        replace q158 := eq_true q158
        go_enter Tryz.func82, Tryz.ntmps82
        go_wp2
        go_ret
        exact ⟨by first | rfl | (simp; done) | (simp only [← hji4] <;> (first | rfl | simp)) | (simp [*]; done), by repeat (first | exact Drawn0.refl _ | apply Drawn0.step)⟩
    · rw [if_neg c5] at H
      exact absurd H (by simp)
  · rw [if_neg c3] at H
    have c3b0 : decide ((wrap64 (a1 + 1)) < (l0.length : Int)) = false := decide_eq_false c3
    clear c3
    obtain rfl := Option.some.inj H
    go_enter Tryz.func82, Tryz.ntmps82
    go_wp2
    go_ret
    exact ⟨by first | rfl | (simp; done) | (simp [*]; done), by repeat (first | exact Drawn0.refl _ | apply Drawn0.step)⟩

/-! ### escape_isImageOrLinkStartBracket: function 83 -/
def escape_isImageOrLinkStartBracket.l0 : Nat → List Int → Int → Option (Int)
  | 0, _, _ => none
  | k + 1, x0, x5 => if x5 < (x0.length : Int) then (if 0 ≤ x5 then (if (rd x0 x5) = 10 then (some (-1)) else (if (rd x0 x5) = 93 then (some 1) else (escape_isImageOrLinkStartBracket.l0 k x0 (wrap64 (x5 + 1))))) else (none)) else (some (-1))
def escape_isImageOrLinkStartBracket.f (k : Nat) (l0 : List Int) (a1 : Int) : Option (Int) := escape_isImageOrLinkStartBracket.l0 k l0 (wrap64 (a1 + 1))
theorem escape_isImageOrLinkStartBracket.mono_l : ∀ k, (∀ y0 y1, LeO (escape_isImageOrLinkStartBracket.l0 k y0 y1) (escape_isImageOrLinkStartBracket.l0 (k + 1) y0 y1))
  | 0 => fun _ _ r h => by simp [escape_isImageOrLinkStartBracket.l0] at h
  | k + 1 => by
    have ih0 := escape_isImageOrLinkStartBracket.mono_l k
    · intro y0 y1
      unfold escape_isImageOrLinkStartBracket.l0
      repeat' first
      | (with_reducible exact ih0 _ _)
      | (with_reducible exact LeO.refl _)
      | (with_reducible exact LeO.none _)
      | (with_reducible refine LeO.ite ?_ ?_)
      | (with_reducible refine LeO.bind ?_ (fun _ => ?_))
      | exact ih0 _ _
      | exact LeO.none _
      | refine LeO.ite ?_ ?_
      | refine LeO.bind ?_ (fun _ => ?_)
theorem escape_isImageOrLinkStartBracket.mono : ∀ a0 a1 k, LeO (escape_isImageOrLinkStartBracket.f k a0 a1) (escape_isImageOrLinkStartBracket.f (k + 1) a0 a1) := by
  intro a0 a1 k
  have ih0 := escape_isImageOrLinkStartBracket.mono_l k
  unfold escape_isImageOrLinkStartBracket.f
  repeat' first
      | (with_reducible exact ih0 _ _)
      | (with_reducible exact LeO.refl _)
      | (with_reducible exact LeO.none _)
      | (with_reducible refine LeO.ite ?_ ?_)
      | (with_reducible refine LeO.bind ?_ (fun _ => ?_))
      | exact ih0 _ _
      | exact LeO.none _
      | refine LeO.ite ?_ ?_
      | refine LeO.bind ?_ (fun _ => ?_)
set_option maxHeartbeats 8000000 in
set_option maxRecDepth 100000 in
theorem escape_isImageOrLinkStartBracket.calls (k : Nat) (A0 : Option Addr) (c0 : Nat) (l0 : List Int) (a1 : Int) (r : Int) (w : World) (hr0 : Kd.C (Kd.int .u8) w A0 l0.length l0) (hc0 : l0.length ≤ c0) (h : escape_isImageOrLinkStartBracket.f k l0 a1 = some r) :
    Calls Tryz.prog 83 #[.slice A0 l0.length c0, .int .i64 a1] w fun e w' => e = .returned (.int .i64 r) ∧ Drawn0 w w' := by
  have HR0 := Aside0.mk hr0
  have HC0 := Aside0.mk hc0
  clear hr0 hc0
  have H : (escape_isImageOrLinkStartBracket.l0 k l0 (wrap64 (a1 + 1))) = some r := h
  clear h
  have H' := Aside0.mk H
  clear H
  go_enter Tryz.func83, Tryz.ntmps83
  go_wp2
  go_loopg [5] k (fun kq v5 w' => ∃ (x5_1 : Int), v5 = .int .i64 x5_1 ∧ Aside0 (escape_isImageOrLinkStartBracket.l0 kq l0 x5_1 = some r) ∧ Aside0 (kq ≤ k) ∧ Drawn0 w w')
  case atStart => exact ⟨(wrap64 (a1 + 1)), (by first | rfl | (simp; done) | (simp [*]; done)), H', ⟨Nat.le_refl _⟩, by repeat (first | exact Drawn0.refl _ | apply Drawn0.step)⟩
  case round =>
    clear H'
    try clear p2
    obtain ⟨x5_1, rfl, HA, HK1, ⟨m1, rfl⟩⟩ := hrel
    cases gk with
    | zero => exact absurd HA.out (by simp [escape_isImageOrLinkStartBracket.l0])
    | succ k1 =>
      have H := HA.out
      clear HA
      simp only [escape_isImageOrLinkStartBracket.l0] at H
      by_cases c3 : x5_1 < (l0.length : Int)
      · rw [if_pos c3] at H
        have c3b0 : decide (x5_1 < (l0.length : Int)) = true := decide_eq_true c3
        clear c3
        by_cases c4 : 0 ≤ x5_1
        · rw [if_pos c4] at H
          have c4b0 : decide (0 ≤ x5_1) = true := decide_eq_true c4
          clear c4
          by_cases c5 : (rd l0 x5_1) = 10
          · rw [if_pos c5] at H
            have c5b0 : ((rd l0 x5_1) == 10) = true := beq_iff_eq.mpr c5
            have c5b1 : ((rd l0 x5_1) != 10) = false := bne_eq_false_iff_eq.mpr c5
            clear c5
            obtain rfl := Option.some.inj H
            have p159 : 0 ≤ (x5_1 : Int) := of_decide_eq_true (by first | (with_reducible assumption) | assumption)
            have q159 : x5_1 < (l0.length : Int) := of_decide_eq_true (by first | (with_reducible assumption) | assumption)
            obtain ⟨ad159, e159, hx159_0⟩ := Kd.at_int HR0.out x5_1 p159 q159
            cases e159
            replace p159 := eq_true p159
            replace q159 := eq_true q159
            go_wp2
            go_ret
            exact ⟨by first | rfl | (simp; done) | (simp [*]; done), by repeat (first | exact Drawn0.refl _ | apply Drawn0.step)⟩
          · rw [if_neg c5] at H
            have c5b0 : ((rd l0 x5_1) == 10) = false := beq_eq_false_iff_ne.mpr c5
            have c5b1 : ((rd l0 x5_1) != 10) = true := bne_iff_ne.mpr c5
            by_cases c6 : (rd l0 x5_1) = 93
            · rw [if_pos c6] at H
              have c6b0 : ((rd l0 x5_1) == 93) = true := beq_iff_eq.mpr c6
              have c6b1 : ((rd l0 x5_1) != 93) = false := bne_eq_false_iff_eq.mpr c6
              clear c6
              obtain rfl := Option.some.inj H
              have p159 : 0 ≤ (x5_1 : Int) := of_decide_eq_true (by first | (with_reducible assumption) | assumption)
              have q159 : x5_1 < (l0.length : Int) := of_decide_eq_true (by first | (with_reducible assumption) | assumption)
              obtain ⟨ad159, e159, hx159_0⟩ := Kd.at_int HR0.out x5_1 p159 q159
              cases e159
              replace p159 := eq_true p159
              replace q159 := eq_true q159
              have p160 : 0 ≤ (x5_1 : Int) := of_decide_eq_true (by first | (with_reducible assumption) | assumption)
              have q160 : x5_1 < (l0.length : Int) := of_decide_eq_true (by first | (with_reducible assumption) | assumption)
              obtain ⟨ad160, e160, hx160_0⟩ := Kd.at_int HR0.out x5_1 p160 q160
              obtain rfl : ad159 = ad160 := (by injection e160)
              replace p160 := eq_true p160
              replace q160 := eq_true q160
              go_wp2
              go_ret
              exact ⟨by first | rfl | (simp; done) | (simp [*]; done), by repeat (first | exact Drawn0.refl _ | apply Drawn0.step)⟩
            · rw [if_neg c6] at H
              have c6b0 : ((rd l0 x5_1) == 93) = false := beq_eq_false_iff_ne.mpr c6
              have c6b1 : ((rd l0 x5_1) != 93) = true := bne_iff_ne.mpr c6
              have H' := Aside0.mk H
              clear H
              have p159 : 0 ≤ (x5_1 : Int) := of_decide_eq_true (by first | (with_reducible assumption) | assumption)
              have q159 : x5_1 < (l0.length : Int) := of_decide_eq_true (by first | (with_reducible assumption) | assumption)
              obtain ⟨ad159, e159, hx159_0⟩ := Kd.at_int HR0.out x5_1 p159 q159
              cases e159
              replace p159 := eq_true p159
              replace q159 := eq_true q159
              have p160 : 0 ≤ (x5_1 : Int) := of_decide_eq_true (by first | (with_reducible assumption) | assumption)
              have q160 : x5_1 < (l0.length : Int) := of_decide_eq_true (by first | (with_reducible assumption) | assumption)
              obtain ⟨ad160, e160, hx160_0⟩ := Kd.at_int HR0.out x5_1 p160 q160
              obtain rfl : ad159 = ad160 := (by injection e160)
              replace p160 := eq_true p160
              replace q160 := eq_true q160
              go_wp2
              go_roundg k1
              case measure => have := HK1.out; omega
              case rel => exact ⟨(wrap64 (x5_1 + 1)), (by first | rfl | (simp; done) | (simp [*]; done)), H', ⟨by have := HK1.out; omega⟩, by repeat (first | exact Drawn0.refl _ | apply Drawn0.step)⟩
        · rw [if_neg c4] at H
          exact absurd H (by simp)
      · rw [if_neg c3] at H
        have c3b0 : decide (x5_1 < (l0.length : Int)) = false := decide_eq_false c3
        clear c3
        obtain rfl := Option.some.inj H
        go_wp2
        go_ret
        exact ⟨by first | rfl | (simp; done) | (simp [*]; done), by repeat (first | exact Drawn0.refl _ | apply Drawn0.step)⟩

/-! ### escape_IsImageOrLink: function 47 -/
def escape_IsImageOrLink.f (k : Nat) (l0 : List Int) (a1 : Int) : Option (Int) := if 0 ≤ a1 then (if a1 < (l0.length : Int) then (if (rd l0 a1) = 33 then ((escape_isImageOrLinkStartExclamation.f l0 a1).bind fun t162 => (some t162)) else (if (rd l0 a1) = 91 then ((escape_isImageOrLinkStartBracket.f k l0 a1).bind fun t164 => (some t164)) else (some (-1)))) else (none)) else (none)
theorem escape_IsImageOrLink.mono : ∀ a0 a1 k, LeO (escape_IsImageOrLink.f k a0 a1) (escape_IsImageOrLink.f (k + 1) a0 a1) := by
  intro a0 a1 k
  unfold escape_IsImageOrLink.f
  repeat' first
      | (with_reducible exact escape_isImageOrLinkStartBracket.mono _ _ _)
      | (with_reducible exact LeO.refl _)
      | (with_reducible exact LeO.none _)
      | (with_reducible refine LeO.ite ?_ ?_)
      | (with_reducible refine LeO.bind ?_ (fun _ => ?_))
      | exact escape_isImageOrLinkStartBracket.mono _ _ _
      | exact LeO.none _
      | refine LeO.ite ?_ ?_
      | refine LeO.bind ?_ (fun _ => ?_)
set_option maxHeartbeats 8000000 in
set_option maxRecDepth 100000 in
theorem escape_IsImageOrLink.calls (k : Nat) (A0 : Option Addr) (c0 : Nat) (l0 : List Int) (a1 : Int) (r : Int) (w : World) (hr0 : Kd.C (Kd.int .u8) w A0 l0.length l0) (hc0 : l0.length ≤ c0) (h : escape_IsImageOrLink.f k l0 a1 = some r) :
    Calls Tryz.prog 47 #[.slice A0 l0.length c0, .int .i64 a1] w fun e w' => e = .returned (.int .i64 r) ∧ Drawn0 w w' := by
  have HR0 := Aside0.mk hr0
  have HC0 := Aside0.mk hc0
  clear hr0 hc0
  have H : (if 0 ≤ a1 then (if a1 < (l0.length : Int) then (if (rd l0 a1) = 33 then ((escape_isImageOrLinkStartExclamation.f l0 a1).bind fun t162 => (some t162)) else (if (rd l0 a1) = 91 then ((escape_isImageOrLinkStartBracket.f k l0 a1).bind fun t164 => (some t164)) else (some (-1)))) else (none)) else (none)) = some r := h
  clear h
  by_cases c3 : 0 ≤ a1
  · rw [if_pos c3] at H
    have c3b0 : decide (0 ≤ a1) = true := decide_eq_true c3
    clear c3
    by_cases c4 : a1 < (l0.length : Int)
    · rw [if_pos c4] at H
      have c4b0 : decide (a1 < (l0.length : Int)) = true := decide_eq_true c4
      clear c4
      by_cases c5 : (rd l0 a1) = 33
      · rw [if_pos c5] at H
        have c5b0 : ((rd l0 a1) == 33) = true := beq_iff_eq.mpr c5
        have c5b1 : ((rd l0 a1) != 33) = false := bne_eq_false_iff_eq.mpr c5
        clear c5
        replace H := Option.bind_eq_some_iff.mp H
        obtain ⟨t162, A60, H⟩ := H
        replace H : (some t162) = some r := H
        have A6 := Aside0.mk A60
        clear A60
        obtain rfl := Option.some.inj H
        have p161 : 0 ≤ (a1 : Int) := of_decide_eq_true (by first | (with_reducible assumption) | assumption)
        have q161 : a1 < (l0.length : Int) := of_decide_eq_true (by first | (with_reducible assumption) | assumption)
        obtain ⟨ad161, e161, hx161_0⟩ := Kd.at_int HR0.out a1 p161 q161
        cases e161
        replace p161 := eq_true p161
        replace q161 := eq_true q161
        go_enter Tryz.func47, Tryz.ntmps47
        go_wp2_with (first | ((with_reducible refine gate_callee (f := 82) rfl ?_); refine goesL_ (some 12) rfl rfl Tryz.func82 (by kernel_rfl) rfl #[.slice (some ad161) l0.length c0, .int .i64 a1] rfl (by (try simp only [List.map_toArray, List.map_cons, List.map_nil]); first | done | rfl | (simp only [List.length_drop, List.length_take]; rfl)) ?_; (with_reducible refine (escape_isImageOrLinkStartExclamation.calls _ _ l0 a1 t162 _ ?side1 ?side2 A6.out).mono ?_); (case side1 => repeat (first | exact HR0.out | (with_reducible refine Kd.C_alloc ?_ _) | (with_reducible refine Kd.C_drewN ?_ _) | (with_reducible refine Kd.C_drew ?_))); (case side2 => exact HC0.out); rintro e w' ⟨rfl, ⟨nd, rfl⟩⟩; refine ⟨_, rfl, ?_⟩))
        go_ret
        exact ⟨by first | rfl | (simp; done) | (simp [*]; done), by repeat (first | exact Drawn0.refl _ | apply Drawn0.step)⟩
      · rw [if_neg c5] at H
        have c5b0 : ((rd l0 a1) == 33) = false := beq_eq_false_iff_ne.mpr c5
        have c5b1 : ((rd l0 a1) != 33) = true := bne_iff_ne.mpr c5
        by_cases c7 : (rd l0 a1) = 91
        · rw [if_pos c7] at H
          have c7b0 : ((rd l0 a1) == 91) = true := beq_iff_eq.mpr c7
          have c7b1 : ((rd l0 a1) != 91) = false := bne_eq_false_iff_eq.mpr c7
          clear c7
          replace H := Option.bind_eq_some_iff.mp H
          obtain ⟨t164, A80, H⟩ := H
          replace H : (some t164) = some r := H
          have A8 := Aside0.mk A80
          clear A80
          obtain rfl := Option.some.inj H
          have p161 : 0 ≤ (a1 : Int) := of_decide_eq_true (by first | (with_reducible assumption) | assumption)
          have q161 : a1 < (l0.length : Int) := of_decide_eq_true (by first | (with_reducible assumption) | assumption)
          obtain ⟨ad161, e161, hx161_0⟩ := Kd.at_int HR0.out a1 p161 q161
          cases e161
          replace p161 := eq_true p161
          replace q161 := eq_true q161
          have p163 : 0 ≤ (a1 : Int) := of_decide_eq_true (by first | (with_reducible assumption) | assumption)
          have q163 : a1 < (l0.length : Int) := of_decide_eq_true (by first | (with_reducible assumption) | assumption)
          obtain ⟨ad163, e163, hx163_0⟩ := Kd.at_int HR0.out a1 p163 q163
          obtain rfl : ad161 = ad163 := (by injection e163)
          replace p163 := eq_true p163
          replace q163 := eq_true q163
          go_enter Tryz.func47, Tryz.ntmps47
          go_wp2_with (first | ((with_reducible refine gate_callee (f := 83) rfl ?_); refine goesL_ (some 20) rfl rfl Tryz.func83 (by kernel_rfl) rfl #[.slice (some ad161) l0.length c0, .int .i64 a1] rfl (by (try simp only [List.map_toArray, List.map_cons, List.map_nil]); first | done | rfl | (simp only [List.length_drop, List.length_take]; rfl)) ?_; (with_reducible refine (escape_isImageOrLinkStartBracket.calls k _ _ l0 a1 t164 _ ?side1 ?side2 A8.out).mono ?_); (case side1 => repeat (first | exact HR0.out | (with_reducible refine Kd.C_alloc ?_ _) | (with_reducible refine Kd.C_drewN ?_ _) | (with_reducible refine Kd.C_drew ?_))); (case side2 => exact HC0.out); rintro e w' ⟨rfl, ⟨nd, rfl⟩⟩; refine ⟨_, rfl, ?_⟩))
          go_ret
          exact ⟨by first | rfl | (simp; done) | (simp [*]; done), by repeat (first | exact Drawn0.refl _ | apply Drawn0.step)⟩
        · rw [if_neg c7] at H
          have c7b0 : ((rd l0 a1) == 91) = false := beq_eq_false_iff_ne.mpr c7
          have c7b1 : ((rd l0 a1) != 91) = true := bne_iff_ne.mpr c7
          obtain rfl := Option.some.inj H
          have p161 : 0 ≤ (a1 : Int) := of_decide_eq_true (by first | (with_reducible assumption) | assumption)
          have q161 : a1 < (l0.length : Int) := of_decide_eq_true (by first | (with_reducible assumption) | assumption)
          obtain ⟨ad161, e161, hx161_0⟩ := Kd.at_int HR0.out a1 p161 q161
          cases e161
          replace p161 := eq_true p161
          replace q161 := eq_true q161
          have p163 : 0 ≤ (a1 : Int) := of_decide_eq_true (by first | (with_reducible assumption) | assumption)
          have q163 : a1 < (l0.length : Int) := of_decide_eq_true (by first | (with_reducible assumption) | assumption)
          obtain ⟨ad163, e163, hx163_0⟩ := Kd.at_int HR0.out a1 p163 q163
          obtain rfl : ad161 = ad163 := (by injection e163)
          replace p163 := eq_true p163
          replace q163 := eq_true q163
          go_enter Tryz.func47, Tryz.ntmps47
          go_wp2
          go_ret
          exact ⟨by first | rfl | (simp; done) | (simp [*]; done), by repeat (first | exact Drawn0.refl _ | apply Drawn0.step)⟩
    · rw [if_neg c4] at H
      exact absurd H (by simp)
  · rw [if_neg c3] at H
    exact absurd H (by simp)

end Go.Proofs.YtbkimfhlgpgoiaaGreatDoor.Ptested
