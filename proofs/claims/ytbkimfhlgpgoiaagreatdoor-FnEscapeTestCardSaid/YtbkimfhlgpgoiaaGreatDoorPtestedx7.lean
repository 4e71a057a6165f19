-- PRINTED BY print.sh 35421559b90ae4d0a3588c463048766b98c2df88dd9212a6774a882060cdf62d: not written by this session
import Derived.Test.YtbkimfhlgpgoiaaGreatDoorPtestedx0
namespace Go.Proofs.YtbkimfhlgpgoiaaGreatDoor.Ptested
open Go.RowKit Go.Proofs.YtbkimfhlgpgoiaaGreatDoorW.PrintWords Go.Proofs.YtbkimfhlgpgoiaaGreatDoorW.PrintLast Go.Proofs.YtbkimfhlgpgoiaaGreatDoorW.PrintMore
attribute [local go_sem] max2_int min2_int max_two min_two max_three min_three max_four min_four   -- for this text's walks alone
set_option linter.unusedVariables false
set_option linter.unusedSimpArgs false

/-! ### escape_IsFencedCode: function 48 -/
mutual
def escape_IsFencedCode.j0 : Nat → List Int → Int → Bool → Option (Int)
  | 0, _, _, _ => none
  | k + 1, x0, x1, x19 => if x19 = true then (some (-1)) else (escape_IsFencedCode.l0 k x0 x1 (wrap64 (x1 - 1)))
def escape_IsFencedCode.j3 : Nat → List Int → Int → Option (Int)
  | 0, _, _ => none
  | k + 1, x0, x1 => escape_IsFencedCode.l1 k x0 x1 1 (wrap64 (x1 + 1))
def escape_IsFencedCode.l1 : Nat → List Int → Int → Int → Int → Option (Int)
  | 0, _, _, _, _ => none
  | k + 1, x0, x1, x6, x7 => if x7 < (x0.length : Int) then (if 0 ≤ x7 then (if (rd x0 x7) = 7 then (escape_IsFencedCode.l1 k x0 x1 x6 (wrap64 (x7 + 1))) else (if (rd x0 x7) = 96 then (escape_IsFencedCode.l1 k x0 x1 (wrap64 (x6 + 1)) (wrap64 (x7 + 1))) else (if (rd x0 x7) = 126 then (escape_IsFencedCode.l1 k x0 x1 (wrap64 (x6 + 1)) (wrap64 (x7 + 1))) else (if x6 < 3 then (some (-1)) else (some (wrap64 (x7 - x1))))))) else (none)) else (if x6 < 3 then (some (-1)) else (some (wrap64 (x7 - x1))))
def escape_IsFencedCode.l0 : Nat → List Int → Int → Int → Option (Int)
  | 0, _, _, _ => none
  | k + 1, x0, x1, x5 => if x5 ≥ 0 then (if 0 ≤ x5 then (if x5 < (x0.length : Int) then (if (rd x0 x5) = 32 then (escape_IsFencedCode.j2 k x0 x1 x5 true) else (escape_IsFencedCode.j2 k x0 x1 x5 ((rd x0 x5) == 7))) else (none)) else (none)) else (escape_IsFencedCode.j3 k x0 x1)
def escape_IsFencedCode.j2 : Nat → List Int → Int → Int → Bool → Option (Int)
  | 0, _, _, _, _ => none
  | k + 1, x0, x1, x5, x37 => if x37 = true then (escape_IsFencedCode.l0 k x0 x1 (wrap64 (x5 - 1))) else (if 0 ≤ x5 then (if x5 < (x0.length : Int) then (if (rd x0 x5) = 10 then (escape_IsFencedCode.j3 k x0 x1) else (some (-1))) else (none)) else (none))
end
def escape_IsFencedCode.f (k : Nat) (l0 : List Int) (a1 : Int) : Option (Int) := if 0 ≤ a1 then (if a1 < (l0.length : Int) then (if (rd l0 a1) = 96 then (escape_IsFencedCode.j0 k l0 a1 false) else (escape_IsFencedCode.j0 k l0 a1 ((rd l0 a1) != 126))) else (none)) else (none)
theorem escape_IsFencedCode.mono_l : ∀ k, (∀ y0 y1 y2, LeO (escape_IsFencedCode.j0 k y0 y1 y2) (escape_IsFencedCode.j0 (k + 1) y0 y1 y2)) ∧ (∀ y0 y1, LeO (escape_IsFencedCode.j3 k y0 y1) (escape_IsFencedCode.j3 (k + 1) y0 y1)) ∧ (∀ y0 y1 y2 y3, LeO (escape_IsFencedCode.l1 k y0 y1 y2 y3) (escape_IsFencedCode.l1 (k + 1) y0 y1 y2 y3)) ∧ (∀ y0 y1 y2, LeO (escape_IsFencedCode.l0 k y0 y1 y2) (escape_IsFencedCode.l0 (k + 1) y0 y1 y2)) ∧ (∀ y0 y1 y2 y3, LeO (escape_IsFencedCode.j2 k y0 y1 y2 y3) (escape_IsFencedCode.j2 (k + 1) y0 y1 y2 y3))
  | 0 => ⟨fun _ _ _ r h => by simp [escape_IsFencedCode.j0] at h, fun _ _ r h => by simp [escape_IsFencedCode.j3] at h, fun _ _ _ _ r h => by simp [escape_IsFencedCode.l1] at h, fun _ _ _ r h => by simp [escape_IsFencedCode.l0] at h, fun _ _ _ _ r h => by simp [escape_IsFencedCode.j2] at h⟩
  | k + 1 => by
    obtain ⟨ih0, ih1, ih2, ih3, ih4⟩ := escape_IsFencedCode.mono_l k
    refine ⟨?_, ?_, ?_, ?_, ?_⟩
    · intro y0 y1 y2
      unfold escape_IsFencedCode.j0
      repeat' first
      | (with_reducible exact ih0 _ _ _)
      | (with_reducible exact ih1 _ _)
      | (with_reducible exact ih2 _ _ _ _)
      | (with_reducible exact ih3 _ _ _)
      | (with_reducible exact ih4 _ _ _ _)
      | (with_reducible exact LeO.refl _)
      | (with_reducible exact LeO.none _)
      | (with_reducible refine LeO.ite ?_ ?_)
      | (with_reducible refine LeO.bind ?_ (fun _ => ?_))
      | exact ih0 _ _ _
      | exact ih1 _ _
      | exact ih2 _ _ _ _
      | exact ih3 _ _ _
      | exact ih4 _ _ _ _
      | exact LeO.none _
      | refine LeO.ite ?_ ?_
      | refine LeO.bind ?_ (fun _ => ?_)
    · intro y0 y1
      unfold escape_IsFencedCode.j3
      repeat' first
      | (with_reducible exact ih0 _ _ _)
      | (with_reducible exact ih1 _ _)
      | (with_reducible exact ih2 _ _ _ _)
      | (with_reducible exact ih3 _ _ _)
      | (with_reducible exact ih4 _ _ _ _)
      | (with_reducible exact LeO.refl _)
      | (with_reducible exact LeO.none _)
      | (with_reducible refine LeO.ite ?_ ?_)
      | (with_reducible refine LeO.bind ?_ (fun _ => ?_))
      | exact ih0 _ _ _
      | exact ih1 _ _
      | exact ih2 _ _ _ _
      | exact ih3 _ _ _
      | exact ih4 _ _ _ _
      | exact LeO.none _
      | refine LeO.ite ?_ ?_
      | refine LeO.bind ?_ (fun _ => ?_)
    · intro y0 y1 y2 y3
      unfold escape_IsFencedCode.l1
      repeat' first
      | (with_reducible exact ih0 _ _ _)
      | (with_reducible exact ih1 _ _)
      | (with_reducible exact ih2 _ _ _ _)
      | (with_reducible exact ih3 _ _ _)
      | (with_reducible exact ih4 _ _ _ _)
      | (with_reducible exact LeO.refl _)
      | (with_reducible exact LeO.none _)
      | (with_reducible refine LeO.ite ?_ ?_)
      | (with_reducible refine LeO.bind ?_ (fun _ => ?_))
      | exact ih0 _ _ _
      | exact ih1 _ _
      | exact ih2 _ _ _ _
      | exact ih3 _ _ _
      | exact ih4 _ _ _ _
      | exact LeO.none _
      | refine LeO.ite ?_ ?_
      | refine LeO.bind ?_ (fun _ => ?_)
    · intro y0 y1 y2
      unfold escape_IsFencedCode.l0
      repeat' first
      | (with_reducible exact ih0 _ _ _)
      | (with_reducible exact ih1 _ _)
      | (with_reducible exact ih2 _ _ _ _)
      | (with_reducible exact ih3 _ _ _)
      | (with_reducible exact ih4 _ _ _ _)
      | (with_reducible exact LeO.refl _)
      | (with_reducible exact LeO.none _)
      | (with_reducible refine LeO.ite ?_ ?_)
      | (with_reducible refine LeO.bind ?_ (fun _ => ?_))
      | exact ih0 _ _ _
      | exact ih1 _ _
      | exact ih2 _ _ _ _
      | exact ih3 _ _ _
      | exact ih4 _ _ _ _
      | exact LeO.none _
      | refine LeO.ite ?_ ?_
      | refine LeO.bind ?_ (fun _ => ?_)
    · intro y0 y1 y2 y3
      unfold escape_IsFencedCode.j2
      repeat' first
      | (with_reducible exact ih0 _ _ _)
      | (with_reducible exact ih1 _ _)
      | (with_reducible exact ih2 _ _ _ _)
      | (with_reducible exact ih3 _ _ _)
      | (with_reducible exact ih4 _ _ _ _)
      | (with_reducible exact LeO.refl _)
      | (with_reducible exact LeO.none _)
      | (with_reducible refine LeO.ite ?_ ?_)
      | (with_reducible refine LeO.bind ?_ (fun _ => ?_))
      | exact ih0 _ _ _
      | exact ih1 _ _
      | exact ih2 _ _ _ _
      | exact ih3 _ _ _
      | exact ih4 _ _ _ _
      | exact LeO.none _
      | refine LeO.ite ?_ ?_
      | refine LeO.bind ?_ (fun _ => ?_)
theorem escape_IsFencedCode.mono : ∀ a0 a1 k, LeO (escape_IsFencedCode.f k a0 a1) (escape_IsFencedCode.f (k + 1) a0 a1) := by
  intro a0 a1 k
  obtain ⟨ih0, ih1, ih2, ih3, ih4⟩ := escape_IsFencedCode.mono_l k
  unfold escape_IsFencedCode.f
  repeat' first
      | (with_reducible exact ih0 _ _ _)
      | (with_reducible exact ih1 _ _)
      | (with_reducible exact ih2 _ _ _ _)
      | (with_reducible exact ih3 _ _ _)
      | (with_reducible exact ih4 _ _ _ _)
      | (with_reducible exact LeO.refl _)
      | (with_reducible exact LeO.none _)
      | (with_reducible refine LeO.ite ?_ ?_)
      | (with_reducible refine LeO.bind ?_ (fun _ => ?_))
      | exact ih0 _ _ _
      | exact ih1 _ _
      | exact ih2 _ _ _ _
      | exact ih3 _ _ _
      | exact ih4 _ _ _ _
      | exact LeO.none _
      | refine LeO.ite ?_ ?_
      | refine LeO.bind ?_ (fun _ => ?_)
set_option maxHeartbeats 8000000 in
set_option maxRecDepth 100000 in
theorem escape_IsFencedCode.calls (k : Nat) (A0 : Option Addr) (c0 : Nat) (l0 : List Int) (a1 : Int) (r : Int) (w : World) (hr0 : Kd.C (Kd.int .u8) w A0 l0.length l0) (hc0 : l0.length ≤ c0) (h : escape_IsFencedCode.f k l0 a1 = some r) :
    Calls Tryz.prog 48 #[.slice A0 l0.length c0, .int .i64 a1] w fun e w' => e = .returned (.int .i64 r) ∧ Drawn0 w w' := by
  have HR0 := Aside0.mk hr0
  have HC0 := Aside0.mk hc0
  clear hr0 hc0
  have H : (if 0 ≤ a1 then (if a1 < (l0.length : Int) then (if (rd l0 a1) = 96 then (escape_IsFencedCode.j0 k l0 a1 false) else (escape_IsFencedCode.j0 k l0 a1 ((rd l0 a1) != 126))) else (none)) else (none)) = some r := h
  clear h
  have HC3 := Aside0.mk H
  clear H
  go_enter Tryz.func48, Tryz.ntmps48
  go_upto_region 1 with (fail)
  go_cut [19] (fun v19 wc => ∃ (kq : Nat) (x19_2 : Bool), v19 = .bool x19_2 ∧ Aside0 (escape_IsFencedCode.j0 kq l0 a1 x19_2 = some r) ∧ Aside0 (kq ≤ k) ∧ Drawn0 w wc)
  case first =>
    have H := HC3.out
    clear HC3
    by_cases c4 : 0 ≤ a1
    · rw [if_pos c4] at H
      have c4b0 : decide (0 ≤ a1) = true := decide_eq_true c4
      clear c4
      (first | rw [c4b0] | (simp only [i64_w, i32_w]; rw [c4b0]) | skip)
      by_cases c5 : a1 < (l0.length : Int)
      · rw [if_pos c5] at H
        have c5b0 : decide (a1 < (l0.length : Int)) = true := decide_eq_true c5
        clear c5
        by_cases c6 : (rd l0 a1) = 96
        · rw [if_pos c6] at H
          have c6b0 : ((rd l0 a1) == 96) = true := beq_iff_eq.mpr c6
          have c6b1 : ((rd l0 a1) != 96) = false := bne_eq_false_iff_eq.mpr c6
          clear c6
          have H' := Aside0.mk H
          clear H
          have p165 : 0 ≤ (a1 : Int) := of_decide_eq_true (by first | (with_reducible assumption) | assumption)
          have q165 : a1 < (l0.length : Int) := of_decide_eq_true (by first | (with_reducible assumption) | assumption)
          obtain ⟨ad165, e165, hx165_0⟩ := Kd.at_int HR0.out a1 p165 q165
          cases e165
          replace p165 := eq_true p165
          replace q165 := eq_true q165
          go_wp2
          go_meet
          case rel => exact ⟨_, (false), (by first | rfl | (simp; done) | (simp [*]; done)), H', ⟨by first | omega | exact Nat.le_refl _⟩, by repeat (first | exact Drawn0.refl _ | apply Drawn0.step)⟩
        · rw [if_neg c6] at H
          have c6b0 : ((rd l0 a1) == 96) = false := beq_eq_false_iff_ne.mpr c6
          have c6b1 : ((rd l0 a1) != 96) = true := bne_iff_ne.mpr c6
          have H' := Aside0.mk H
          clear H
          have p165 : 0 ≤ (a1 : Int) := of_decide_eq_true (by first | (with_reducible assumption) | assumption)
          have q165 : a1 < (l0.length : Int) := of_decide_eq_true (by first | (with_reducible assumption) | assumption)
          obtain ⟨ad165, e165, hx165_0⟩ := Kd.at_int HR0.out a1 p165 q165
          cases e165
          replace p165 := eq_true p165
          replace q165 := eq_true q165
          have p166 : 0 ≤ (a1 : Int) := of_decide_eq_true (by first | (with_reducible assumption) | assumption)
          have q166 : a1 < (l0.length : Int) := of_decide_eq_true (by first | (with_reducible assumption) | assumption)
          obtain ⟨ad166, e166, hx166_0⟩ := Kd.at_int HR0.out a1 p166 q166
          obtain rfl : ad165 = ad166 := (by injection e166)
          replace p166 := eq_true p166
          replace q166 := eq_true q166
          go_wp2
          go_meet
          case rel => exact ⟨_, (((rd l0 a1) != 126)), (by first | rfl | (simp; done) | (simp [*]; done)), H', ⟨by first | omega | exact Nat.le_refl _⟩, by repeat (first | exact Drawn0.refl _ | apply Drawn0.step)⟩
      · rw [if_neg c5] at H
        exact absurd H (by simp)
    · rw [if_neg c4] at H
      exact absurd H (by simp)
  case rest =>
    clear HC3
    try clear p1
    try clear q1
    try clear hx1
    try clear p2
    try clear c4
    try clear c4b0
    try clear c5
    try clear c5b0
    try clear c6
    try clear c6b0
    try clear c6b1
    try clear hx165_0
    try clear hx166_0
    try clear p165
    try clear p166
    try clear q165
    try clear q166
    obtain ⟨kq, x19_2, rfl, HA, HJ2, ⟨mc2, rfl⟩⟩ := hcut
    cases kq with
    | zero => exact absurd HA.out (by simp [escape_IsFencedCode.j0])
    | succ kj2 =>
      have H := HA.out
      clear HA
      simp only [escape_IsFencedCode.j0] at H
      by_cases c7 : x19_2 = true
      · subst c7
        have H1 : (some (-1)) = some r := by rw [if_pos rfl] at H; exact H
        clear H
        have H := H1
        clear H1
        obtain rfl := Option.some.inj H
        go_wp2
        go_ret
        exact ⟨by first | rfl | (simp; done) | (simp [*]; done), by repeat (first | exact Drawn0.refl _ | apply Drawn0.step)⟩
      · replace c7 := Bool.eq_false_iff.mpr c7
        subst c7
        have H1 : (escape_IsFencedCode.l0 kj2 l0 a1 (wrap64 (a1 - 1))) = some r := by rw [if_neg (show ¬ (false = true) by decide)] at H; exact H
        clear H
        have H := H1
        clear H1
        have HC8 := Aside0.mk H
        clear H
        go_upto_block 0 with (fail)
        go_cut [] (fun wc => ∃ (kq : Nat), Aside0 (escape_IsFencedCode.j3 kq l0 a1 = some r) ∧ Aside0 (kq ≤ kj2) ∧ Drawn0 w wc)
        case first =>
          have H := HC8.out
          clear HC8
          have H' := Aside0.mk H
          clear H
          go_wp2
          go_loopg [5] kj2 (fun kq v5 w' => ∃ (x5_2 : Int), v5 = .int .i64 x5_2 ∧ Aside0 (escape_IsFencedCode.l0 kq l0 a1 x5_2 = some r) ∧ Aside0 (kq ≤ kj2) ∧ Drawn0 w w')
          case atStart => exact ⟨(wrap64 (a1 - 1)), (by first | rfl | (simp; done) | (simp [*]; done)), H', ⟨Nat.le_refl _⟩, by repeat (first | exact Drawn0.refl _ | apply Drawn0.step)⟩
          case round =>
            clear H'
            try clear p1
            try clear q1
            try clear hx1
            try clear c2
            try clear p2
            try clear c4
            try clear c4b0
            try clear c5
            try clear c5b0
            try clear c6
            try clear c6b0
            try clear c6b1
            try clear p6
            try clear c7
            try clear hx165_0
            try clear hx166_0
            try clear p1
            try clear p165
            try clear p166
            try clear p2
            try clear q1
            try clear q165
            try clear q166
            obtain ⟨x5_2, rfl, HA, HK2, ⟨m2, rfl⟩⟩ := hrel
            cases gk with
            | zero => exact absurd HA.out (by simp [escape_IsFencedCode.l0])
            | succ k2 =>
              have H := HA.out
              clear HA
              simp only [escape_IsFencedCode.l0] at H
              by_cases c9 : x5_2 ≥ 0
              · rw [if_pos c9] at H
                have c9b0 : decide (0 ≤ x5_2) = true := decide_eq_true c9
                clear c9
                (first | rw [c9b0] | (simp only [i64_w, i32_w]; rw [c9b0]) | skip)
                have HC10 := Aside0.mk H
                clear H
                go_upto_region 6 with (fail)
                go_cut [37] (fun v37 wc => ∃ (kq : Nat) (x37_9 : Bool), v37 = .bool x37_9 ∧ Aside0 (escape_IsFencedCode.j2 kq l0 a1 x5_2 x37_9 = some r) ∧ Aside0 (kq ≤ k2) ∧ Drawn0 w wc)
                case first =>
                  have H := HC10.out
                  clear HC10
                  by_cases c11 : 0 ≤ x5_2
                  · rw [if_pos c11] at H
                    have c11b0 : decide (0 ≤ x5_2) = true := decide_eq_true c11
                    clear c11
                    (first | rw [c11b0] | (simp only [i64_w, i32_w]; rw [c11b0]) | skip)
                    by_cases c12 : x5_2 < (l0.length : Int)
                    · rw [if_pos c12] at H
                      have c12b0 : decide (x5_2 < (l0.length : Int)) = true := decide_eq_true c12
                      clear c12
                      by_cases c13 : (rd l0 x5_2) = 32
                      · rw [if_pos c13] at H
                        have c13b0 : ((rd l0 x5_2) == 32) = true := beq_iff_eq.mpr c13
                        have c13b1 : ((rd l0 x5_2) != 32) = false := bne_eq_false_iff_eq.mpr c13
                        clear c13
                        have H' := Aside0.mk H
                        clear H
                        have p167 : 0 ≤ (x5_2 : Int) := of_decide_eq_true (by first | (with_reducible assumption) | assumption)
                        have q167 : x5_2 < (l0.length : Int) := of_decide_eq_true (by first | (with_reducible assumption) | assumption)
                        obtain ⟨ad167, e167, hx167_0⟩ := Kd.at_int HR0.out x5_2 p167 q167
                        cases e167
                        replace p167 := eq_true p167
                        replace q167 := eq_true q167
                        go_wp2
                        go_meet
                        case rel => exact ⟨_, (true), (by first | rfl | (simp; done) | (simp [*]; done)), H', ⟨by have := HJ2.out; have := HK2.out; first | omega | exact Nat.le_refl _⟩, by repeat (first | exact Drawn0.refl _ | apply Drawn0.step)⟩
                      · rw [if_neg c13] at H
                        have c13b0 : ((rd l0 x5_2) == 32) = false := beq_eq_false_iff_ne.mpr c13
                        have c13b1 : ((rd l0 x5_2) != 32) = true := bne_iff_ne.mpr c13
                        have H' := Aside0.mk H
                        clear H
                        have p167 : 0 ≤ (x5_2 : Int) := of_decide_eq_true (by first | (with_reducible assumption) | assumption)
                        have q167 : x5_2 < (l0.length : Int) := of_decide_eq_true (by first | (with_reducible assumption) | assumption)
                        obtain ⟨ad167, e167, hx167_0⟩ := Kd.at_int HR0.out x5_2 p167 q167
                        cases e167
                        replace p167 := eq_true p167
                        replace q167 := eq_true q167
                        have p168 : 0 ≤ (x5_2 : Int) := of_decide_eq_true (by first | (with_reducible assumption) | assumption)
                        have q168 : x5_2 < (l0.length : Int) := of_decide_eq_true (by first | (with_reducible assumption) | assumption)
                        obtain ⟨ad168, e168, hx168_0⟩ := Kd.at_int HR0.out x5_2 p168 q168
                        obtain rfl : ad167 = ad168 := (by injection e168)
                        replace p168 := eq_true p168
                        replace q168 := eq_true q168
                        go_wp2
                        go_meet
                        case rel => exact ⟨_, (((rd l0 x5_2) == 7)), (by first | rfl | (simp; done) | (simp [*]; done)), H', ⟨by have := HJ2.out; have := HK2.out; first | omega | exact Nat.le_refl _⟩, by repeat (first | exact Drawn0.refl _ | apply Drawn0.step)⟩
                    · rw [if_neg c12] at H
                      exact absurd H (by simp)
                  · rw [if_neg c11] at H
                    exact absurd H (by simp)
                case rest =>
                  clear HC10
                  try clear c1
                  try clear p1
                  try clear q1
                  try clear hx1
                  try clear c2
                  try clear p2
                  try clear c4
                  try clear c4b0
                  try clear c5
                  try clear c5b0
                  try clear c6
                  try clear c6b0
                  try clear c6b1
                  try clear p6
                  try clear c7
                  try clear c9
                  try clear c9b0
                  try clear c11
                  try clear c11b0
                  try clear c12
                  try clear c12b0
                  try clear c13
                  try clear c13b0
                  try clear c13b1
                  try clear hx165_0
                  try clear hx166_0
                  try clear hx167_0
                  try clear hx168_0
                  try clear p1
                  try clear p165
                  try clear p166
                  try clear p167
                  try clear p168
                  try clear p2
                  try clear p6
                  try clear q1
                  try clear q165
                  try clear q166
                  try clear q167
                  try clear q168
                  obtain ⟨kq, x37_9, rfl, HA, HJ9, ⟨mc9, rfl⟩⟩ := hcut
                  cases kq with
                  | zero => exact absurd HA.out (by simp [escape_IsFencedCode.j2])
                  | succ kj9 =>
                    have H := HA.out
                    clear HA
                    simp only [escape_IsFencedCode.j2] at H
                    by_cases c14 : x37_9 = true
                    · subst c14
                      have H1 : (escape_IsFencedCode.l0 kj9 l0 a1 (wrap64 (x5_2 - 1))) = some r := by rw [if_pos rfl] at H; exact H
                      clear H
                      have H := H1
                      clear H1
                      have H' := Aside0.mk H
                      clear H
                      go_wp2
                      go_roundg kj9
                      case measure => have := HJ2.out; have := HK2.out; have := HJ9.out; omega
                      case rel => exact ⟨(wrap64 (x5_2 - 1)), (by first | rfl | (simp; done) | (simp [*]; done)), H', ⟨by have := HJ2.out; have := HK2.out; have := HJ9.out; omega⟩, by repeat (first | exact Drawn0.refl _ | apply Drawn0.step)⟩
                    · replace c14 := Bool.eq_false_iff.mpr c14
                      subst c14
                      have H1 : (if 0 ≤ x5_2 then (if x5_2 < (l0.length : Int) then (if (rd l0 x5_2) = 10 then (escape_IsFencedCode.j3 kj9 l0 a1) else (some (-1))) else (none)) else (none)) = some r := by rw [if_neg (show ¬ (false = true) by decide)] at H; exact H
                      clear H
                      have H := H1
                      clear H1
                      by_cases c15 : 0 ≤ x5_2
                      · rw [if_pos c15] at H
                        have c15b0 : decide (0 ≤ x5_2) = true := decide_eq_true c15
                        clear c15
                        by_cases c16 : x5_2 < (l0.length : Int)
                        · rw [if_pos c16] at H
                          have c16b0 : decide (x5_2 < (l0.length : Int)) = true := decide_eq_true c16
                          clear c16
                          by_cases c17 : (rd l0 x5_2) = 10
                          · rw [if_pos c17] at H
                            have c17b0 : ((rd l0 x5_2) == 10) = true := beq_iff_eq.mpr c17
                            have c17b1 : ((rd l0 x5_2) != 10) = false := bne_eq_false_iff_eq.mpr c17
                            clear c17
                            have H' := Aside0.mk H
                            clear H
                            have p169 : 0 ≤ (x5_2 : Int) := of_decide_eq_true (by first | (with_reducible assumption) | assumption)
                            have q169 : x5_2 < (l0.length : Int) := of_decide_eq_true (by first | (with_reducible assumption) | assumption)
                            obtain ⟨ad169, e169, hx169_0⟩ := Kd.at_int HR0.out x5_2 p169 q169
                            cases e169
                            replace p169 := eq_true p169
                            replace q169 := eq_true q169
                            go_wp2
                            go_meet
                            case rel => exact ⟨_, H', ⟨by have := HJ2.out; have := HK2.out; have := HJ9.out; first | omega | exact Nat.le_refl _⟩, by repeat (first | exact Drawn0.refl _ | apply Drawn0.step)⟩
                          · rw [if_neg c17] at H
                            have c17b0 : ((rd l0 x5_2) == 10) = false := beq_eq_false_iff_ne.mpr c17
                            have c17b1 : ((rd l0 x5_2) != 10) = true := bne_iff_ne.mpr c17
                            obtain rfl := Option.some.inj H
                            have p169 : 0 ≤ (x5_2 : Int) := of_decide_eq_true (by first | (with_reducible assumption) | assumption)
                            have q169 : x5_2 < (l0.length : Int) := of_decide_eq_true (by first | (with_reducible assumption) | assumption)
                            obtain ⟨ad169, e169, hx169_0⟩ := Kd.at_int HR0.out x5_2 p169 q169
                            cases e169
                            replace p169 := eq_true p169
                            replace q169 := eq_true q169
                            go_wp2
                            go_ret
                            exact ⟨by first | rfl | (simp; done) | (simp [*]; done), by repeat (first | exact Drawn0.refl _ | apply Drawn0.step)⟩
                        · rw [if_neg c16] at H
                          exact absurd H (by simp)
                      · rw [if_neg c15] at H
                        exact absurd H (by simp)
              · rw [if_neg c9] at H
                have c9b0 : decide (0 ≤ x5_2) = false := decide_eq_false c9
                clear c9
                (first | rw [c9b0] | (simp only [i64_w, i32_w]; rw [c9b0]) | skip)
                have H' := Aside0.mk H
                clear H
                go_wp2
                go_meet
                case rel => exact ⟨_, H', ⟨by have := HJ2.out; have := HK2.out; first | omega | exact Nat.le_refl _⟩, by repeat (first | exact Drawn0.refl _ | apply Drawn0.step)⟩
        case rest =>
          clear HC8
          try clear c1
          try clear p1
          try clear q1
          try clear hx1
          try clear c2
          try clear p2
          try clear c4
          try clear c4b0
          try clear c5
          try clear c5b0
          try clear c6
          try clear c6b0
          try clear c6b1
          try clear p6
          try clear c7
          try clear c9
          try clear c9b0
          try clear c11
          try clear c11b0
          try clear c12
          try clear c12b0
          try clear c13
          try clear c13b0
          try clear c13b1
          try clear c14
          try clear c15
          try clear c15b0
          try clear c16
          try clear c16b0
          try clear p16
          try clear q16
          try clear hx16
          try clear c17
          try clear c17b0
          try clear c17b1
          try clear hx165_0
          try clear hx166_0
          try clear hx167_0
          try clear hx168_0
          try clear hx169_0
          try clear p1
          try clear p165
          try clear p166
          try clear p167
          try clear p168
          try clear p169
          try clear p2
          try clear p6
          try clear q1
          try clear q165
          try clear q166
          try clear q167
          try clear q168
          try clear q169
          obtain ⟨kq, HA, HJ7, ⟨mc7, rfl⟩⟩ := hcut
          cases kq with
          | zero => exact absurd HA.out (by simp [escape_IsFencedCode.j3])
          | succ kj7 =>
            have H := HA.out
            clear HA
            simp only [escape_IsFencedCode.j3] at H
            have H' := Aside0.mk H
            clear H
            go_wp2
            go_loopg [6, 7] kj7 (fun kq v6 v7 w' => ∃ (x6_3 : Int) (x7_3 : Int), v6 = .int .i64 x6_3 ∧ v7 = .int .i64 x7_3 ∧ Aside0 (escape_IsFencedCode.l1 kq l0 a1 x6_3 x7_3 = some r) ∧ Aside0 (kq ≤ kj7) ∧ Drawn0 w w')
            case atStart => exact ⟨(1), (wrap64 (a1 + 1)), (by first | rfl | (simp; done) | (simp [*]; done)), (by first | rfl | (simp; done) | (simp [*]; done)), H', ⟨Nat.le_refl _⟩, by repeat (first | exact Drawn0.refl _ | apply Drawn0.step)⟩
            case round =>
              clear H'
              try clear c1
              try clear p1
              try clear q1
              try clear hx1
              try clear c2
              try clear p2
              try clear c4
              try clear c4b0
              try clear c5
              try clear c5b0
              try clear c6
              try clear c6b0
              try clear c6b1
              try clear p6
              try clear c7
              try clear c9
              try clear c9b0
              try clear c11
              try clear c11b0
              try clear c12
              try clear c12b0
              try clear c13
              try clear c13b0
              try clear c13b1
              try clear c14
              try clear c15
              try clear c15b0
              try clear c16
              try clear c16b0
              try clear p16
              try clear q16
              try clear hx16
              try clear c17
              try clear c17b0
              try clear c17b1
              try clear hx165_0
              try clear hx166_0
              try clear hx167_0
              try clear hx168_0
              try clear hx169_0
              try clear p1
              try clear p16
              try clear p165
              try clear p166
              try clear p167
              try clear p168
              try clear p169
              try clear p2
              try clear p6
              try clear q1
              try clear q16
              try clear q165
              try clear q166
              try clear q167
              try clear q168
              try clear q169
              obtain ⟨x6_3, x7_3, rfl, rfl, HA, HK3, ⟨m3, rfl⟩⟩ := hrel
              cases gk with
              | zero => exact absurd HA.out (by simp [escape_IsFencedCode.l1])
              | succ k3 =>
                have H := HA.out
                clear HA
                simp only [escape_IsFencedCode.l1] at H
                by_cases c18 : x7_3 < (l0.length : Int)
                · rw [if_pos c18] at H
                  have c18b0 : decide (x7_3 < (l0.length : Int)) = true := decide_eq_true c18
                  clear c18
                  by_cases c19 : 0 ≤ x7_3
                  · rw [if_pos c19] at H
                    have c19b0 : decide (0 ≤ x7_3) = true := decide_eq_true c19
                    clear c19
                    by_cases c20 : (rd l0 x7_3) = 7
                    · rw [if_pos c20] at H
                      have c20b0 : ((rd l0 x7_3) == 7) = true := beq_iff_eq.mpr c20
                      have c20b1 : ((rd l0 x7_3) != 7) = false := bne_eq_false_iff_eq.mpr c20
                      clear c20
                      have H' := Aside0.mk H
                      clear H
                      have p170 : 0 ≤ (x7_3 : Int) := of_decide_eq_true (by first | (with_reducible assumption) | assumption)
                      have q170 : x7_3 < (l0.length : Int) := of_decide_eq_true (by first | (with_reducible assumption) | assumption)
                      obtain ⟨ad170, e170, hx170_0⟩ := Kd.at_int HR0.out x7_3 p170 q170
                      cases e170
                      replace p170 := eq_true p170
                      replace q170 := eq_true q170
                      go_wp2
                      go_roundg k3
                      case measure => have := HJ2.out; have := HJ7.out; have := HK3.out; omega
                      case rel => exact ⟨(x6_3), (wrap64 (x7_3 + 1)), (by first | rfl | (simp; done) | (simp [*]; done)), (by first | rfl | (simp; done) | (simp [*]; done)), H', ⟨by have := HJ2.out; have := HJ7.out; have := HK3.out; omega⟩, by repeat (first | exact Drawn0.refl _ | apply Drawn0.step)⟩
                    · rw [if_neg c20] at H
                      have c20b0 : ((rd l0 x7_3) == 7) = false := beq_eq_false_iff_ne.mpr c20
                      have c20b1 : ((rd l0 x7_3) != 7) = true := bne_iff_ne.mpr c20
                      by_cases c21 : (rd l0 x7_3) = 96
                      · rw [if_pos c21] at H
                        have c21b0 : ((rd l0 x7_3) == 96) = true := beq_iff_eq.mpr c21
                        have c21b1 : ((rd l0 x7_3) != 96) = false := bne_eq_false_iff_eq.mpr c21
                        clear c21
                        have H' := Aside0.mk H
                        clear H
                        have p170 : 0 ≤ (x7_3 : Int) := of_decide_eq_true (by first | (with_reducible assumption) | assumption)
                        have q170 : x7_3 < (l0.length : Int) := of_decide_eq_true (by first | (with_reducible assumption) | assumption)
                        obtain ⟨ad170, e170, hx170_0⟩ := Kd.at_int HR0.out x7_3 p170 q170
                        cases e170
                        replace p170 := eq_true p170
                        replace q170 := eq_true q170
                        have p171 : 0 ≤ (x7_3 : Int) := of_decide_eq_true (by first | (with_reducible assumption) | assumption)
                        have q171 : x7_3 < (l0.length : Int) := of_decide_eq_true (by first | (with_reducible assumption) | assumption)
                        obtain ⟨ad171, e171, hx171_0⟩ := Kd.at_int HR0.out x7_3 p171 q171
                        obtain rfl : ad170 = ad171 := (by injection e171)
                        replace p171 := eq_true p171
                        replace q171 := eq_true q171
                        go_wp2
                        go_roundg k3
                        case measure => have := HJ2.out; have := HJ7.out; have := HK3.out; omega
                        case rel => exact ⟨(wrap64 (x6_3 + 1)), (wrap64 (x7_3 + 1)), (by first | rfl | (simp; done) | (simp [*]; done)), (by first | rfl | (simp; done) | (simp [*]; done)), H', ⟨by have := HJ2.out; have := HJ7.out; have := HK3.out; omega⟩, by repeat (first | exact Drawn0.refl _ | apply Drawn0.step)⟩
                      · rw [if_neg c21] at H
                        have c21b0 : ((rd l0 x7_3) == 96) = false := beq_eq_false_iff_ne.mpr c21
                        have c21b1 : ((rd l0 x7_3) != 96) = true := bne_iff_ne.mpr c21
                        by_cases c22 : (rd l0 x7_3) = 126
                        · rw [if_pos c22] at H
                          have c22b0 : ((rd l0 x7_3) == 126) = true := beq_iff_eq.mpr c22
                          have c22b1 : ((rd l0 x7_3) != 126) = false := bne_eq_false_iff_eq.mpr c22
                          clear c22
                          have H' := Aside0.mk H
                          clear H
                          have p170 : 0 ≤ (x7_3 : Int) := of_decide_eq_true (by first | (with_reducible assumption) | assumption)
                          have q170 : x7_3 < (l0.length : Int) := of_decide_eq_true (by first | (with_reducible assumption) | assumption)
                          obtain ⟨ad170, e170, hx170_0⟩ := Kd.at_int HR0.out x7_3 p170 q170
                          cases e170
                          replace p170 := eq_true p170
                          replace q170 := eq_true q170
                          have p171 : 0 ≤ (x7_3 : Int) := of_decide_eq_true (by first | (with_reducible assumption) | assumption)
                          have q171 : x7_3 < (l0.length : Int) := of_decide_eq_true (by first | (with_reducible assumption) | assumption)
                          obtain ⟨ad171, e171, hx171_0⟩ := Kd.at_int HR0.out x7_3 p171 q171
                          obtain rfl : ad170 = ad171 := (by injection e171)
                          replace p171 := eq_true p171
                          replace q171 := eq_true q171
                          have p172 : 0 ≤ (x7_3 : Int) := of_decide_eq_true (by first | (with_reducible assumption) | assumption)
                          have q172 : x7_3 < (l0.length : Int) := of_decide_eq_true (by first | (with_reducible assumption) | assumption)
                          obtain ⟨ad172, e172, hx172_0⟩ := Kd.at_int HR0.out x7_3 p172 q172
                          obtain rfl : ad170 = ad172 := (by injection e172)
                          replace p172 := eq_true p172
                          replace q172 := eq_true q172
                          go_wp2
                          go_roundg k3
                          case measure => have := HJ2.out; have := HJ7.out; have := HK3.out; omega
                          case rel => exact ⟨(wrap64 (x6_3 + 1)), (wrap64 (x7_3 + 1)), (by first | rfl | (simp; done) | (simp [*]; done)), (by first | rfl | (simp; done) | (simp [*]; done)), H', ⟨by have := HJ2.out; have := HJ7.out; have := HK3.out; omega⟩, by repeat (first | exact Drawn0.refl _ | apply Drawn0.step)⟩
                        · rw [if_neg c22] at H
                          have c22b0 : ((rd l0 x7_3) == 126) = false := beq_eq_false_iff_ne.mpr c22
                          have c22b1 : ((rd l0 x7_3) != 126) = true := bne_iff_ne.mpr c22
                          by_cases c23 : x6_3 < 3
                          · rw [if_pos c23] at H
                            have c23b0 : decide (x6_3 < 3) = true := decide_eq_true c23
                            clear c23
                            obtain rfl := Option.some.inj H
                            have p170 : 0 ≤ (x7_3 : Int) := of_decide_eq_true (by first | (with_reducible assumption) | assumption)
                            have q170 : x7_3 < (l0.length : Int) := of_decide_eq_true (by first | (with_reducible assumption) | assumption)
                            obtain ⟨ad170, e170, hx170_0⟩ := Kd.at_int HR0.out x7_3 p170 q170
                            cases e170
                            replace p170 := eq_true p170
                            replace q170 := eq_true q170
                            have p171 : 0 ≤ (x7_3 : Int) := of_decide_eq_true (by first | (with_reducible assumption) | assumption)
                            have q171 : x7_3 < (l0.length : Int) := of_decide_eq_true (by first | (with_reducible assumption) | assumption)
                            obtain ⟨ad171, e171, hx171_0⟩ := Kd.at_int HR0.out x7_3 p171 q171
                            obtain rfl : ad170 = ad171 := (by injection e171)
                            replace p171 := eq_true p171
                            replace q171 := eq_true q171
                            have p172 : 0 ≤ (x7_3 : Int) := of_decide_eq_true (by first | (with_reducible assumption) | assumption)
                            have q172 : x7_3 < (l0.length : Int) := of_decide_eq_true (by first | (with_reducible assumption) | assumption)
                            obtain ⟨ad172, e172, hx172_0⟩ := Kd.at_int HR0.out x7_3 p172 q172
                            obtain rfl : ad170 = ad172 := (by injection e172)
                            replace p172 := eq_true p172
                            replace q172 := eq_true q172
                            go_wp2
                            go_ret
                            exact ⟨by first | rfl | (simp; done) | (simp [*]; done), by repeat (first | exact Drawn0.refl _ | apply Drawn0.step)⟩
                          · rw [if_neg c23] at H
                            have c23b0 : decide (x6_3 < 3) = false := decide_eq_false c23
                            clear c23
                            obtain rfl := Option.some.inj H
                            have p170 : 0 ≤ (x7_3 : Int) := of_decide_eq_true (by first | (with_reducible assumption) | assumption)
                            have q170 : x7_3 < (l0.length : Int) := of_decide_eq_true (by first | (with_reducible assumption) | assumption)
                            obtain ⟨ad170, e170, hx170_0⟩ := Kd.at_int HR0.out x7_3 p170 q170
                            cases e170
                            replace p170 := eq_true p170
                            replace q170 := eq_true q170
                            have p171 : 0 ≤ (x7_3 : Int) := of_decide_eq_true (by first | (with_reducible assumption) | assumption)
                            have q171 : x7_3 < (l0.length : Int) := of_decide_eq_true (by first | (with_reducible assumption) | assumption)
                            obtain ⟨ad171, e171, hx171_0⟩ := Kd.at_int HR0.out x7_3 p171 q171
                            obtain rfl : ad170 = ad171 := (by injection e171)
                            replace p171 := eq_true p171
                            replace q171 := eq_true q171
                            have p172 : 0 ≤ (x7_3 : Int) := of_decide_eq_true (by first | (with_reducible assumption) | assumption)
                            have q172 : x7_3 < (l0.length : Int) := of_decide_eq_true (by first | (with_reducible assumption) | assumption)
                            obtain ⟨ad172, e172, hx172_0⟩ := Kd.at_int HR0.out x7_3 p172 q172
                            obtain rfl : ad170 = ad172 := (by injection e172)
                            replace p172 := eq_true p172
                            replace q172 := eq_true q172
                            go_wp2
                            go_ret
                            exact ⟨by first | rfl | (simp; done) | (simp [*]; done), by repeat (first | exact Drawn0.refl _ | apply Drawn0.step)⟩
                  · rw [if_neg c19] at H
                    exact absurd H (by simp)
                · rw [if_neg c18] at H
                  have c18b0 : decide (x7_3 < (l0.length : Int)) = false := decide_eq_false c18
                  clear c18
                  by_cases c24 : x6_3 < 3
                  · rw [if_pos c24] at H
                    have c24b0 : decide (x6_3 < 3) = true := decide_eq_true c24
                    clear c24
                    obtain rfl := Option.some.inj H
                    go_wp2
                    go_ret
                    exact ⟨by first | rfl | (simp; done) | (simp [*]; done), by repeat (first | exact Drawn0.refl _ | apply Drawn0.step)⟩
                  · rw [if_neg c24] at H
                    have c24b0 : decide (x6_3 < 3) = false := decide_eq_false c24
                    clear c24
                    obtain rfl := Option.some.inj H
                    go_wp2
                    go_ret
                    exact ⟨by first | rfl | (simp; done) | (simp [*]; done), by repeat (first | exact Drawn0.refl _ | apply Drawn0.step)⟩

/-! ### escape_IsInlineCode: function 49 -/
def escape_IsInlineCode.f (l0 : List Int) (a1 : Int) : Option (Int) := if 0 ≤ a1 then (if a1 < (l0.length : Int) then (if (rd l0 a1) = 96 then (some 1) else (some (-1))) else (none)) else (none)
set_option maxHeartbeats 8000000 in
set_option maxRecDepth 100000 in
theorem escape_IsInlineCode.calls (A0 : Option Addr) (c0 : Nat) (l0 : List Int) (a1 : Int) (r : Int) (w : World) (hr0 : Kd.C (Kd.int .u8) w A0 l0.length l0) (hc0 : l0.length ≤ c0) (h : escape_IsInlineCode.f l0 a1 = some r) :
    Calls Tryz.prog 49 #[.slice A0 l0.length c0, .int .i64 a1] w fun e w' => e = .returned (.int .i64 r) ∧ Drawn0 w w' := by
  have HR0 := Aside0.mk hr0
  have HC0 := Aside0.mk hc0
  clear hr0 hc0
  have H : (if 0 ≤ a1 then (if a1 < (l0.length : Int) then (if (rd l0 a1) = 96 then (some 1) else (some (-1))) else (none)) else (none)) = some r := h
  clear h
  by_cases c3 : 0 ≤ a1
  · rw [if_pos c3] at H
    have c3b0 : decide (0 ≤ a1) = true := decide_eq_true c3
    clear c3
    by_cases c4 : a1 < (l0.length : Int)
    · rw [if_pos c4] at H
      have c4b0 : decide (a1 < (l0.length : Int)) = true := decide_eq_true c4
      clear c4
      by_cases c5 : (rd l0 a1) = 96
      · rw [if_pos c5] at H
        have c5b0 : ((rd l0 a1) == 96) = true := beq_iff_eq.mpr c5
        have c5b1 : ((rd l0 a1) != 96) = false := bne_eq_false_iff_eq.mpr c5
        clear c5
        obtain rfl := Option.some.inj H
        have p173 : 0 ≤ (a1 : Int) := of_decide_eq_true (by first | (with_reducible assumption) | assumption)
        have q173 : a1 < (l0.length : Int) := of_decide_eq_true (by first | (with_reducible assumption) | assumption)
        obtain ⟨ad173, e173, hx173_0⟩ := Kd.at_int HR0.out a1 p173 q173
        cases e173
        replace p173 := eq_true p173
        replace q173 := eq_true q173
        go_enter Tryz.func49, Tryz.ntmps49
        go_wp2
        go_ret
        exact ⟨by first | rfl | (simp; done) | (simp [*]; done), by repeat (first | exact Drawn0.refl _ | apply Drawn0.step)⟩
      · rw [if_neg c5] at H
        have c5b0 : ((rd l0 a1) == 96) = false := beq_eq_false_iff_ne.mpr c5
        have c5b1 : ((rd l0 a1) != 96) = true := bne_iff_ne.mpr c5
        obtain rfl := Option.some.inj H
        have p173 : 0 ≤ (a1 : Int) := of_decide_eq_true (by first | (with_reducible assumption) | assumption)
        have q173 : a1 < (l0.length : Int) := of_decide_eq_true (by first | (with_reducible assumption) | assumption)
        obtain ⟨ad173, e173, hx173_0⟩ := Kd.at_int HR0.out a1 p173 q173
        cases e173
        replace p173 := eq_true p173
        replace q173 := eq_true q173
        go_enter Tryz.func49, Tryz.ntmps49
        go_wp2
        go_ret
        exact ⟨by first | rfl | (simp; done) | (simp [*]; done), by repeat (first | exact Drawn0.refl _ | apply Drawn0.step)⟩
    · rw [if_neg c4] at H
      exact absurd H (by simp)
  · rw [if_neg c3] at H
    exact absurd H (by simp)

/-! ### escape_IsBackslash: function 50 -/
def escape_IsBackslash.f (l0 : List Int) (a1 : Int) : Option (Int) := if 0 ≤ a1 then (if a1 < (l0.length : Int) then (if (rd l0 a1) = 92 then (some 1) else (some (-1))) else (none)) else (none)
set_option maxHeartbeats 8000000 in
set_option maxRecDepth 100000 in
theorem escape_IsBackslash.calls (A0 : Option Addr) (c0 : Nat) (l0 : List Int) (a1 : Int) (r : Int) (w : World) (hr0 : Kd.C (Kd.int .u8) w A0 l0.length l0) (hc0 : l0.length ≤ c0) (h : escape_IsBackslash.f l0 a1 = some r) :
    Calls Tryz.prog 50 #[.slice A0 l0.length c0, .int .i64 a1] w fun e w' => e = .returned (.int .i64 r) ∧ Drawn0 w w' := by
  have HR0 := Aside0.mk hr0
  have HC0 := Aside0.mk hc0
  clear hr0 hc0
  have H : (if 0 ≤ a1 then (if a1 < (l0.length : Int) then (if (rd l0 a1) = 92 then (some 1) else (some (-1))) else (none)) else (none)) = some r := h
  clear h
  by_cases c3 : 0 ≤ a1
  · rw [if_pos c3] at H
    have c3b0 : decide (0 ≤ a1) = true := decide_eq_true c3
    clear c3
    by_cases c4 : a1 < (l0.length : Int)
    · rw [if_pos c4] at H
      have c4b0 : decide (a1 < (l0.length : Int)) = true := decide_eq_true c4
      clear c4
      by_cases c5 : (rd l0 a1) = 92
      · rw [if_pos c5] at H
        have c5b0 : ((rd l0 a1) == 92) = true := beq_iff_eq.mpr c5
        have c5b1 : ((rd l0 a1) != 92) = false := bne_eq_false_iff_eq.mpr c5
        clear c5
        obtain rfl := Option.some.inj H
        have p174 : 0 ≤ (a1 : Int) := of_decide_eq_true (by first | (with_reducible assumption) | assumption)
        have q174 : a1 < (l0.length : Int) := of_decide_eq_true (by first | (with_reducible assumption) | assumption)
        obtain ⟨ad174, e174, hx174_0⟩ := Kd.at_int HR0.out a1 p174 q174
        cases e174
        replace p174 := eq_true p174
        replace q174 := eq_true q174
        go_enter Tryz.func50, Tryz.ntmps50
        go_wp2
        go_ret
        exact ⟨by first | rfl | (simp; done) | (simp [*]; done), by repeat (first | exact Drawn0.refl _ | apply Drawn0.step)⟩
      · rw [if_neg c5] at H
        have c5b0 : ((rd l0 a1) == 92) = false := beq_eq_false_iff_ne.mpr c5
        have c5b1 : ((rd l0 a1) != 92) = true := bne_iff_ne.mpr c5
        obtain rfl := Option.some.inj H
        have p174 : 0 ≤ (a1 : Int) := of_decide_eq_true (by first | (with_reducible assumption) | assumption)
        have q174 : a1 < (l0.length : Int) := of_decide_eq_true (by first | (with_reducible assumption) | assumption)
        obtain ⟨ad174, e174, hx174_0⟩ := Kd.at_int HR0.out a1 p174 q174
        cases e174
        replace p174 := eq_true p174
        replace q174 := eq_true q174
        go_enter Tryz.func50, Tryz.ntmps50
        go_wp2
        go_ret
        exact ⟨by first | rfl | (simp; done) | (simp [*]; done), by repeat (first | exact Drawn0.refl _ | apply Drawn0.step)⟩
    · rw [if_neg c4] at H
      exact absurd H (by simp)
  · rw [if_neg c3] at H
    exact absurd H (by simp)

-- NOT PRINTED: function 25 (impl_tested)

end Go.Proofs.YtbkimfhlgpgoiaaGreatDoor.Ptested
