/- The eleven escape tests: each tells -1 or, where punctuation stands, how many bytes, one at least, of those that there are. Conditions: the four listed tables are as the program lays them. -/
import Derived.Test.YtbkimfhlgpgoiaaGreatDoorPtestedx
import Derived.Test.YtbkimfhlgpgoiaaGreatDoorShelfE
import Derived.Lib.TrimU
namespace Go.Proofs.YtbkimfhlgpgoiaaGreatDoor.Hand
open Go.RowKit Go.Proofs.YtbkimfhlgpgoiaaGreatDoorW.PrintWords Go.Proofs.YtbkimfhlgpgoiaaGreatDoorW.PrintLast Go.Proofs.YtbkimfhlgpgoiaaGreatDoorW.PrintMore
set_option linter.unusedVariables false
set_option linter.unusedSimpArgs false

def bytesI (bs : List UInt8) : List Int := bs.map fun c => (c.toNat : Int)

theorem bytesI_length (bs : List UInt8) : (bytesI bs).length = bs.length := List.length_map ..

theorem addr_lit {w : World} {a : Addr} {v : Value} (h : w.cell? a = some v) : a = ⟨a.block, a.off, none⟩ := by
  obtain ⟨b, o, s⟩ := a
  cases s with
  | none => rfl
  | some s =>
    simp only [World.cell?] at h
    split at h
    · simp at h
    · cases h

theorem add_lit {a : Addr} (h : a = ⟨a.block, a.off, none⟩) (n : Nat) : a.add n = ⟨a.block, a.off + n, none⟩ := by
  rw [h]; exact Addr.add_lit _ _ _

theorem add_zero' {a : Addr} (h : a = ⟨a.block, a.off, none⟩) : a.add 0 = a := by
  rw [add_lit h, Nat.add_zero]; exact h.symm

/-- What DecodeRune gives is a rune. -/
theorem decode_range (s : ByteArray) : (Lib.decodeGo s).1 ≤ 1114111 := by
  unfold Lib.decodeGo
  split
  · decide
  · exact Lib.rune_le _ _

theorem get_mk (l : List UInt8) (j : Nat) (h : j < l.length) : (⟨l.toArray⟩ : ByteArray).get! j = l[j] := by
  change l.toArray[j]! = l[j]
  simp [h]

/-- What a slice of bytes holds, read off the words' own form. -/
theorem cells_of {w : World} {A0 : Option Addr} {bs : List UInt8} (h : Kd.C (Kd.int .u8) w A0 (bytesI bs).length (bytesI bs)) (hne : 0 < bs.length) :
    ∃ b o, A0 = some ⟨b, o, none⟩ ∧ ∀ j (hj : j < bs.length), w.cell? ⟨b, o + j, none⟩ = some (.int .u8 (bs[j].toNat : Int)) := by
  obtain ⟨ad, e, h0⟩ := Kd.at_int h 0 (by omega) (by rw [bytesI_length]; omega)
  have hz : ad.add (Int.toNat 0) = ad := if_pos rfl
  rw [hz] at h0
  have hlit : ad = ⟨ad.block, ad.off, none⟩ := addr_lit h0
  refine ⟨ad.block, ad.off, by rw [← hlit]; exact e, fun j hj => ?_⟩
  obtain ⟨ad', e', hx⟩ := Kd.at_int h (j : Int) (by omega) (by rw [bytesI_length]; omega)
  rw [e] at e'
  cases e'
  rw [Int.toNat_natCast, add_lit hlit] at hx
  rw [hx]
  congr 2
  simp [rd, bytesI, hj]

theorem decode_calls (b o c : Nat) (bs : List UInt8) (w : World) (hT : Lib.Utf8Tabs 2 3 w) (hp : ∀ j (hj : j < bs.length), w.cell? ⟨b, o + j, none⟩ = some (.int .u8 (bs[j].toNat : Int))) :
    Calls Tryz.prog 70 #[.slice (some ⟨b, o, none⟩) bs.length c] w fun e w' => (∃ r k : Int, e = .returned (.tuple #[.int .i32 r, .int .i64 k]) ∧ 0 ≤ r ∧ r ≤ 1114111) ∧ Below w.heap.size w w' := by
  have hs : (⟨bs.toArray⟩ : ByteArray).size = bs.length := rfl
  have := Tryz.utf8_DecodeRune ⟨bs.toArray⟩ b o c w hT (fun j hj => by rw [hs] at hj; rw [hp j hj, get_mk _ _ hj])
  refine this.mono ?_
  rintro e w' ⟨rfl, hb⟩
  exact ⟨⟨_, _, rfl, by omega, by have := decode_range ⟨bs.toArray⟩; omega⟩, hb⟩

theorem decodeLast_calls (b o c : Nat) (bs : List UInt8) (w : World) (hT : Lib.Utf8Tabs 2 3 w) (hc : bs.length ≤ c) (h63 : bs.length ≤ 9223372036854775806) (hp : ∀ j (hj : j < bs.length), w.cell? ⟨b, o + j, none⟩ = some (.int .u8 (bs[j].toNat : Int))) :
    Calls Tryz.prog 115 #[.slice (some ⟨b, o, none⟩) bs.length c] w fun e w' => (∃ r k : Int, e = .returned (.tuple #[.int .i32 r, .int .i64 k]) ∧ 0 ≤ r ∧ r ≤ 1114111) ∧ Below w.heap.size w w' := by
  have hs : (⟨bs.toArray⟩ : ByteArray).size = bs.length := rfl
  have := Tryz.utf8_DecodeLastRune ⟨bs.toArray⟩ b o c w hc (fun j hj => by rw [hs] at hj; rw [hp j hj, get_mk _ _ hj]) (by rw [hs]; omega) hT
  refine this.mono ?_
  rintro e w' ⟨rfl, hb⟩
  exact ⟨⟨_, _, rfl, by omega, by have := Lib.decodeLastL_rune bs; simp only at this ⊢; omega⟩, hb⟩

set_option maxHeartbeats 8000000 in
set_option maxRecDepth 100000 in
theorem next_calls (A0 : Option Addr) (c0 : Nat) (bs : List UInt8) (a1 : Int) (w : World) (hr0 : Kd.C (Kd.int .u8) w A0 (bytesI bs).length (bytesI bs)) (hc0 : (bytesI bs).length ≤ c0) (hT : Lib.Utf8Tabs 2 3 w)
    (h63 : bs.length ≤ 9223372036854775806) (ha0 : 0 ≤ a1) (ha : a1 < bs.length) :
    Calls Tryz.prog 76 #[.slice A0 (bytesI bs).length c0, .int .i64 a1] w fun e w' => (∃ r : Int, e = .returned (.int .i32 r) ∧ 0 ≤ r ∧ r ≤ 1114111) ∧ Below w.heap.size w w' := by
  have HR0 := Aside0.mk hr0
  have HC0 := Aside0.mk hc0
  have HT := Aside0.mk hT
  have HA := Aside0.mk (And.intro ha0 ha)
  have H63 := Aside0.mk h63
  clear hr0 hc0 hT ha0 ha h63
  go_enter Tryz.func76, Tryz.ntmps76
  go_wp2
  go_loop [5] (fun v5 => ∃ x : Int, v5 = .int .i64 x ∧ Aside0 (0 ≤ x ∧ x ≤ bs.length)) (fun v5 => bs.length - (intOf v5).toNat)
  case atStart => exact ⟨wrap64 (a1 + 1), (by first | rfl | (simp; done) | (simp [*]; done)), ⟨by have := HA.out; have := H63.out; unfold wrap64; omega⟩⟩
  case round =>
    obtain ⟨x, rfl, HX⟩ := hrel
    by_cases c3 : x < ((bytesI bs).length : Int)
    · have c3b0 : decide (x < ((bytesI bs).length : Int)) = true := decide_eq_true c3
      have c4 : 0 ≤ x := HX.out.1
      clear c3
      by_cases c5 : (rd (bytesI bs) x) = 7
      · have c5b0 : ((rd (bytesI bs) x) == 7) = true := beq_iff_eq.mpr c5
        clear c5
        have q146 : x < ((bytesI bs).length : Int) := of_decide_eq_true c3b0
        obtain ⟨ad146, e146, hx146_0⟩ := Kd.at_int HR0.out x c4 q146
        cases e146
        replace c4 := eq_true c4
        replace q146 := eq_true q146
        go_wp2
        go_round
        case measure =>
          have := HX.out
          have h3 := of_decide_eq_true c3b0
          rw [bytesI_length] at h3
          simp only [intOf]
          have : wrap64 (x + 1) = x + 1 := by unfold wrap64; have := H63.out; omega
          rw [this]; omega
        case rel =>
          refine ⟨wrap64 (x + 1), (by first | rfl | (simp; done) | (simp [*]; done)), ⟨?_⟩⟩
          have h3 := of_decide_eq_true c3b0
          rw [bytesI_length] at h3
          have := HX.out
          have := H63.out
          unfold wrap64; omega
      · have c5b0 : ((rd (bytesI bs) x) == 7) = false := beq_eq_false_iff_ne.mpr c5
        clear c5
        have q146 : x < ((bytesI bs).length : Int) := of_decide_eq_true c3b0
        obtain ⟨ad146, e146, hx146_0⟩ := Kd.at_int HR0.out x c4 q146
        cases e146
        obtain ⟨i, rfl⟩ := Int.eq_ofNat_of_zero_le c4
        have q147 : i ≤ (bytesI bs).length := by omega
        have q148 : (bytesI bs).length ≤ c0 := HC0.out
        simp only [Int.toNat_natCast] at hx146_0
        have hci : (c0 = i) = False := eq_false (by omega)
        have cD : Calls Tryz.prog 70 #[Value.slice (some (ad146.add i)) ((bytesI bs).length - i) (c0 - i)] w fun e w' => (∃ r k : Int, e = .returned (.tuple #[.int .i32 r, .int .i64 k]) ∧ 0 ≤ r ∧ r ≤ 1114111) ∧ Below w.heap.size w w' := by
          have hi : i < bs.length := by rw [bytesI_length] at q146; omega
          obtain ⟨b, o, e, hp⟩ := cells_of HR0.out (by omega)
          cases e
          rw [bytesI_length] at q148
          rw [add_lit (a := ⟨b, o, none⟩) rfl, bytesI_length, ← List.length_drop]
          refine decode_calls b (o + i) (c0 - i) (bs.drop i) w HT.out fun j hj => ?_
          simp only [List.length_drop] at hj
          rw [Nat.add_assoc, hp (i + j) (by omega)]
          simp
        have CD := Aside0.mk cD
        clear cD
        replace q146 := eq_true q146
        go_wp2_with (go_at_call 70; refine CD.out.mono ?_; rintro e w' ⟨⟨r, k, rfl, hr1, hr2⟩, hb⟩)
        go_ret
        exact ⟨⟨r, rfl, hr1, hr2⟩, hb⟩
    · have c3b0 : decide (x < ((bytesI bs).length : Int)) = false := decide_eq_false c3
      go_wp2
      go_ret
      exact ⟨⟨0, rfl, by omega, by omega⟩, Below.refl _ _⟩

set_option maxHeartbeats 8000000 in
set_option maxRecDepth 100000 in
theorem prev_calls (A0 : Option Addr) (c0 : Nat) (bs : List UInt8) (a1 : Int) (w : World) (hr0 : Kd.C (Kd.int .u8) w A0 (bytesI bs).length (bytesI bs)) (hc0 : (bytesI bs).length ≤ c0) (hT : Lib.Utf8Tabs 2 3 w)
    (h63 : bs.length ≤ 9223372036854775806) (ha0 : 0 ≤ a1) (ha : a1 < bs.length) :
    Calls Tryz.prog 77 #[.slice A0 (bytesI bs).length c0, .int .i64 a1] w fun e w' => (∃ r : Int, e = .returned (.int .i32 r) ∧ 0 ≤ r ∧ r ≤ 1114111) ∧ Below w.heap.size w w' := by
  have HR0 := Aside0.mk hr0
  have HC0 := Aside0.mk hc0
  have HT := Aside0.mk hT
  have HA := Aside0.mk (And.intro ha0 ha)
  have H63 := Aside0.mk h63
  clear hr0 hc0 hT ha0 ha h63
  go_enter Tryz.func77, Tryz.ntmps77
  go_wp2
  go_loop [5] (fun v5 => ∃ x : Int, v5 = .int .i64 x ∧ Aside0 (-1 ≤ x ∧ x < bs.length)) (fun v5 => (intOf v5 + 1).toNat)
  case atStart => exact ⟨wrap64 (a1 - 1), (by first | rfl | (simp; done) | (simp [*]; done)), ⟨by have := HA.out; have := H63.out; unfold wrap64; omega⟩⟩
  case round =>
    obtain ⟨x, rfl, HX⟩ := hrel
    by_cases c3 : 0 ≤ x
    · have c3b0 : decide (0 ≤ x) = true := decide_eq_true c3
      have c3b1 : decide (x ≥ 0) = true := decide_eq_true c3
      have hlen : x < ((bytesI bs).length : Int) := by rw [bytesI_length]; exact HX.out.2
      by_cases c5 : (rd (bytesI bs) x) = 7
      · have c5b0 : ((rd (bytesI bs) x) == 7) = true := beq_iff_eq.mpr c5
        clear c5
        obtain ⟨ad146, e146, hx146_0⟩ := Kd.at_int HR0.out x c3 hlen
        cases e146
        have c4 := eq_true c3
        have q146 := eq_true hlen
        clear c3 hlen
        go_wp2
        go_round
        case measure =>
          have := HX.out
          have h3 := of_decide_eq_true c3b0
          simp only [intOf]
          have : wrap64 (x - 1) = x - 1 := by unfold wrap64; have := H63.out; omega
          rw [this]; omega
        case rel =>
          refine ⟨wrap64 (x - 1), (by first | rfl | (simp; done) | (simp [*]; done)), ⟨?_⟩⟩
          have h3 := of_decide_eq_true c3b0
          have := HX.out
          have := H63.out
          unfold wrap64; omega
      · have c5b0 : ((rd (bytesI bs) x) == 7) = false := beq_eq_false_iff_ne.mpr c5
        clear c5
        obtain ⟨ad146, e146, hx146_0⟩ := Kd.at_int HR0.out x c3 hlen
        cases e146
        obtain ⟨i, rfl⟩ := Int.eq_ofNat_of_zero_le c3
        have q147 : i < (bytesI bs).length := by omega
        have q148 : (bytesI bs).length ≤ c0 := HC0.out
        simp only [Int.toNat_natCast] at hx146_0
        have hw : wrap64 ((i : Int) + 1) = ((i + 1 : Nat) : Int) := by have := H63.out; rw [bytesI_length] at q147; unfold wrap64; omega
        have q149 : i + 1 ≤ c0 := by omega
        have hci : (c0 = 0) = False := eq_false (by omega)
        have cD : Calls Tryz.prog 115 #[Value.slice (some ad146) (i + 1) c0] w fun e w' => (∃ r k : Int, e = .returned (.tuple #[.int .i32 r, .int .i64 k]) ∧ 0 ≤ r ∧ r ≤ 1114111) ∧ Below w.heap.size w w' := by
          rw [bytesI_length] at q147
          obtain ⟨b, o, e, hp⟩ := cells_of HR0.out (by omega)
          cases e
          have hl : (bs.take (i + 1)).length = i + 1 := by simp; omega
          have := decodeLast_calls b o c0 (bs.take (i + 1)) w HT.out (by omega) (by have := H63.out; omega) (fun j hj => by
            rw [hl] at hj
            rw [hp j (by omega)]
            simp)
          rw [hl] at this
          exact this
        have CD := Aside0.mk cD
        clear cD
        have c4 := eq_true c3
        have q146 := eq_true hlen
        clear c3 hlen
        go_wp2_with (go_at_call 115; refine CD.out.mono ?_; rintro e w' ⟨⟨r, k, rfl, hr1, hr2⟩, hb⟩)
        go_ret
        exact ⟨⟨r, rfl, hr1, hr2⟩, hb⟩
    · have c3b0 : decide (0 ≤ x) = false := decide_eq_false c3
      have c3b1 : decide (x ≥ 0) = false := decide_eq_false c3
      go_wp2
      go_ret
      exact ⟨⟨0, rfl, by omega, by omega⟩, Below.refl _ _⟩

/-- The marks of punctuation. -/
def punct (c : Int) : Bool := (33 ≤ c && c ≤ 47) || (58 ≤ c && c ≤ 64) || (91 ≤ c && c ≤ 96) || (123 ≤ c && c ≤ 126)

/-- An escape test's answer: none, or some letters from a mark of punctuation on. -/
def Tested (bs : List UInt8) (i r : Int) : Prop :=
  r = -1 ∨ (1 ≤ r ∧ r ≤ bs.length - i ∧ punct (rd (bytesI bs) i) = true)

end Go.Proofs.YtbkimfhlgpgoiaaGreatDoor.Hand

namespace Go.Proofs.YtbkimfhlgpgoiaaGreatDoor.Hand
open Go.RowKit Go.Proofs.YtbkimfhlgpgoiaaGreatDoorW.PrintWords Go.Proofs.YtbkimfhlgpgoiaaGreatDoorW.PrintLast Go.Proofs.YtbkimfhlgpgoiaaGreatDoorW.PrintMore
set_option linter.unusedVariables false
set_option linter.unusedSimpArgs false

set_option maxHeartbeats 8000000 in
set_option maxRecDepth 100000 in
theorem italic_calls (A0 : Option Addr) (c0 : Nat) (bs : List UInt8) (a1 : Int) (w : World) (hr0 : Kd.C (Kd.int .u8) w A0 (bytesI bs).length (bytesI bs)) (hc0 : (bytesI bs).length ≤ c0) (hT : Lib.Utf8Tabs 2 3 w) (hW : Lib.WhiteTab 0 w)
    (h63 : bs.length ≤ 9223372036854775806) (ha0 : 0 ≤ a1) (ha : a1 < bs.length) :
    Calls Tryz.prog 40 #[.slice A0 (bytesI bs).length c0, .int .i64 a1] w fun e w' => (∃ r : Int, e = .returned (.int .i64 r) ∧ Tested bs a1 r) ∧ Below w.heap.size w w' := by
  have CN := Aside0.mk (next_calls A0 c0 bs a1 w hr0 hc0 hT h63 ha0 ha)
  have HR0 := Aside0.mk hr0
  have HC0 := Aside0.mk hc0
  have HT := Aside0.mk hT
  have HW := Aside0.mk hW
  have HA := Aside0.mk (And.intro ha0 ha)
  have H63 := Aside0.mk h63
  have hlen : a1 < ((bytesI bs).length : Int) := by rw [bytesI_length]; exact ha
  clear hr0 hc0 hT ha h63 hW
  obtain ⟨ad146, e146, hx146_0⟩ := Kd.at_int HR0.out a1 ha0 hlen
  cases e146
  have q1 := eq_true ha0
  have q2 := eq_true hlen
  have hpost : ∀ (c : Int), rd (bytesI bs) a1 = c → punct c = true → Tested bs a1 1 := fun c h1 h2 => .inr ⟨by omega, by have := HA.out; omega, by rw [h1]; exact h2⟩
  have HP := Aside0.mk hpost
  clear hpost ha0 hlen
  by_cases c5 : rd (bytesI bs) a1 = 42
  · have c5b0 : (rd (bytesI bs) a1 == 42) = true := beq_iff_eq.mpr c5
    have c5b1 : (rd (bytesI bs) a1 != 42) = false := bne_eq_false_iff_eq.mpr c5
    have C5 := Aside0.mk c5
    clear c5
    go_enter Tryz.func40, Tryz.ntmps40
    go_wp2_with (go_at_call 76; refine CN.out.mono ?_; rintro e w1 ⟨⟨r, rfl, hr1, hr2⟩, hb⟩)
    refine (Tryz.unicode_IsSpace_any r w1 (by omega) (by omega) (WhiteTab_below HW.out hb)).mono ?_
    rintro e w2 ⟨rfl, hb2⟩
    have hb3 := Aside0.mk (below_step hb hb2)
    clear hb hb2
    cases Lib.isSpaceZ r
    all_goals
      by_cases hr : r = 0
      · have hrb : (r == 0) = true := beq_iff_eq.mpr hr
        clear hr
        go_wp2
        go_ret
        exact ⟨⟨_, rfl, .inl rfl⟩, hb3.out⟩
      · have hrb : (r == 0) = false := beq_eq_false_iff_ne.mpr hr
        clear hr
        go_wp2
        go_ret
        first
          | exact ⟨⟨_, rfl, .inl rfl⟩, hb3.out⟩
          | exact ⟨⟨_, rfl, HP.out 42 C5.out rfl⟩, hb3.out⟩
  · have c5b0 : (rd (bytesI bs) a1 == 42) = false := beq_eq_false_iff_ne.mpr c5
    have c5b1 : (rd (bytesI bs) a1 != 42) = true := bne_iff_ne.mpr c5
    clear c5
    by_cases c6 : rd (bytesI bs) a1 = 95
    · have c6b0 : (rd (bytesI bs) a1 == 95) = true := beq_iff_eq.mpr c6
      have c6b1 : (rd (bytesI bs) a1 != 95) = false := bne_eq_false_iff_eq.mpr c6
      have C5 := Aside0.mk c6
      clear c6
      go_enter Tryz.func40, Tryz.ntmps40
      go_wp2_with (go_at_call 76; refine CN.out.mono ?_; rintro e w1 ⟨⟨r, rfl, hr1, hr2⟩, hb⟩)
      refine (Tryz.unicode_IsSpace_any r w1 (by omega) (by omega) (WhiteTab_below HW.out hb)).mono ?_
      rintro e w2 ⟨rfl, hb2⟩
      have hb3 := Aside0.mk (below_step hb hb2)
      clear hb hb2
      cases Lib.isSpaceZ r
      all_goals
        by_cases hr : r = 0
        · have hrb : (r == 0) = true := beq_iff_eq.mpr hr
          clear hr
          go_wp2
          go_ret
          exact ⟨⟨_, rfl, .inl rfl⟩, hb3.out⟩
        · have hrb : (r == 0) = false := beq_eq_false_iff_ne.mpr hr
          clear hr
          go_wp2
          go_ret
          first
            | exact ⟨⟨_, rfl, .inl rfl⟩, hb3.out⟩
            | exact ⟨⟨_, rfl, HP.out 95 C5.out rfl⟩, hb3.out⟩
    · have c6b0 : (rd (bytesI bs) a1 == 95) = false := beq_eq_false_iff_ne.mpr c6
      have c6b1 : (rd (bytesI bs) a1 != 95) = true := bne_iff_ne.mpr c6
      clear c6
      go_enter Tryz.func40, Tryz.ntmps40
      go_wp2
      go_ret
      exact ⟨⟨_, rfl, .inl rfl⟩, Below.refl _ _⟩
end Go.Proofs.YtbkimfhlgpgoiaaGreatDoor.Hand

namespace Go.Proofs.YtbkimfhlgpgoiaaGreatDoor.Hand
open Go.RowKit Go.Proofs.YtbkimfhlgpgoiaaGreatDoorW.PrintWords Go.Proofs.YtbkimfhlgpgoiaaGreatDoorW.PrintLast Go.Proofs.YtbkimfhlgpgoiaaGreatDoorW.PrintMore
open Go.Proofs.YtbkimfhlgpgoiaaGreatDoor.Ptested
set_option linter.unusedVariables false
set_option linter.unusedSimpArgs false

/-- unicode.IsDigit answers, from this world on. -/
def DigitOk (w : World) : Prop := ∀ (r : Int) (w1 : World), 0 ≤ r → r ≤ 1114111 → Below w.heap.size w w1 → Calls Tryz.prog 78 #[.int .i32 r] w1 fun e w2 => (∃ b, e = .returned (.bool b)) ∧ Below w1.heap.size w1 w2

theorem isDigit_total (a : Int) : ∃ r, escape_IsDigit.f a = some r := by
  unfold escape_IsDigit.f
  repeat' split
  all_goals exact ⟨_, rfl⟩

theorem isSpace_total (a : Int) : ∃ r, escape_IsSpace.f a = some r := by
  unfold escape_IsSpace.f
  repeat' split
  all_goals exact ⟨_, rfl⟩

theorem getNext_total (l : List Int) (h63 : l.length ≤ 9223372036854775806) : ∀ (n : Nat) (x : Int), 0 ≤ x → l.length - x.toNat < n → ∃ r, escape_getNext.l0 n l x = some r := by
  intro n
  induction n with
  | zero => intro x _ h; omega
  | succ n ih =>
    intro x h0 h
    simp only [escape_getNext.l0]
    by_cases c : x < (l.length : Int)
    · rw [if_pos c, if_pos h0]
      split
      · have : wrap64 (x + 1) = x + 1 := by unfold wrap64; omega
        rw [this]
        exact ih (x + 1) (by omega) (by omega)
      · exact ⟨_, rfl⟩
    · rw [if_neg c]; exact ⟨_, rfl⟩

theorem next_ok (A0 : Option Addr) (c0 : Nat) (bs : List UInt8) (a1 : Int) (w : World) (hr0 : Kd.C (Kd.int .u8) w A0 (bytesI bs).length (bytesI bs)) (hc0 : (bytesI bs).length ≤ c0)
    (h63 : bs.length ≤ 9223372036854775806) (ha0 : 0 ≤ a1) (ha : a1 < bs.length) :
    Calls Tryz.prog 80 #[.slice A0 (bytesI bs).length c0, .int .i64 a1] w fun e w' => (∃ r : Int, e = .returned (.int .u8 r)) ∧ Drawn0 w w' := by
  have hw : wrap64 (a1 + 1) = a1 + 1 := by unfold wrap64; omega
  obtain ⟨r, hr⟩ := getNext_total (bytesI bs) (by rw [bytesI_length]; exact h63) ((bytesI bs).length + 1) (a1 + 1) (by omega) (by omega)
  refine (escape_getNext.calls ((bytesI bs).length + 1) A0 c0 (bytesI bs) a1 r w hr0 hc0 (by unfold escape_getNext.f; rw [hw]; exact hr)).mono ?_
  rintro e w' ⟨rfl, hb⟩
  exact ⟨⟨r, rfl⟩, hb⟩

set_option maxHeartbeats 8000000 in
set_option maxRecDepth 100000 in
theorem ordered_calls (A0 : Option Addr) (c0 : Nat) (bs : List UInt8) (a1 : Int) (w : World) (hr0 : Kd.C (Kd.int .u8) w A0 (bytesI bs).length (bytesI bs)) (hc0 : (bytesI bs).length ≤ c0) (hT : Lib.Utf8Tabs 2 3 w) (hD : DigitOk w)
    (h63 : bs.length ≤ 9223372036854775806) (ha0 : 0 ≤ a1) (ha : a1 < bs.length) :
    Calls Tryz.prog 45 #[.slice A0 (bytesI bs).length c0, .int .i64 a1] w fun e w' => (∃ r : Int, e = .returned (.int .i64 r) ∧ Tested bs a1 r) ∧ Below w.heap.size w w' := by
  have CN := Aside0.mk (prev_calls A0 c0 bs a1 w hr0 hc0 hT h63 ha0 ha)
  have HR0 := Aside0.mk hr0
  have HC0 := Aside0.mk hc0
  have HT := Aside0.mk hT
  have HD := Aside0.mk hD
  have HA := Aside0.mk (And.intro ha0 ha)
  have H63 := Aside0.mk h63
  have hlen : a1 < ((bytesI bs).length : Int) := by rw [bytesI_length]; exact ha
  clear hr0 hc0 hT ha h63 hD
  obtain ⟨ad146, e146, hx146_0⟩ := Kd.at_int HR0.out a1 ha0 hlen
  cases e146
  have q1 := eq_true ha0
  have q2 := eq_true hlen
  have hpost : ∀ (c : Int), rd (bytesI bs) a1 = c → punct c = true → Tested bs a1 1 := fun c h1 h2 => .inr ⟨by omega, by have := HA.out; omega, by rw [h1]; exact h2⟩
  have HP := Aside0.mk hpost
  clear hpost ha0 hlen
  by_cases c5 : rd (bytesI bs) a1 = 46
  · have c5b0 : (rd (bytesI bs) a1 == 46) = true := beq_iff_eq.mpr c5
    have c5b1 : (rd (bytesI bs) a1 != 46) = false := bne_eq_false_iff_eq.mpr c5
    have C5 := Aside0.mk c5
    clear c5
    go_enter Tryz.func45, Tryz.ntmps45
    go_wp2_with (go_at_call 77; refine CN.out.mono ?_; rintro e w1 ⟨⟨r, rfl, hr1, hr2⟩, hb⟩)
    refine (HD.out r w1 hr1 hr2 hb).mono ?_
    rintro e w2 ⟨⟨bd, rfl⟩, hb2⟩
    have HB := Aside0.mk (below_step hb hb2)
    clear hb hb2
    cases bd
    · go_wp2
      go_ret
      exact ⟨⟨_, rfl, .inl rfl⟩, HB.out⟩
    · have HRw := Aside0.mk (Kd.C_below HR0.out HB.out)
      clear hx146_0
      go_wp2
      go_loopw [6] (fun v6 ww => ∃ x : Int, v6 = .int .i64 x ∧ Aside0 (-1 ≤ x ∧ x < bs.length) ∧ Drawn0 w2 ww) (fun v6 _ => (intOf v6 + 1).toNat)
      case atStart => exact ⟨wrap64 (a1 - 1), (by first | rfl | (simp; done) | (simp [*]; done)), ⟨by have := HA.out; have := H63.out; unfold wrap64; omega⟩, Drawn0.refl _⟩
      case round =>
        obtain ⟨x, rfl, HX, ⟨m, rfl⟩⟩ := hrel
        by_cases c3 : 0 ≤ x
        · have c3b0 : decide (0 ≤ x) = true := decide_eq_true c3
          have c3b1 : decide (x ≥ 0) = true := decide_eq_true c3
          have hlx : x < ((bytesI bs).length : Int) := by rw [bytesI_length]; exact HX.out.2
          obtain ⟨ad147, e147, hx147⟩ := Kd.at_int (Kd.C_drewN HRw.out m) x c3 hlx
          obtain rfl : ad146 = ad147 := (by injection e147)
          have hround : -1 ≤ wrap64 (x - 1) ∧ wrap64 (x - 1) < bs.length ∧ (wrap64 (x - 1) + 1).toNat < (x + 1).toNat := by
            have := HX.out; have := H63.out
            have : wrap64 (x - 1) = x - 1 := by unfold wrap64; omega
            rw [this]; omega
          have HRD := Aside0.mk hround
          clear hround
          have c4 := eq_true c3
          have q146 := eq_true hlx
          clear c3 hlx
          by_cases d1 : rd (bytesI bs) x = 10
          · have d1b : (rd (bytesI bs) x == 10) = true := beq_iff_eq.mpr d1
            clear d1
            go_wp2_with (go_at_call 80; refine (next_ok (some ad146) c0 bs a1 _ (Kd.C_drewN HRw.out m) HC0.out H63.out HA.out.1 HA.out.2).mono ?_; rintro e w4 ⟨⟨r4, rfl⟩, ⟨m4, rfl⟩⟩)
            obtain ⟨r5, hr5⟩ := isSpace_total r4
            refine (escape_IsSpace.calls r4 r5 _ hr5).mono ?_
            rintro e w5 ⟨rfl, ⟨m5, rfl⟩⟩
            have hbz : Below w.heap.size w (w2.drewN (m + m4 + m5)) := pw_below_drewN HB.out _
            have HZ := Aside0.mk hbz
            clear hbz hr5
            cases r5
            all_goals
              by_cases hr : r4 = 0
              · have hrb : (r4 == 0) = true := beq_iff_eq.mpr hr
                clear hr
                go_wp2
                go_ret
                first
                  | exact ⟨⟨_, rfl, .inl rfl⟩, HZ.out⟩
                  | exact ⟨⟨_, rfl, HP.out 46 C5.out rfl⟩, HZ.out⟩
              · have hrb : (r4 == 0) = false := beq_eq_false_iff_ne.mpr hr
                clear hr
                go_wp2
                go_ret
                first
                  | exact ⟨⟨_, rfl, .inl rfl⟩, HZ.out⟩
                  | exact ⟨⟨_, rfl, HP.out 46 C5.out rfl⟩, HZ.out⟩
          · have d1b : (rd (bytesI bs) x == 10) = false := beq_eq_false_iff_ne.mpr d1
            clear d1
            by_cases d2 : rd (bytesI bs) x = 32
            · have d2b : (rd (bytesI bs) x == 32) = true := beq_iff_eq.mpr d2
              clear d2
              go_wp2
              go_roundw
              case measure => exact HRD.out.2.2
              case rel => exact ⟨wrap64 (x - 1), (by first | rfl | (simp; done) | (simp [*]; done)), ⟨⟨HRD.out.1, HRD.out.2.1⟩⟩, by repeat (first | exact Drawn0.refl _ | apply Drawn0.step)⟩
            · have d2b : (rd (bytesI bs) x == 32) = false := beq_eq_false_iff_ne.mpr d2
              clear d2
              by_cases d3 : rd (bytesI bs) x = 7
              · have d3b : (rd (bytesI bs) x == 7) = true := beq_iff_eq.mpr d3
                clear d3
                go_wp2
                go_roundw
                case measure => exact HRD.out.2.2
                case rel => exact ⟨wrap64 (x - 1), (by first | rfl | (simp; done) | (simp [*]; done)), ⟨⟨HRD.out.1, HRD.out.2.1⟩⟩, by repeat (first | exact Drawn0.refl _ | apply Drawn0.step)⟩
              · have d3b : (rd (bytesI bs) x == 7) = false := beq_eq_false_iff_ne.mpr d3
                clear d3
                obtain ⟨r6, hr6⟩ := isDigit_total (rd (bytesI bs) x)
                have CI := Aside0.mk (escape_IsDigit.calls (rd (bytesI bs) x) r6 (w2.drewN m) hr6)
                clear hr6
                cases r6
                · go_wp2_with (go_at_call 79; refine CI.out.mono ?_; rintro e w6 ⟨rfl, ⟨m6, rfl⟩⟩)
                  go_ret
                  exact ⟨⟨_, rfl, .inl rfl⟩, pw_below_drewN HB.out _⟩
                · go_wp2_with (go_at_call 79; refine CI.out.mono ?_; rintro e w6 ⟨rfl, ⟨m6, rfl⟩⟩)
                  go_roundw
                  case measure => exact HRD.out.2.2
                  case rel => exact ⟨wrap64 (x - 1), (by first | rfl | (simp; done) | (simp [*]; done)), ⟨⟨HRD.out.1, HRD.out.2.1⟩⟩, by repeat (first | exact Drawn0.refl _ | apply Drawn0.step)⟩
        · have c3b0 : decide (0 ≤ x) = false := decide_eq_false c3
          have c3b1 : decide (x ≥ 0) = false := decide_eq_false c3
          clear c3
          go_wp2_with (go_at_call 80; refine (next_ok (some ad146) c0 bs a1 _ (Kd.C_drewN HRw.out m) HC0.out H63.out HA.out.1 HA.out.2).mono ?_; rintro e w4 ⟨⟨r4, rfl⟩, ⟨m4, rfl⟩⟩)
          obtain ⟨r5, hr5⟩ := isSpace_total r4
          refine (escape_IsSpace.calls r4 r5 _ hr5).mono ?_
          rintro e w5 ⟨rfl, ⟨m5, rfl⟩⟩
          have hbz : Below w.heap.size w (w2.drewN (m + m4 + m5)) := pw_below_drewN HB.out _
          have HZ := Aside0.mk hbz
          clear hbz hr5
          cases r5
          all_goals
            by_cases hr : r4 = 0
            · have hrb : (r4 == 0) = true := beq_iff_eq.mpr hr
              clear hr
              go_wp2
              go_ret
              first
                | exact ⟨⟨_, rfl, .inl rfl⟩, HZ.out⟩
                | exact ⟨⟨_, rfl, HP.out 46 C5.out rfl⟩, HZ.out⟩
            · have hrb : (r4 == 0) = false := beq_eq_false_iff_ne.mpr hr
              clear hr
              go_wp2
              go_ret
              first
                | exact ⟨⟨_, rfl, .inl rfl⟩, HZ.out⟩
                | exact ⟨⟨_, rfl, HP.out 46 C5.out rfl⟩, HZ.out⟩
  · have c5b0 : (rd (bytesI bs) a1 == 46) = false := beq_eq_false_iff_ne.mpr c5
    have c5b1 : (rd (bytesI bs) a1 != 46) = true := bne_iff_ne.mpr c5
    clear c5
    by_cases c6 : rd (bytesI bs) a1 = 41
    · have c6b0 : (rd (bytesI bs) a1 == 41) = true := beq_iff_eq.mpr c6
      have c6b1 : (rd (bytesI bs) a1 != 41) = false := bne_eq_false_iff_eq.mpr c6
      have C5 := Aside0.mk c6
      clear c6
      go_enter Tryz.func45, Tryz.ntmps45
      go_wp2_with (go_at_call 77; refine CN.out.mono ?_; rintro e w1 ⟨⟨r, rfl, hr1, hr2⟩, hb⟩)
      refine (HD.out r w1 hr1 hr2 hb).mono ?_
      rintro e w2 ⟨⟨bd, rfl⟩, hb2⟩
      have HB := Aside0.mk (below_step hb hb2)
      clear hb hb2
      cases bd
      · go_wp2
        go_ret
        exact ⟨⟨_, rfl, .inl rfl⟩, HB.out⟩
      · have HRw := Aside0.mk (Kd.C_below HR0.out HB.out)
        clear hx146_0
        go_wp2
        go_loopw [6] (fun v6 ww => ∃ x : Int, v6 = .int .i64 x ∧ Aside0 (-1 ≤ x ∧ x < bs.length) ∧ Drawn0 w2 ww) (fun v6 _ => (intOf v6 + 1).toNat)
        case atStart => exact ⟨wrap64 (a1 - 1), (by first | rfl | (simp; done) | (simp [*]; done)), ⟨by have := HA.out; have := H63.out; unfold wrap64; omega⟩, Drawn0.refl _⟩
        case round =>
          obtain ⟨x, rfl, HX, ⟨m, rfl⟩⟩ := hrel
          by_cases c3 : 0 ≤ x
          · have c3b0 : decide (0 ≤ x) = true := decide_eq_true c3
            have c3b1 : decide (x ≥ 0) = true := decide_eq_true c3
            have hlx : x < ((bytesI bs).length : Int) := by rw [bytesI_length]; exact HX.out.2
            obtain ⟨ad147, e147, hx147⟩ := Kd.at_int (Kd.C_drewN HRw.out m) x c3 hlx
            obtain rfl : ad146 = ad147 := (by injection e147)
            have hround : -1 ≤ wrap64 (x - 1) ∧ wrap64 (x - 1) < bs.length ∧ (wrap64 (x - 1) + 1).toNat < (x + 1).toNat := by
              have := HX.out; have := H63.out
              have : wrap64 (x - 1) = x - 1 := by unfold wrap64; omega
              rw [this]; omega
            have HRD := Aside0.mk hround
            clear hround
            have c4 := eq_true c3
            have q146 := eq_true hlx
            clear c3 hlx
            by_cases d1 : rd (bytesI bs) x = 10
            · have d1b : (rd (bytesI bs) x == 10) = true := beq_iff_eq.mpr d1
              clear d1
              go_wp2_with (go_at_call 80; refine (next_ok (some ad146) c0 bs a1 _ (Kd.C_drewN HRw.out m) HC0.out H63.out HA.out.1 HA.out.2).mono ?_; rintro e w4 ⟨⟨r4, rfl⟩, ⟨m4, rfl⟩⟩)
              obtain ⟨r5, hr5⟩ := isSpace_total r4
              refine (escape_IsSpace.calls r4 r5 _ hr5).mono ?_
              rintro e w5 ⟨rfl, ⟨m5, rfl⟩⟩
              have hbz : Below w.heap.size w (w2.drewN (m + m4 + m5)) := pw_below_drewN HB.out _
              have HZ := Aside0.mk hbz
              clear hbz hr5
              cases r5
              all_goals
                by_cases hr : r4 = 0
                · have hrb : (r4 == 0) = true := beq_iff_eq.mpr hr
                  clear hr
                  go_wp2
                  go_ret
                  first
                    | exact ⟨⟨_, rfl, .inl rfl⟩, HZ.out⟩
                    | exact ⟨⟨_, rfl, HP.out 41 C5.out rfl⟩, HZ.out⟩
                · have hrb : (r4 == 0) = false := beq_eq_false_iff_ne.mpr hr
                  clear hr
                  go_wp2
                  go_ret
                  first
                    | exact ⟨⟨_, rfl, .inl rfl⟩, HZ.out⟩
                    | exact ⟨⟨_, rfl, HP.out 41 C5.out rfl⟩, HZ.out⟩
            · have d1b : (rd (bytesI bs) x == 10) = false := beq_eq_false_iff_ne.mpr d1
              clear d1
              by_cases d2 : rd (bytesI bs) x = 32
              · have d2b : (rd (bytesI bs) x == 32) = true := beq_iff_eq.mpr d2
                clear d2
                go_wp2
                go_roundw
                case measure => exact HRD.out.2.2
                case rel => exact ⟨wrap64 (x - 1), (by first | rfl | (simp; done) | (simp [*]; done)), ⟨⟨HRD.out.1, HRD.out.2.1⟩⟩, by repeat (first | exact Drawn0.refl _ | apply Drawn0.step)⟩
              · have d2b : (rd (bytesI bs) x == 32) = false := beq_eq_false_iff_ne.mpr d2
                clear d2
                by_cases d3 : rd (bytesI bs) x = 7
                · have d3b : (rd (bytesI bs) x == 7) = true := beq_iff_eq.mpr d3
                  clear d3
                  go_wp2
                  go_roundw
                  case measure => exact HRD.out.2.2
                  case rel => exact ⟨wrap64 (x - 1), (by first | rfl | (simp; done) | (simp [*]; done)), ⟨⟨HRD.out.1, HRD.out.2.1⟩⟩, by repeat (first | exact Drawn0.refl _ | apply Drawn0.step)⟩
                · have d3b : (rd (bytesI bs) x == 7) = false := beq_eq_false_iff_ne.mpr d3
                  clear d3
                  obtain ⟨r6, hr6⟩ := isDigit_total (rd (bytesI bs) x)
                  have CI := Aside0.mk (escape_IsDigit.calls (rd (bytesI bs) x) r6 (w2.drewN m) hr6)
                  clear hr6
                  cases r6
                  · go_wp2_with (go_at_call 79; refine CI.out.mono ?_; rintro e w6 ⟨rfl, ⟨m6, rfl⟩⟩)
                    go_ret
                    exact ⟨⟨_, rfl, .inl rfl⟩, pw_below_drewN HB.out _⟩
                  · go_wp2_with (go_at_call 79; refine CI.out.mono ?_; rintro e w6 ⟨rfl, ⟨m6, rfl⟩⟩)
                    go_roundw
                    case measure => exact HRD.out.2.2
                    case rel => exact ⟨wrap64 (x - 1), (by first | rfl | (simp; done) | (simp [*]; done)), ⟨⟨HRD.out.1, HRD.out.2.1⟩⟩, by repeat (first | exact Drawn0.refl _ | apply Drawn0.step)⟩
          · have c3b0 : decide (0 ≤ x) = false := decide_eq_false c3
            have c3b1 : decide (x ≥ 0) = false := decide_eq_false c3
            clear c3
            go_wp2_with (go_at_call 80; refine (next_ok (some ad146) c0 bs a1 _ (Kd.C_drewN HRw.out m) HC0.out H63.out HA.out.1 HA.out.2).mono ?_; rintro e w4 ⟨⟨r4, rfl⟩, ⟨m4, rfl⟩⟩)
            obtain ⟨r5, hr5⟩ := isSpace_total r4
            refine (escape_IsSpace.calls r4 r5 _ hr5).mono ?_
            rintro e w5 ⟨rfl, ⟨m5, rfl⟩⟩
            have hbz : Below w.heap.size w (w2.drewN (m + m4 + m5)) := pw_below_drewN HB.out _
            have HZ := Aside0.mk hbz
            clear hbz hr5
            cases r5
            all_goals
              by_cases hr : r4 = 0
              · have hrb : (r4 == 0) = true := beq_iff_eq.mpr hr
                clear hr
                go_wp2
                go_ret
                first
                  | exact ⟨⟨_, rfl, .inl rfl⟩, HZ.out⟩
                  | exact ⟨⟨_, rfl, HP.out 41 C5.out rfl⟩, HZ.out⟩
              · have hrb : (r4 == 0) = false := beq_eq_false_iff_ne.mpr hr
                clear hr
                go_wp2
                go_ret
                first
                  | exact ⟨⟨_, rfl, .inl rfl⟩, HZ.out⟩
                  | exact ⟨⟨_, rfl, HP.out 41 C5.out rfl⟩, HZ.out⟩
    · have c6b0 : (rd (bytesI bs) a1 == 41) = false := beq_eq_false_iff_ne.mpr c6
      have c6b1 : (rd (bytesI bs) a1 != 41) = true := bne_iff_ne.mpr c6
      clear c6
      go_enter Tryz.func45, Tryz.ntmps45
      go_wp2
      go_ret
      exact ⟨⟨_, rfl, .inl rfl⟩, Below.refl _ _⟩
end Go.Proofs.YtbkimfhlgpgoiaaGreatDoor.Hand

namespace Go.Proofs.YtbkimfhlgpgoiaaGreatDoor.Hand
open Go.RowKit Go.Proofs.YtbkimfhlgpgoiaaGreatDoorW.PrintWords Go.Proofs.YtbkimfhlgpgoiaaGreatDoorW.PrintLast Go.Proofs.YtbkimfhlgpgoiaaGreatDoorW.PrintMore
open Go.Proofs.YtbkimfhlgpgoiaaGreatDoor.Ptested
set_option linter.unusedVariables false
set_option linter.unusedSimpArgs false

/-- None, or some letters up to the end. -/
def Fits (l : List Int) (a r : Int) : Prop := r = -1 ∨ (1 ≤ r ∧ r ≤ l.length - a)


theorem dec_ok (l : List Int) (h63 : l.length ≤ 9223372036854775806) {x : Int} (h0 : 0 ≤ x) (h1 : x < l.length) : wrap64 (x - 1) = x - 1 := by unfold wrap64; omega
theorem inc_ok (l : List Int) (h63 : l.length ≤ 9223372036854775806) {x : Int} (h0 : 0 ≤ x) (h1 : x ≤ l.length) : wrap64 (x + 1) = x + 1 := by unfold wrap64; omega
theorem sub_ok (l : List Int) (h63 : l.length ≤ 9223372036854775806) {x a : Int} (h0 : 0 ≤ a) (h1 : a ≤ x) (h2 : x ≤ l.length) : wrap64 (x - a) = x - a := by unfold wrap64; omega

theorem quote_l0 (l : List Int) (h63 : l.length ≤ 9223372036854775806) : ∀ (n : Nat) (x : Int), -1 ≤ x → x < l.length → (x + 1).toNat < n → ∃ r, escape_IsBlockQuote.l0 n l x = some r ∧ (r = -1 ∨ r = 1) := by
  intro n
  induction n with
  | zero => intro x _ _ h; omega
  | succ n ih =>
    intro x h0 h1 h
    simp only [escape_IsBlockQuote.l0]
    by_cases c : x ≥ 0
    · rw [if_pos c, if_pos c, if_pos h1, dec_ok l h63 c h1]
      repeat' split
      all_goals first
        | exact ⟨_, rfl, by omega⟩
        | exact ih _ (by omega) (by omega) (by omega)
    · rw [if_neg c]; exact ⟨_, rfl, .inr rfl⟩

theorem atx_l1 (l : List Int) (h63 : l.length ≤ 9223372036854775806) (a : Int) (ha : 0 ≤ a) : ∀ (n : Nat) (c x : Int), 1 ≤ c → c ≤ 6 → a < x → x ≤ l.length → l.length - x.toNat < n → ∃ r, escape_IsAtxHeader.l1 n l a c x = some r ∧ (a < l.length → Fits l a r) := by
  intro n
  induction n with
  | zero => intro c x _ _ _ _ h; omega
  | succ n ih =>
    intro c x g0 g1 h0 h1 h
    simp only [escape_IsAtxHeader.l1]
    have w1 := inc_ok l h63 (x := x) (by omega) h1
    have w2 : wrap64 (c + 1) = c + 1 := by unfold wrap64; omega
    have w3 := sub_ok l h63 ha (by omega) h1
    rw [w1, w2, w3]
    by_cases d : x < (l.length : Int)
    · rw [if_pos d, if_pos (by omega : 0 ≤ x)]
      repeat' split
      all_goals first
        | exact ⟨_, rfl, fun _ => .inl rfl⟩
        | exact ⟨_, rfl, fun _ => .inr ⟨by omega, by omega⟩⟩
        | exact ih _ _ (by omega) (by omega) (by omega) (by omega) (by omega)
    · rw [if_neg d]; exact ⟨_, rfl, fun _ => .inr ⟨by omega, by omega⟩⟩

theorem atx_l0 (l : List Int) (h63 : l.length ≤ 9223372036854775806) (a : Int) (ha : 0 ≤ a) (ha1 : a < l.length) : ∀ (n : Nat) (x : Int), -1 ≤ x → x < l.length → (x + 1).toNat + l.length + 3 < n → ∃ r, escape_IsAtxHeader.l0 n l a x = some r ∧ Fits l a r := by
  intro n
  induction n with
  | zero => intro x _ _ h; omega
  | succ n ih =>
    intro x h0 h1 h
    have hj : ∃ r, escape_IsAtxHeader.j1 n l a = some r ∧ Fits l a r := by
      obtain ⟨m, rfl⟩ : ∃ m, n = m + 1 := ⟨n - 1, by omega⟩
      simp only [escape_IsAtxHeader.j1]
      rw [inc_ok l h63 ha (by omega)]
      obtain ⟨r, h1, h2⟩ := atx_l1 l h63 a ha m 1 (a + 1) (by omega) (by omega) (by omega) (by omega) (by omega)
      exact ⟨r, h1, h2 ha1⟩
    simp only [escape_IsAtxHeader.l0]
    by_cases c : x ≥ 0
    · rw [if_pos c, if_pos c, if_pos h1, dec_ok l h63 c h1]
      repeat' split
      all_goals first
        | exact hj
        | exact ⟨_, rfl, .inl rfl⟩
        | exact ih _ (by omega) (by omega) (by omega)
    · rw [if_neg c]; exact hj

theorem setext_l0 (l : List Int) (h63 : l.length ≤ 9223372036854775806) : ∀ (n : Nat), (∀ (c x : Int), -1 ≤ x → x < l.length → 2 * (x + 1).toNat + 1 ≤ n → ∃ r, escape_IsSetextHeader.l0 n l c x = some r ∧ (r = -1 ∨ r = 1)) ∧
    (∀ (c x : Int) (b : Bool), 0 ≤ x → x < l.length → 2 * (x + 1).toNat ≤ n → ∃ r, escape_IsSetextHeader.j2 n l c x b = some r ∧ (r = -1 ∨ r = 1)) := by
  intro n
  induction n with
  | zero => exact ⟨fun c x _ _ h => by omega, fun c x b _ _ h => by omega⟩
  | succ n ih =>
    obtain ⟨ih1, ih2⟩ := ih
    refine ⟨fun c x h0 h1 h => ?_, fun c x b h0 h1 h => ?_⟩
    · simp only [escape_IsSetextHeader.l0]
      by_cases d : x ≥ 0
      · rw [if_pos d, if_pos d, if_pos h1]
        split
        · exact ih2 _ _ _ d h1 (by omega)
        · exact ih2 _ _ _ d h1 (by omega)
      · rw [if_neg d]; exact ⟨_, rfl, .inl rfl⟩
    · simp only [escape_IsSetextHeader.j2]
      rw [dec_ok l h63 h0 h1, if_pos h0, if_pos h1]
      repeat' split
      all_goals first
        | exact ⟨_, rfl, by omega⟩
        | exact ih1 _ _ (by omega) (by omega) (by omega)

theorem divider_l1 (l : List Int) (h63 : l.length ≤ 9223372036854775806) (a : Int) (ha : 0 ≤ a) (ha1 : a < l.length) : ∀ (n : Nat) (c x : Int), 1 ≤ c → c ≤ x → a < x → x ≤ l.length → l.length - x.toNat < n → ∃ r, escape_IsDivider.l1 n l a c l.length x = some r ∧ Fits l a r := by
  intro n
  induction n with
  | zero => intro c x _ _ _ _ h; omega
  | succ n ih =>
    intro c x g0 g1 h0 h1 h
    simp only [escape_IsDivider.l1]
    have w1 := inc_ok l h63 (x := x) (by omega) h1
    have w2 := inc_ok l h63 (x := c) (by omega) (by omega)
    have w3 := sub_ok l h63 ha (by omega) h1
    have w4 := sub_ok l h63 ha (by omega) (Int.le_refl (l.length : Int))
    rw [w1, w2, w3, w4]
    by_cases d : x < (l.length : Int)
    · rw [if_pos d, if_pos (by omega : 0 ≤ x), if_pos ha, if_pos ha1]
      repeat' split
      all_goals first
        | exact ⟨_, rfl, .inl rfl⟩
        | exact ⟨_, rfl, .inr ⟨by omega, by omega⟩⟩
        | exact ih _ _ (by omega) (by omega) (by omega) (by omega) (by omega)
    · rw [if_neg d]
      split
      · exact ⟨_, rfl, .inr ⟨by omega, by omega⟩⟩
      · exact ⟨_, rfl, .inl rfl⟩

theorem divider_l0 (l : List Int) (h63 : l.length ≤ 9223372036854775806) (a : Int) (ha : 0 ≤ a) (ha1 : a < l.length) : ∀ (n : Nat) (x : Int), -1 ≤ x → x < l.length → (x + 1).toNat + l.length + 3 < n → ∃ r, escape_IsDivider.l0 n l a x = some r ∧ Fits l a r := by
  intro n
  induction n with
  | zero => intro x _ _ h; omega
  | succ n ih =>
    intro x h0 h1 h
    have hj : ∃ r, escape_IsDivider.j2 n l a = some r ∧ Fits l a r := by
      obtain ⟨m, rfl⟩ : ∃ m, n = m + 1 := ⟨n - 1, by omega⟩
      simp only [escape_IsDivider.j2]
      rw [inc_ok l h63 ha (by omega)]
      exact divider_l1 l h63 a ha ha1 m 1 (a + 1) (by omega) (by omega) (by omega) (by omega) (by omega)
    simp only [escape_IsDivider.l0]
    by_cases c : x ≥ 0
    · rw [if_pos c, if_pos c, if_pos h1, dec_ok l h63 c h1]
      repeat' split
      all_goals first
        | exact hj
        | exact ⟨_, rfl, .inl rfl⟩
        | exact ih _ (by omega) (by omega) (by omega)
    · rw [if_neg c]; exact hj

theorem list_l0 (l : List Int) (h63 : l.length ≤ 9223372036854775806) (a : Int) (ha : 0 ≤ a) (ha1 : a < l.length) : ∀ (n : Nat) (x : Int), -1 ≤ x → x < l.length → (x + 1).toNat + l.length + 3 < n → ∃ r, escape_IsUnorderedList.l0 n l a x = some r ∧ (r = -1 ∨ r = 1) := by
  intro n
  induction n with
  | zero => intro x _ _ h; omega
  | succ n ih =>
    intro x h0 h1 h
    have hj : ∃ r, escape_IsUnorderedList.j2 n l a = some r ∧ (r = -1 ∨ r = 1) := by
      obtain ⟨m, rfl⟩ : ∃ m, n = m + 1 := ⟨n - 1, by omega⟩
      simp only [escape_IsUnorderedList.j2, escape_getNext.f]
      rw [inc_ok l h63 ha (by omega)]
      obtain ⟨r1, e1⟩ := getNext_total l h63 m (a + 1) (by omega) (by omega)
      obtain ⟨r2, e2⟩ := isSpace_total r1
      rw [e1, Option.bind_some, e2, Option.bind_some]
      repeat' split
      all_goals exact ⟨_, rfl, by omega⟩
    simp only [escape_IsUnorderedList.l0]
    by_cases c : x ≥ 0
    · rw [if_pos c, if_pos c, if_pos h1, dec_ok l h63 c h1]
      repeat' split
      all_goals first
        | exact hj
        | exact ⟨_, rfl, .inl rfl⟩
        | exact ih _ (by omega) (by omega) (by omega)
    · rw [if_neg c]; exact hj

theorem bracket_l0 (l : List Int) (h63 : l.length ≤ 9223372036854775806) : ∀ (n : Nat) (x : Int), 0 ≤ x → l.length - x.toNat < n → ∃ r, escape_isImageOrLinkStartBracket.l0 n l x = some r ∧ (r = -1 ∨ r = 1) := by
  intro n
  induction n with
  | zero => intro x _ h; omega
  | succ n ih =>
    intro x h0 h
    simp only [escape_isImageOrLinkStartBracket.l0]
    by_cases d : x < (l.length : Int)
    · rw [if_pos d, if_pos h0, inc_ok l h63 h0 (by omega)]
      repeat' split
      all_goals first
        | exact ⟨_, rfl, by omega⟩
        | exact ih _ (by omega) (by omega)
    · rw [if_neg d]; exact ⟨_, rfl, .inl rfl⟩

theorem fence_l1 (l : List Int) (h63 : l.length ≤ 9223372036854775806) (a : Int) (ha : 0 ≤ a) (ha1 : a < l.length) : ∀ (n : Nat) (c x : Int), 1 ≤ c → c ≤ x → a < x → x ≤ l.length → l.length - x.toNat < n → ∃ r, escape_IsFencedCode.l1 n l a c x = some r ∧ Fits l a r := by
  intro n
  induction n with
  | zero => intro c x _ _ _ _ h; omega
  | succ n ih =>
    intro c x g0 g1 h0 h1 h
    simp only [escape_IsFencedCode.l1]
    have w1 := inc_ok l h63 (x := x) (by omega) h1
    have w2 := inc_ok l h63 (x := c) (by omega) (by omega)
    have w3 := sub_ok l h63 ha (by omega) h1
    rw [w1, w2, w3]
    by_cases d : x < (l.length : Int)
    · rw [if_pos d, if_pos (by omega : 0 ≤ x)]
      repeat' split
      all_goals first
        | exact ⟨_, rfl, .inl rfl⟩
        | exact ⟨_, rfl, .inr ⟨by omega, by omega⟩⟩
        | exact ih _ _ (by omega) (by omega) (by omega) (by omega) (by omega)
    · rw [if_neg d]
      split
      · exact ⟨_, rfl, .inl rfl⟩
      · exact ⟨_, rfl, .inr ⟨by omega, by omega⟩⟩

theorem fence_l0 (l : List Int) (h63 : l.length ≤ 9223372036854775806) (a : Int) (ha : 0 ≤ a) (ha1 : a < l.length) : ∀ (n : Nat), (∀ (x : Int), -1 ≤ x → x < l.length → 2 * (x + 1).toNat + l.length + 4 ≤ n → ∃ r, escape_IsFencedCode.l0 n l a x = some r ∧ Fits l a r) ∧
    (∀ (x : Int) (b : Bool), 0 ≤ x → x < l.length → 2 * (x + 1).toNat + l.length + 3 ≤ n → ∃ r, escape_IsFencedCode.j2 n l a x b = some r ∧ Fits l a r) := by
  intro n
  induction n with
  | zero => exact ⟨fun x _ _ h => by omega, fun x b _ _ h => by omega⟩
  | succ n ih =>
    obtain ⟨ih1, ih2⟩ := ih
    have hj : l.length + 2 ≤ n → ∃ r, escape_IsFencedCode.j3 n l a = some r ∧ Fits l a r := by
      intro hn
      obtain ⟨m, rfl⟩ : ∃ m, n = m + 1 := ⟨n - 1, by omega⟩
      simp only [escape_IsFencedCode.j3]
      rw [inc_ok l h63 ha (by omega)]
      exact fence_l1 l h63 a ha ha1 m 1 (a + 1) (by omega) (by omega) (by omega) (by omega) (by omega)
    refine ⟨fun x h0 h1 h => ?_, fun x b h0 h1 h => ?_⟩
    · simp only [escape_IsFencedCode.l0]
      by_cases d : x ≥ 0
      · rw [if_pos d, if_pos d, if_pos h1]
        split
        · exact ih2 _ _ d h1 (by omega)
        · exact ih2 _ _ d h1 (by omega)
      · rw [if_neg d]; exact hj (by omega)
    · simp only [escape_IsFencedCode.j2]
      rw [dec_ok l h63 h0 h1, if_pos h0, if_pos h1]
      repeat' split
      all_goals first
        | exact hj (by omega)
        | exact ⟨_, rfl, .inl rfl⟩
        | exact ih1 _ (by omega) (by omega) (by omega)
end Go.Proofs.YtbkimfhlgpgoiaaGreatDoor.Hand

namespace Go.Proofs.YtbkimfhlgpgoiaaGreatDoor.Hand
open Go.RowKit Go.Proofs.YtbkimfhlgpgoiaaGreatDoorW.PrintWords Go.Proofs.YtbkimfhlgpgoiaaGreatDoorW.PrintLast Go.Proofs.YtbkimfhlgpgoiaaGreatDoorW.PrintMore
open Go.Proofs.YtbkimfhlgpgoiaaGreatDoor.Ptested
set_option linter.unusedVariables false
set_option linter.unusedSimpArgs false

theorem tested_of {bs : List UInt8} {a r c : Int} (h : Fits (bytesI bs) a r) (hc : rd (bytesI bs) a = c) (hp : punct c = true) : Tested bs a r := by
  rw [Fits, bytesI_length] at h
  rcases h with h | ⟨h1, h2⟩
  · exact .inl h
  · exact .inr ⟨h1, h2, by rw [hc]; exact hp⟩

theorem fits_one {l : List Int} {a r : Int} (ha : a < l.length) (h : r = -1 ∨ r = 1) : Fits l a r := by
  rcases h with h | h
  · exact .inl h
  · exact .inr ⟨by omega, by omega⟩


theorem quote_ok (A0 : Option Addr) (c0 : Nat) (bs : List UInt8) (a1 : Int) (w : World) (hr0 : Kd.C (Kd.int .u8) w A0 (bytesI bs).length (bytesI bs)) (hc0 : (bytesI bs).length ≤ c0) (h63 : bs.length ≤ 9223372036854775806) (ha0 : 0 ≤ a1) (ha : a1 < bs.length) : Calls Tryz.prog 41 #[.slice A0 (bytesI bs).length c0, .int .i64 a1] w fun e w' => (∃ r : Int, e = .returned (.int .i64 r) ∧ Tested bs a1 r) ∧ Below w.heap.size w w' := by
  have hl : a1 < ((bytesI bs).length : Int) := by rw [bytesI_length]; exact ha
  have h63' : (bytesI bs).length ≤ 9223372036854775806 := by rw [bytesI_length]; exact h63
  have key : ∃ (k : Nat) (r : Int), escape_IsBlockQuote.f k (bytesI bs) a1 = some r ∧ Tested bs a1 r := by
    refine ⟨(4 * (bytesI bs).length + 20), ?_⟩
    simp only [escape_IsBlockQuote.f]
    rw [if_pos ha0, if_pos hl]
    by_cases c : rd (bytesI bs) a1 = 62
    · rw [if_pos c, dec_ok _ h63' ha0 hl]
      obtain ⟨r, e, h⟩ := quote_l0 _ h63' (4 * (bytesI bs).length + 20) (a1 - 1) (by omega) (by omega) (by omega)
      exact ⟨r, e, tested_of (fits_one hl h) c rfl⟩
    · rw [if_neg c]; exact ⟨_, rfl, .inl rfl⟩
  obtain ⟨k, r, hr, ht⟩ := key
  refine (escape_IsBlockQuote.calls k A0 c0 (bytesI bs) a1 r w hr0 hc0 hr).mono ?_
  rintro e w' ⟨rfl, hd⟩
  exact ⟨⟨r, rfl, ht⟩, hd.below⟩

theorem atx_ok (A0 : Option Addr) (c0 : Nat) (bs : List UInt8) (a1 : Int) (w : World) (hr0 : Kd.C (Kd.int .u8) w A0 (bytesI bs).length (bytesI bs)) (hc0 : (bytesI bs).length ≤ c0) (h63 : bs.length ≤ 9223372036854775806) (ha0 : 0 ≤ a1) (ha : a1 < bs.length) : Calls Tryz.prog 42 #[.slice A0 (bytesI bs).length c0, .int .i64 a1] w fun e w' => (∃ r : Int, e = .returned (.int .i64 r) ∧ Tested bs a1 r) ∧ Below w.heap.size w w' := by
  have hl : a1 < ((bytesI bs).length : Int) := by rw [bytesI_length]; exact ha
  have h63' : (bytesI bs).length ≤ 9223372036854775806 := by rw [bytesI_length]; exact h63
  have key : ∃ (k : Nat) (r : Int), escape_IsAtxHeader.f k (bytesI bs) a1 = some r ∧ Tested bs a1 r := by
    refine ⟨(4 * (bytesI bs).length + 20), ?_⟩
    simp only [escape_IsAtxHeader.f]
    rw [if_pos ha0, if_pos hl]
    by_cases c : rd (bytesI bs) a1 = 35
    · rw [if_pos c, dec_ok _ h63' ha0 hl]
      obtain ⟨r, e, h⟩ := atx_l0 _ h63' a1 ha0 hl (4 * (bytesI bs).length + 20) (a1 - 1) (by omega) (by omega) (by omega)
      exact ⟨r, e, tested_of h c rfl⟩
    · rw [if_neg c]; exact ⟨_, rfl, .inl rfl⟩
  obtain ⟨k, r, hr, ht⟩ := key
  refine (escape_IsAtxHeader.calls k A0 c0 (bytesI bs) a1 r w hr0 hc0 hr).mono ?_
  rintro e w' ⟨rfl, hd⟩
  exact ⟨⟨r, rfl, ht⟩, hd.below⟩

theorem setext_ok (A0 : Option Addr) (c0 : Nat) (bs : List UInt8) (a1 : Int) (w : World) (hr0 : Kd.C (Kd.int .u8) w A0 (bytesI bs).length (bytesI bs)) (hc0 : (bytesI bs).length ≤ c0) (h63 : bs.length ≤ 9223372036854775806) (ha0 : 0 ≤ a1) (ha : a1 < bs.length) : Calls Tryz.prog 43 #[.slice A0 (bytesI bs).length c0, .int .i64 a1] w fun e w' => (∃ r : Int, e = .returned (.int .i64 r) ∧ Tested bs a1 r) ∧ Below w.heap.size w w' := by
  have hl : a1 < ((bytesI bs).length : Int) := by rw [bytesI_length]; exact ha
  have h63' : (bytesI bs).length ≤ 9223372036854775806 := by rw [bytesI_length]; exact h63
  have key : ∃ (k : Nat) (r : Int), escape_IsSetextHeader.f k (bytesI bs) a1 = some r ∧ Tested bs a1 r := by
    refine ⟨(4 * (bytesI bs).length + 20), ?_⟩
    simp only [escape_IsSetextHeader.f]
    rw [if_pos ha0, if_pos hl]
    have hN : ∃ m, (4 * (bytesI bs).length + 20) = m + 1 ∧ 4 * (bytesI bs).length + 18 ≤ m := ⟨4 * (bytesI bs).length + 19, by omega, by omega⟩
    obtain ⟨m, hm, hm2⟩ := hN
    rw [hm]
    have hrun : ∀ c, rd (bytesI bs) a1 = c → punct c = true → ∃ r, escape_IsSetextHeader.j0 (m + 1) (bytesI bs) a1 false = some r ∧ Tested bs a1 r := by
      intro c hc hp
      simp only [escape_IsSetextHeader.j0]
      rw [if_neg (by decide), dec_ok _ h63' ha0 hl]
      obtain ⟨r, e, h⟩ := (setext_l0 _ h63' m).1 0 (a1 - 1) (by omega) (by omega) (by omega)
      exact ⟨r, e, tested_of (fits_one hl h) hc hp⟩
    by_cases c61 : rd (bytesI bs) a1 = 61
    · rw [if_pos c61]; exact hrun 61 c61 rfl
    rw [if_neg c61]
    by_cases c45 : rd (bytesI bs) a1 = 45
    · have hb : (rd (bytesI bs) a1 != 45) = false := bne_eq_false_iff_eq.mpr c45
      rw [hb]; exact hrun 45 c45 rfl
    · have hb : (rd (bytesI bs) a1 != 45) = true := bne_iff_ne.mpr c45
      rw [hb]
      simp only [escape_IsSetextHeader.j0]
      exact ⟨_, rfl, .inl rfl⟩
  obtain ⟨k, r, hr, ht⟩ := key
  refine (escape_IsSetextHeader.calls k A0 c0 (bytesI bs) a1 r w hr0 hc0 hr).mono ?_
  rintro e w' ⟨rfl, hd⟩
  exact ⟨⟨r, rfl, ht⟩, hd.below⟩

theorem divider_ok (A0 : Option Addr) (c0 : Nat) (bs : List UInt8) (a1 : Int) (w : World) (hr0 : Kd.C (Kd.int .u8) w A0 (bytesI bs).length (bytesI bs)) (hc0 : (bytesI bs).length ≤ c0) (h63 : bs.length ≤ 9223372036854775806) (ha0 : 0 ≤ a1) (ha : a1 < bs.length) : Calls Tryz.prog 44 #[.slice A0 (bytesI bs).length c0, .int .i64 a1] w fun e w' => (∃ r : Int, e = .returned (.int .i64 r) ∧ Tested bs a1 r) ∧ Below w.heap.size w w' := by
  have hl : a1 < ((bytesI bs).length : Int) := by rw [bytesI_length]; exact ha
  have h63' : (bytesI bs).length ≤ 9223372036854775806 := by rw [bytesI_length]; exact h63
  have key : ∃ (k : Nat) (r : Int), escape_IsDivider.f k (bytesI bs) a1 = some r ∧ Tested bs a1 r := by
    refine ⟨(4 * (bytesI bs).length + 20), ?_⟩
    simp only [escape_IsDivider.f]
    rw [if_pos ha0, if_pos hl]
    have hN : ∃ m, (4 * (bytesI bs).length + 20) = m + 1 ∧ 4 * (bytesI bs).length + 18 ≤ m := ⟨4 * (bytesI bs).length + 19, by omega, by omega⟩
    obtain ⟨m, hm, hm2⟩ := hN
    rw [hm]
    have hrun : ∀ c, rd (bytesI bs) a1 = c → punct c = true → ∃ r, escape_IsDivider.j0 (m + 1) (bytesI bs) a1 false = some r ∧ Tested bs a1 r := by
      intro c hc hp
      simp only [escape_IsDivider.j0]
      rw [if_neg (by decide), dec_ok _ h63' ha0 hl]
      obtain ⟨r, e, h⟩ := divider_l0 _ h63' a1 ha0 hl m (a1 - 1) (by omega) (by omega) (by omega)
      exact ⟨r, e, tested_of (h) hc hp⟩
    by_cases c45 : rd (bytesI bs) a1 = 45
    · rw [if_pos c45]; exact hrun 45 c45 rfl
    rw [if_neg c45]
    by_cases c95 : rd (bytesI bs) a1 = 95
    · rw [if_pos c95]; exact hrun 95 c95 rfl
    rw [if_neg c95]
    by_cases c42 : rd (bytesI bs) a1 = 42
    · have hb : (rd (bytesI bs) a1 != 42) = false := bne_eq_false_iff_eq.mpr c42
      rw [hb]; exact hrun 42 c42 rfl
    · have hb : (rd (bytesI bs) a1 != 42) = true := bne_iff_ne.mpr c42
      rw [hb]
      simp only [escape_IsDivider.j0]
      exact ⟨_, rfl, .inl rfl⟩
  obtain ⟨k, r, hr, ht⟩ := key
  refine (escape_IsDivider.calls k A0 c0 (bytesI bs) a1 r w hr0 hc0 hr).mono ?_
  rintro e w' ⟨rfl, hd⟩
  exact ⟨⟨r, rfl, ht⟩, hd.below⟩

theorem list_ok (A0 : Option Addr) (c0 : Nat) (bs : List UInt8) (a1 : Int) (w : World) (hr0 : Kd.C (Kd.int .u8) w A0 (bytesI bs).length (bytesI bs)) (hc0 : (bytesI bs).length ≤ c0) (h63 : bs.length ≤ 9223372036854775806) (ha0 : 0 ≤ a1) (ha : a1 < bs.length) : Calls Tryz.prog 46 #[.slice A0 (bytesI bs).length c0, .int .i64 a1] w fun e w' => (∃ r : Int, e = .returned (.int .i64 r) ∧ Tested bs a1 r) ∧ Below w.heap.size w w' := by
  have hl : a1 < ((bytesI bs).length : Int) := by rw [bytesI_length]; exact ha
  have h63' : (bytesI bs).length ≤ 9223372036854775806 := by rw [bytesI_length]; exact h63
  have key : ∃ (k : Nat) (r : Int), escape_IsUnorderedList.f k (bytesI bs) a1 = some r ∧ Tested bs a1 r := by
    refine ⟨(4 * (bytesI bs).length + 20), ?_⟩
    simp only [escape_IsUnorderedList.f]
    rw [if_pos ha0, if_pos hl]
    have hN : ∃ m, (4 * (bytesI bs).length + 20) = m + 1 ∧ 4 * (bytesI bs).length + 18 ≤ m := ⟨4 * (bytesI bs).length + 19, by omega, by omega⟩
    obtain ⟨m, hm, hm2⟩ := hN
    rw [hm]
    have hrun : ∀ c, rd (bytesI bs) a1 = c → punct c = true → ∃ r, escape_IsUnorderedList.j0 (m + 1) (bytesI bs) a1 false = some r ∧ Tested bs a1 r := by
      intro c hc hp
      simp only [escape_IsUnorderedList.j0]
      rw [if_neg (by decide), dec_ok _ h63' ha0 hl]
      obtain ⟨r, e, h⟩ := list_l0 _ h63' a1 ha0 hl m (a1 - 1) (by omega) (by omega) (by omega)
      exact ⟨r, e, tested_of (fits_one hl h) hc hp⟩
    by_cases c45 : rd (bytesI bs) a1 = 45
    · rw [if_pos c45]; exact hrun 45 c45 rfl
    rw [if_neg c45]
    by_cases c42 : rd (bytesI bs) a1 = 42
    · rw [if_pos c42]; exact hrun 42 c42 rfl
    rw [if_neg c42]
    by_cases c43 : rd (bytesI bs) a1 = 43
    · have hb : (rd (bytesI bs) a1 != 43) = false := bne_eq_false_iff_eq.mpr c43
      rw [hb]; exact hrun 43 c43 rfl
    · have hb : (rd (bytesI bs) a1 != 43) = true := bne_iff_ne.mpr c43
      rw [hb]
      simp only [escape_IsUnorderedList.j0]
      exact ⟨_, rfl, .inl rfl⟩
  obtain ⟨k, r, hr, ht⟩ := key
  refine (escape_IsUnorderedList.calls k A0 c0 (bytesI bs) a1 r w hr0 hc0 hr).mono ?_
  rintro e w' ⟨rfl, hd⟩
  exact ⟨⟨r, rfl, ht⟩, hd.below⟩

theorem fence_ok (A0 : Option Addr) (c0 : Nat) (bs : List UInt8) (a1 : Int) (w : World) (hr0 : Kd.C (Kd.int .u8) w A0 (bytesI bs).length (bytesI bs)) (hc0 : (bytesI bs).length ≤ c0) (h63 : bs.length ≤ 9223372036854775806) (ha0 : 0 ≤ a1) (ha : a1 < bs.length) : Calls Tryz.prog 48 #[.slice A0 (bytesI bs).length c0, .int .i64 a1] w fun e w' => (∃ r : Int, e = .returned (.int .i64 r) ∧ Tested bs a1 r) ∧ Below w.heap.size w w' := by
  have hl : a1 < ((bytesI bs).length : Int) := by rw [bytesI_length]; exact ha
  have h63' : (bytesI bs).length ≤ 9223372036854775806 := by rw [bytesI_length]; exact h63
  have key : ∃ (k : Nat) (r : Int), escape_IsFencedCode.f k (bytesI bs) a1 = some r ∧ Tested bs a1 r := by
    refine ⟨(4 * (bytesI bs).length + 20), ?_⟩
    simp only [escape_IsFencedCode.f]
    rw [if_pos ha0, if_pos hl]
    have hN : ∃ m, (4 * (bytesI bs).length + 20) = m + 1 ∧ 4 * (bytesI bs).length + 18 ≤ m := ⟨4 * (bytesI bs).length + 19, by omega, by omega⟩
    obtain ⟨m, hm, hm2⟩ := hN
    rw [hm]
    have hrun : ∀ c, rd (bytesI bs) a1 = c → punct c = true → ∃ r, escape_IsFencedCode.j0 (m + 1) (bytesI bs) a1 false = some r ∧ Tested bs a1 r := by
      intro c hc hp
      simp only [escape_IsFencedCode.j0]
      rw [if_neg (by decide), dec_ok _ h63' ha0 hl]
      obtain ⟨r, e, h⟩ := (fence_l0 _ h63' a1 ha0 hl m).1 (a1 - 1) (by omega) (by omega) (by omega)
      exact ⟨r, e, tested_of (h) hc hp⟩
    by_cases c96 : rd (bytesI bs) a1 = 96
    · rw [if_pos c96]; exact hrun 96 c96 rfl
    rw [if_neg c96]
    by_cases c126 : rd (bytesI bs) a1 = 126
    · have hb : (rd (bytesI bs) a1 != 126) = false := bne_eq_false_iff_eq.mpr c126
      rw [hb]; exact hrun 126 c126 rfl
    · have hb : (rd (bytesI bs) a1 != 126) = true := bne_iff_ne.mpr c126
      rw [hb]
      simp only [escape_IsFencedCode.j0]
      exact ⟨_, rfl, .inl rfl⟩
  obtain ⟨k, r, hr, ht⟩ := key
  refine (escape_IsFencedCode.calls k A0 c0 (bytesI bs) a1 r w hr0 hc0 hr).mono ?_
  rintro e w' ⟨rfl, hd⟩
  exact ⟨⟨r, rfl, ht⟩, hd.below⟩

theorem image_ok (A0 : Option Addr) (c0 : Nat) (bs : List UInt8) (a1 : Int) (w : World) (hr0 : Kd.C (Kd.int .u8) w A0 (bytesI bs).length (bytesI bs)) (hc0 : (bytesI bs).length ≤ c0) (h63 : bs.length ≤ 9223372036854775806) (ha0 : 0 ≤ a1) (ha : a1 < bs.length) : Calls Tryz.prog 47 #[.slice A0 (bytesI bs).length c0, .int .i64 a1] w fun e w' => (∃ r : Int, e = .returned (.int .i64 r) ∧ Tested bs a1 r) ∧ Below w.heap.size w w' := by
  have hl : a1 < ((bytesI bs).length : Int) := by rw [bytesI_length]; exact ha
  have h63' : (bytesI bs).length ≤ 9223372036854775806 := by rw [bytesI_length]; exact h63
  have key : ∃ (k : Nat) (r : Int), escape_IsImageOrLink.f k (bytesI bs) a1 = some r ∧ Tested bs a1 r := by
    refine ⟨(4 * (bytesI bs).length + 20), ?_⟩
    simp only [escape_IsImageOrLink.f]
    rw [if_pos ha0, if_pos hl]
    by_cases c : rd (bytesI bs) a1 = 33
    · rw [if_pos c]
      have : ∃ r, escape_isImageOrLinkStartExclamation.f (bytesI bs) a1 = some r ∧ (r = -1 ∨ r = 1) := by
        simp only [escape_isImageOrLinkStartExclamation.f]
        rw [inc_ok _ h63' ha0 (by omega), if_pos (by omega : 0 ≤ a1 + 1)]
        repeat' split
        all_goals exact ⟨_, rfl, by omega⟩
      obtain ⟨r, e, h⟩ := this
      rw [e, Option.bind_some]
      exact ⟨r, rfl, tested_of (fits_one hl h) c rfl⟩
    rw [if_neg c]
    by_cases c : rd (bytesI bs) a1 = 91
    · rw [if_pos c]
      have : ∃ r, escape_isImageOrLinkStartBracket.f (4 * (bytesI bs).length + 20) (bytesI bs) a1 = some r ∧ (r = -1 ∨ r = 1) := by
        simp only [escape_isImageOrLinkStartBracket.f]
        rw [inc_ok _ h63' ha0 (by omega)]
        exact bracket_l0 _ h63' _ (a1 + 1) (by omega) (by omega)
      obtain ⟨r, e, h⟩ := this
      rw [e, Option.bind_some]
      exact ⟨r, rfl, tested_of (fits_one hl h) c rfl⟩
    · rw [if_neg c]; exact ⟨_, rfl, .inl rfl⟩
  obtain ⟨k, r, hr, ht⟩ := key
  refine (escape_IsImageOrLink.calls k A0 c0 (bytesI bs) a1 r w hr0 hc0 hr).mono ?_
  rintro e w' ⟨rfl, hd⟩
  exact ⟨⟨r, rfl, ht⟩, hd.below⟩

theorem code_ok (A0 : Option Addr) (c0 : Nat) (bs : List UInt8) (a1 : Int) (w : World) (hr0 : Kd.C (Kd.int .u8) w A0 (bytesI bs).length (bytesI bs)) (hc0 : (bytesI bs).length ≤ c0) (h63 : bs.length ≤ 9223372036854775806) (ha0 : 0 ≤ a1) (ha : a1 < bs.length) : Calls Tryz.prog 49 #[.slice A0 (bytesI bs).length c0, .int .i64 a1] w fun e w' => (∃ r : Int, e = .returned (.int .i64 r) ∧ Tested bs a1 r) ∧ Below w.heap.size w w' := by
  have hl : a1 < ((bytesI bs).length : Int) := by rw [bytesI_length]; exact ha
  have h63' : (bytesI bs).length ≤ 9223372036854775806 := by rw [bytesI_length]; exact h63
  have key : ∃ (r : Int), escape_IsInlineCode.f (bytesI bs) a1 = some r ∧ Tested bs a1 r := by
    simp only [escape_IsInlineCode.f]
    rw [if_pos ha0, if_pos hl]
    by_cases c : rd (bytesI bs) a1 = 96
    · rw [if_pos c]; exact ⟨_, rfl, tested_of (fits_one hl (.inr rfl)) c rfl⟩
    · rw [if_neg c]; exact ⟨_, rfl, .inl rfl⟩
  obtain ⟨r, hr, ht⟩ := key
  refine (escape_IsInlineCode.calls A0 c0 (bytesI bs) a1 r w hr0 hc0 hr).mono ?_
  rintro e w' ⟨rfl, hd⟩
  exact ⟨⟨r, rfl, ht⟩, hd.below⟩

theorem slash_ok (A0 : Option Addr) (c0 : Nat) (bs : List UInt8) (a1 : Int) (w : World) (hr0 : Kd.C (Kd.int .u8) w A0 (bytesI bs).length (bytesI bs)) (hc0 : (bytesI bs).length ≤ c0) (h63 : bs.length ≤ 9223372036854775806) (ha0 : 0 ≤ a1) (ha : a1 < bs.length) : Calls Tryz.prog 50 #[.slice A0 (bytesI bs).length c0, .int .i64 a1] w fun e w' => (∃ r : Int, e = .returned (.int .i64 r) ∧ Tested bs a1 r) ∧ Below w.heap.size w w' := by
  have hl : a1 < ((bytesI bs).length : Int) := by rw [bytesI_length]; exact ha
  have h63' : (bytesI bs).length ≤ 9223372036854775806 := by rw [bytesI_length]; exact h63
  have key : ∃ (r : Int), escape_IsBackslash.f (bytesI bs) a1 = some r ∧ Tested bs a1 r := by
    simp only [escape_IsBackslash.f]
    rw [if_pos ha0, if_pos hl]
    by_cases c : rd (bytesI bs) a1 = 92
    · rw [if_pos c]; exact ⟨_, rfl, tested_of (fits_one hl (.inr rfl)) c rfl⟩
    · rw [if_neg c]; exact ⟨_, rfl, .inl rfl⟩
  obtain ⟨r, hr, ht⟩ := key
  refine (escape_IsBackslash.calls A0 c0 (bytesI bs) a1 r w hr0 hc0 hr).mono ?_
  rintro e w' ⟨rfl, hd⟩
  exact ⟨⟨r, rfl, ht⟩, hd.below⟩


set_option maxHeartbeats 8000000 in
set_option maxRecDepth 100000 in
theorem tested_calls (kind : Int) (hk0 : 0 ≤ kind) (hk : kind ≤ 10) (A0 : Option Addr) (c0 : Nat) (bs : List UInt8) (a1 : Int) (w : World) (hr0 : Kd.C (Kd.int .u8) w A0 (bytesI bs).length (bytesI bs)) (hc0 : (bytesI bs).length ≤ c0)
    (hT : Lib.Utf8Tabs 2 3 w) (hW : Lib.WhiteTab 0 w) (hD : DigitOk w) (h63 : bs.length ≤ 9223372036854775806) (ha0 : 0 ≤ a1) (ha : a1 < bs.length) :
    Calls Tryz.prog 25 #[.int .i64 kind, .slice A0 (bytesI bs).length c0, .int .i64 a1] w fun e w' => (∃ r : Int, e = .returned (.int .i64 r) ∧ Tested bs a1 r) ∧ Below w.heap.size w w' := by
  have hkk : kind = 0 ∨ kind = 1 ∨ kind = 2 ∨ kind = 3 ∨ kind = 4 ∨ kind = 5 ∨ kind = 6 ∨ kind = 7 ∨ kind = 8 ∨ kind = 9 ∨ kind = 10 := by omega
  clear hk0 hk
  rcases hkk with rfl | rfl | rfl | rfl | rfl | rfl | rfl | rfl | rfl | rfl | rfl
  · have C := Aside0.mk (italic_calls A0 c0 bs a1 w hr0 hc0 hT hW h63 ha0 ha)
    clear hr0 hc0 hT hW hD h63 ha0 ha
    go_enter Tryz.func25, Tryz.ntmps25
    go_wp2_with (go_at_call 40; refine C.out.mono ?_; rintro e w1 ⟨⟨r, rfl, ht⟩, hb⟩)
    go_ret
    exact ⟨⟨r, rfl, ht⟩, hb⟩
  · have C := Aside0.mk (quote_ok A0 c0 bs a1 w hr0 hc0 h63 ha0 ha)
    clear hr0 hc0 hT hW hD h63 ha0 ha
    go_enter Tryz.func25, Tryz.ntmps25
    go_wp2_with (go_at_call 41; refine C.out.mono ?_; rintro e w1 ⟨⟨r, rfl, ht⟩, hb⟩)
    go_ret
    exact ⟨⟨r, rfl, ht⟩, hb⟩
  · have C := Aside0.mk (atx_ok A0 c0 bs a1 w hr0 hc0 h63 ha0 ha)
    clear hr0 hc0 hT hW hD h63 ha0 ha
    go_enter Tryz.func25, Tryz.ntmps25
    go_wp2_with (go_at_call 42; refine C.out.mono ?_; rintro e w1 ⟨⟨r, rfl, ht⟩, hb⟩)
    go_ret
    exact ⟨⟨r, rfl, ht⟩, hb⟩
  · have C := Aside0.mk (setext_ok A0 c0 bs a1 w hr0 hc0 h63 ha0 ha)
    clear hr0 hc0 hT hW hD h63 ha0 ha
    go_enter Tryz.func25, Tryz.ntmps25
    go_wp2_with (go_at_call 43; refine C.out.mono ?_; rintro e w1 ⟨⟨r, rfl, ht⟩, hb⟩)
    go_ret
    exact ⟨⟨r, rfl, ht⟩, hb⟩
  · have C := Aside0.mk (divider_ok A0 c0 bs a1 w hr0 hc0 h63 ha0 ha)
    clear hr0 hc0 hT hW hD h63 ha0 ha
    go_enter Tryz.func25, Tryz.ntmps25
    go_wp2_with (go_at_call 44; refine C.out.mono ?_; rintro e w1 ⟨⟨r, rfl, ht⟩, hb⟩)
    go_ret
    exact ⟨⟨r, rfl, ht⟩, hb⟩
  · have C := Aside0.mk (ordered_calls A0 c0 bs a1 w hr0 hc0 hT hD h63 ha0 ha)
    clear hr0 hc0 hT hW hD h63 ha0 ha
    go_enter Tryz.func25, Tryz.ntmps25
    go_wp2_with (go_at_call 45; refine C.out.mono ?_; rintro e w1 ⟨⟨r, rfl, ht⟩, hb⟩)
    go_ret
    exact ⟨⟨r, rfl, ht⟩, hb⟩
  · have C := Aside0.mk (list_ok A0 c0 bs a1 w hr0 hc0 h63 ha0 ha)
    clear hr0 hc0 hT hW hD h63 ha0 ha
    go_enter Tryz.func25, Tryz.ntmps25
    go_wp2_with (go_at_call 46; refine C.out.mono ?_; rintro e w1 ⟨⟨r, rfl, ht⟩, hb⟩)
    go_ret
    exact ⟨⟨r, rfl, ht⟩, hb⟩
  · have C := Aside0.mk (image_ok A0 c0 bs a1 w hr0 hc0 h63 ha0 ha)
    clear hr0 hc0 hT hW hD h63 ha0 ha
    go_enter Tryz.func25, Tryz.ntmps25
    go_wp2_with (go_at_call 47; refine C.out.mono ?_; rintro e w1 ⟨⟨r, rfl, ht⟩, hb⟩)
    go_ret
    exact ⟨⟨r, rfl, ht⟩, hb⟩
  · have C := Aside0.mk (fence_ok A0 c0 bs a1 w hr0 hc0 h63 ha0 ha)
    clear hr0 hc0 hT hW hD h63 ha0 ha
    go_enter Tryz.func25, Tryz.ntmps25
    go_wp2_with (go_at_call 48; refine C.out.mono ?_; rintro e w1 ⟨⟨r, rfl, ht⟩, hb⟩)
    go_ret
    exact ⟨⟨r, rfl, ht⟩, hb⟩
  · have C := Aside0.mk (code_ok A0 c0 bs a1 w hr0 hc0 h63 ha0 ha)
    clear hr0 hc0 hT hW hD h63 ha0 ha
    go_enter Tryz.func25, Tryz.ntmps25
    go_wp2_with (go_at_call 49; refine C.out.mono ?_; rintro e w1 ⟨⟨r, rfl, ht⟩, hb⟩)
    go_ret
    exact ⟨⟨r, rfl, ht⟩, hb⟩
  · have C := Aside0.mk (slash_ok A0 c0 bs a1 w hr0 hc0 h63 ha0 ha)
    clear hr0 hc0 hT hW hD h63 ha0 ha
    go_enter Tryz.func25, Tryz.ntmps25
    go_wp2_with (go_at_call 50; refine C.out.mono ?_; rintro e w1 ⟨⟨r, rfl, ht⟩, hb⟩)
    go_ret
    exact ⟨⟨r, rfl, ht⟩, hb⟩
end Go.Proofs.YtbkimfhlgpgoiaaGreatDoor.Hand
