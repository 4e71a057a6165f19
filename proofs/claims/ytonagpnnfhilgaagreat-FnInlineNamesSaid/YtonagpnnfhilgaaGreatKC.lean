/- Walks: zzReplaceAll and its kin, inlineLetters, bytes.TrimSpace. Conditions: those in each statement. -/
import Derived.Test.YtonagpnnfhilgaaGreatKB
import Derived.Test.YtonagpnnfhilgaaGreatRepA
import Derived.Test.YtonagpnnfhilgaaGreatRepB
import Derived.Test.YtonagpnnfhilgaaGreatPinlineLettersx1
namespace Go.Proofs.YtonagpnnfhilgaaGreat.Hand
open Go.RowKit Go.Proofs.YtonagpnnfhilgaaGreatW.PrintWords Go.Proofs.YtonagpnnfhilgaaGreatW.PrintLast Go.Proofs.YtonagpnnfhilgaaGreatW.PrintMore
set_option linter.unusedVariables false
set_option linter.unusedSimpArgs false

theorem bytesI_take (bs : List UInt8) (n : Nat) : (bytesI bs).take n = bytesI (bs.take n) := by simp [bytesI]
theorem bytesI_drop (bs : List UInt8) (n : Nat) : (bytesI bs).drop n = bytesI (bs.drop n) := by simp [bytesI]

theorem strOf_list (bs : List UInt8) : (strOfNums (bytesI bs)).toList = bs := by
  have h := strOf_bytesI ⟨bs.toArray⟩
  rw [ByteArray.toList_eq]
  have e : strOfNums (bytesI bs) = ⟨bs.toArray⟩ := by simpa using h
  rw [e]

/-- Nothing to be found: nothing changes. -/
theorem replaceA_same (bs : List UInt8) (a b : ByteArray) (h3 : bs.length ≤ 300) (ha : 0 < a.size ∧ a.size ≤ 10) (hno : ∀ i, i < bs.length → (bs.take (i + a.size)).drop i ≠ a.data.toList) :
    ∀ (k i : Nat), i ≤ bs.length → bs.length - i < k → PTrimUnnecessaryHardLineBreaks.textutils_zzReplaceAll.l0 k (bytesI bs) a b (bytesI (bs.take i)) (i : Int) = some (bytesI bs) := by
  intro k
  induction k with
  | zero => intro i _ h; omega
  | succ k ih =>
    intro i hi hk
    have hw1 : wrap64 ((i : Int) + (a.size : Int)) = ((i + a.size : Nat) : Int) := by unfold wrap64; omega
    have hw2 : wrap64 ((i : Int) + 1) = ((i + 1 : Nat) : Int) := by unfold wrap64; omega
    unfold PTrimUnnecessaryHardLineBreaks.textutils_zzReplaceAll.l0
    by_cases hlt : i < bs.length
    · have e1 := bytesI_snocL bs i hlt
      have e2 := ih (i + 1) (by omega) (by omega)
      have hn : ¬ ((strOfNums (((bytesI bs).take (((i + a.size : Nat) : Int)).toNat).drop ((i : Int)).toNat)).toList = a.toList) := by
        simp only [Int.toNat_natCast]
        rw [bytesI_take, bytesI_drop, strOf_list, ByteArray.toList_eq]
        exact hno i hlt
      have hl : (bytesI (bs.take i)).length < 140737488355328 := by rw [bytesI_length, List.length_take]; omega
      rw [hw1, hw2, ← e1, e2, if_pos (by rw [bytesI_length]; omega)]
      simp only [hn, hl, if_false, if_true]
      have p1 : (0 : Int) ≤ (i : Int) := by omega
      have p2 : (i : Int) ≤ ((i + a.size : Nat) : Int) := by omega
      simp only [p1, p2, if_true, ite_self]
    · have e : i = bs.length := by omega
      rw [if_neg (by rw [bytesI_length]; omega), e, List.take_length]
theorem replaceB_same (bs : List UInt8) (a b : ByteArray) (h3 : bs.length ≤ 300) (ha : 0 < a.size ∧ a.size ≤ 10) (hno : ∀ i, i < bs.length → (bs.take (i + a.size)).drop i ≠ a.data.toList) :
    ∀ (k i : Nat), i ≤ bs.length → bs.length - i < k → PzzReplaceBytes.commonmark_zzReplaceBytes.l0 k (bytesI bs) a b (bytesI (bs.take i)) (i : Int) = some (bytesI bs) := by
  intro k
  induction k with
  | zero => intro i _ h; omega
  | succ k ih =>
    intro i hi hk
    have hw1 : wrap64 ((i : Int) + (a.size : Int)) = ((i + a.size : Nat) : Int) := by unfold wrap64; omega
    have hw2 : wrap64 ((i : Int) + 1) = ((i + 1 : Nat) : Int) := by unfold wrap64; omega
    unfold PzzReplaceBytes.commonmark_zzReplaceBytes.l0
    by_cases hlt : i < bs.length
    · have e1 := bytesI_snocL bs i hlt
      have e2 := ih (i + 1) (by omega) (by omega)
      have hn : ¬ ((strOfNums (((bytesI bs).take (((i + a.size : Nat) : Int)).toNat).drop ((i : Int)).toNat)).toList = a.toList) := by
        simp only [Int.toNat_natCast]
        rw [bytesI_take, bytesI_drop, strOf_list, ByteArray.toList_eq]
        exact hno i hlt
      have hl : (bytesI (bs.take i)).length < 140737488355328 := by rw [bytesI_length, List.length_take]; omega
      rw [hw1, hw2, ← e1, e2, if_pos (by rw [bytesI_length]; omega)]
      simp only [hn, hl, if_false, if_true]
      have p1 : (0 : Int) ≤ (i : Int) := by omega
      have p2 : (i : Int) ≤ ((i + a.size : Nat) : Int) := by omega
      simp only [p1, p2, if_true, ite_self]
    · have e : i = bs.length := by omega
      rw [if_neg (by rw [bytesI_length]; omega), e, List.take_length]

theorem no_double (bs : List UInt8) (hs : ∀ i : Nat, bs[i]? = some 32 → bs[i + 1]? ≠ some 32) (i j : Nat) (t : List UInt8) : (bs.take j).drop i ≠ 32 :: 32 :: t := by
  intro e
  have h0 := congrArg (fun l => l[0]?) e
  have h1 := congrArg (fun l => l[1]?) e
  simp only [List.getElem?_drop, List.getElem?_take] at h0 h1
  simp at h0 h1
  exact hs i h0.2 h1.2

theorem no_byte (bs : List UInt8) (x : UInt8) (hs : ∀ i : Nat, bs[i]? ≠ some x) (i j : Nat) (t : List UInt8) : (bs.take j).drop i ≠ x :: t := by
  intro e
  have h0 := congrArg (fun l => l[0]?) e
  simp only [List.getElem?_drop, List.getElem?_take] at h0
  simp at h0
  exact hs i h0.2

set_option maxRecDepth 100000 in
/-- TrimUnnecessaryHardLineBreaks leaves a text without two blanks side by side as it is. -/
theorem trimUnnec_calls (w : World) (A0 : Option Addr) (c0 : Nat) (bs : List UInt8) (hr0 : Kd.C (Kd.int .u8) w A0 (bytesI bs).length (bytesI bs)) (hc0 : (bytesI bs).length ≤ c0) (h300 : bs.length ≤ 300)
    (hs : ∀ i : Nat, bs[i]? = some 32 → bs[i + 1]? ≠ some 32) :
    Calls Tryz.prog 161 #[.slice A0 (bytesI bs).length c0] w fun e w' => (∃ v, e = .returned v ∧ w'.ownsRow w.heap.size 5 1 v bs.length (nums .u8 (bytesI bs))) ∧ Below w.heap.size w w' := by
  have h1 := replaceA_same bs (⟨#[32, 32, 10, 10]⟩ : ByteArray) (⟨#[10, 10]⟩ : ByteArray) h300 (by decide) (fun i _ => no_double bs hs i _ _) 400 0 (Nat.zero_le _) (by omega)
  have h2 := replaceA_same bs (⟨#[32, 32, 10, 32, 32, 10]⟩ : ByteArray) (⟨#[10, 10]⟩ : ByteArray) h300 (by decide) (fun i _ => no_double bs hs i _ _) 400 0 (Nat.zero_le _) (by omega)
  have h3 := replaceA_same bs (⟨#[32, 32, 10, 32, 10]⟩ : ByteArray) (⟨#[10, 10]⟩ : ByteArray) h300 (by decide) (fun i _ => no_double bs hs i _ _) 400 0 (Nat.zero_le _) (by omega)
  have hf : PTrimUnnecessaryHardLineBreaks.textutils_TrimUnnecessaryHardLineBreaks.f 400 (bytesI bs) = some (bytesI bs) := by
    unfold PTrimUnnecessaryHardLineBreaks.textutils_TrimUnnecessaryHardLineBreaks.f PTrimUnnecessaryHardLineBreaks.textutils_zzReplaceAll.f
    have h1' : PTrimUnnecessaryHardLineBreaks.textutils_zzReplaceAll.l0 400 (bytesI bs) (⟨#[32, 32, 10, 10]⟩ : ByteArray) (⟨#[10, 10]⟩ : ByteArray) [] 0 = some (bytesI bs) := h1
    have h2' : PTrimUnnecessaryHardLineBreaks.textutils_zzReplaceAll.l0 400 (bytesI bs) (⟨#[32, 32, 10, 32, 32, 10]⟩ : ByteArray) (⟨#[10, 10]⟩ : ByteArray) [] 0 = some (bytesI bs) := h2
    have h3' : PTrimUnnecessaryHardLineBreaks.textutils_zzReplaceAll.l0 400 (bytesI bs) (⟨#[32, 32, 10, 32, 10]⟩ : ByteArray) (⟨#[10, 10]⟩ : ByteArray) [] 0 = some (bytesI bs) := h3
    rw [h1']
    show (PTrimUnnecessaryHardLineBreaks.textutils_zzReplaceAll.l0 400 (bytesI bs) _ _ [] 0).bind _ = _
    rw [h2']
    show (PTrimUnnecessaryHardLineBreaks.textutils_zzReplaceAll.l0 400 (bytesI bs) _ _ [] 0).bind _ = _
    rw [h3']
    rfl
  refine (PTrimUnnecessaryHardLineBreaks.textutils_TrimUnnecessaryHardLineBreaks.calls 400 A0 c0 (bytesI bs) (bytesI bs) w hr0 hc0 hf).mono ?_
  rintro e w' ⟨v, rfl, ho, hb⟩
  refine ⟨⟨v, rfl, ?_⟩, hb⟩
  have := Kd.own_of_R ho
  rw [bytesI_length] at this
  exact this

set_option maxRecDepth 100000 in
/-- zzReplaceBytes of a text that begins with a byte that is not there. -/
theorem replaceBytes_calls (w : World) (A0 : Option Addr) (c0 : Nat) (bs : List UInt8) (x : UInt8) (t : List UInt8) (b : ByteArray) (hr0 : Kd.C (Kd.int .u8) w A0 (bytesI bs).length (bytesI bs)) (hc0 : (bytesI bs).length ≤ c0) (h300 : bs.length ≤ 300) (ht : t.length ≤ 9)
    (hs : ∀ i : Nat, bs[i]? ≠ some x) :
    Calls Tryz.prog 254 #[.slice A0 (bytesI bs).length c0, .string ⟨(x :: t).toArray⟩, .string b] w fun e w' => (∃ v, e = .returned v ∧ w'.ownsRow w.heap.size 5 1 v bs.length (nums .u8 (bytesI bs))) ∧ Below w.heap.size w w' := by
  have h1 := replaceB_same bs (⟨(x :: t).toArray⟩ : ByteArray) b h300 (by constructor <;> simp [ByteArray.size] <;> omega) (fun i _ => no_byte bs x hs i _ _) 400 0 (Nat.zero_le _) (by omega)
  refine (PzzReplaceBytes.commonmark_zzReplaceBytes.calls 400 A0 c0 (bytesI bs) _ b (bytesI bs) w hr0 hc0 h1).mono ?_
  rintro e w' ⟨v, rfl, ho, hb⟩
  refine ⟨⟨v, rfl, ?_⟩, hb⟩
  have := Kd.own_of_R ho
  rw [bytesI_length] at this
  exact this
end Go.Proofs.YtonagpnnfhilgaaGreat.Hand

namespace Go.Proofs.YtonagpnnfhilgaaGreat.Hand
open Go.RowKit Go.Proofs.YtonagpnnfhilgaaGreatW.PrintWords Go.Proofs.YtonagpnnfhilgaaGreatW.PrintLast Go.Proofs.YtonagpnnfhilgaaGreatW.PrintMore
open Go.Proofs.YtonagpnnfhilgaaGreat.PinlineLetters
set_option linter.unusedVariables false
set_option linter.unusedSimpArgs false

/-- A letter or a digit. -/
def Alnum (n : Int) : Prop := (97 ≤ n ∧ n ≤ 122) ∨ (65 ≤ n ∧ n ≤ 90) ∨ (48 ≤ n ∧ n ≤ 57)

theorem letters_law (s : ByteArray) (m : Nat) (hm : m ≤ s.size) (h40 : m ≤ 40) : ∀ (k i : Nat) (acc : List Int), i ≤ m → m - i < k → acc.length ≤ i → (∀ x ∈ acc, Alnum x) →
    ∃ r : List Int, laws_inlineLetters.l0 k s acc (m : Int) (i : Int) = some (strOfNums r) ∧ r.length ≤ 40 ∧ ∀ x ∈ r, Alnum x := by
  intro k
  induction k with
  | zero => intro i acc _ h; omega
  | succ k ih =>
    intro i acc hi hk hl ha
    have hw : wrap64 ((i : Int) + 1) = ((i + 1 : Nat) : Int) := by unfold wrap64; omega
    unfold laws_inlineLetters.l0
    rw [hw]
    by_cases hlt : i < m
    · rw [if_pos (by omega), if_pos (by omega), if_pos (by omega)]
      have hln : acc.length < 140737488355328 := by omega
      have keep := ih (i + 1) acc (by omega) (by omega) (by omega) ha
      have more : Alnum (bt s (i : Int)) → ∃ r : List Int, laws_inlineLetters.l0 k s (acc ++ [bt s (i : Int)]) (m : Int) ((i + 1 : Nat) : Int) = some (strOfNums r) ∧ r.length ≤ 40 ∧ ∀ x ∈ r, Alnum x := by
        intro hx
        refine ih (i + 1) _ (by omega) (by omega) (by simp; omega) ?_
        intro x hx'
        rcases List.mem_append.1 hx' with h | h
        · exact ha x h
        · rw [List.mem_singleton.1 h]; exact hx
      simp only [hln, if_true]
      repeat' split
      all_goals first
        | exact keep
        | (refine more ?_; unfold Alnum; omega)
    · rw [if_neg (by omega)]
      exact ⟨acc, rfl, by omega, ha⟩

/-- The letters of a text. -/
def lettersOf (s : ByteArray) : ByteArray := (laws_inlineLetters.f 100 s).getD ByteArray.empty

theorem letters_all (s : ByteArray) : laws_inlineLetters.f 100 s = some (lettersOf s) ∧ (lettersOf s).data.toList.length ≤ 40 ∧ ∀ b ∈ (lettersOf s).data.toList, Alnum (b.toNat : Int) := by
  have hmn : mn (s.size : Int) 40 = ((min s.size 40 : Nat) : Int) := by unfold mn; split <;> omega
  obtain ⟨r, h1, h2, h3⟩ := letters_law s (min s.size 40) (Nat.min_le_left _ _) (Nat.min_le_right _ _) 100 0 [] (Nat.zero_le _) (by omega) (Nat.le_refl _) (fun _ h => by cases h)
  have hf : laws_inlineLetters.f 100 s = some (strOfNums r) := by unfold laws_inlineLetters.f; rw [hmn]; exact h1
  have hd : (strOfNums r).data.toList = r.map fun n => UInt8.ofNat n.toNat := by simp [strOfNums]
  have he : lettersOf s = strOfNums r := by unfold lettersOf; rw [hf]; rfl
  rw [he]
  refine ⟨hf, by rw [hd, List.length_map]; exact h2, fun b hb => ?_⟩
  rw [hd] at hb
  obtain ⟨x, hx, rfl⟩ := List.mem_map.1 hb
  have hx3 := h3 x hx
  have hx4 : x.toNat < 256 := by unfold Alnum at hx3; omega
  have : ((UInt8.ofNat x.toNat).toNat : Int) = x := by
    rw [UInt8.toNat_ofNat']
    unfold Alnum at hx3; omega
  rw [this]; exact hx3

theorem letters_calls (s : ByteArray) (w : World) : Calls Tryz.prog 10 #[.string s] w fun e w' => e = .returned (.string (lettersOf s)) ∧ Below w.heap.size w w' :=
  laws_inlineLetters.calls 100 s (lettersOf s) w (letters_all s).1
end Go.Proofs.YtonagpnnfhilgaaGreat.Hand

namespace Go.Proofs.YtonagpnnfhilgaaGreat.Hand
open Go.RowKit Go.Proofs.YtonagpnnfhilgaaGreatW.PrintWords Go.Proofs.YtonagpnnfhilgaaGreatW.PrintLast Go.Proofs.YtonagpnnfhilgaaGreatW.PrintMore
attribute [local go_sem] max2_int min2_int max_two min_two max_three min_three max_four min_four
set_option linter.unusedVariables false
set_option linter.unusedSimpArgs false

theorem w64s (j : Nat) (h : j ≤ 100000) : wrap64 ((j : Int) + 1) = ((j + 1 : Nat) : Int) := by unfold wrap64; omega
theorem w64p (j : Nat) (h : j ≤ 100000) (h0 : j ≠ 0) : wrap64 ((j : Int) - 1) = ((j - 1 : Nat) : Int) := by unfold wrap64; omega

theorem at_byte {w : World} {ad : Addr} {bs : List UInt8} (h : Kd.C (Kd.int .u8) w (some ad) (bytesI bs).length (bytesI bs)) (i : Nat) (hi : i < bs.length) : w.cell? (ad.add i) = some (.int .u8 (bs[i].toNat : Int)) := by
  obtain ⟨ad2, ead2, hxa⟩ := Kd.at_int h (i : Int) (by omega) (by rw [bytesI_length]; omega)
  cases ead2
  simp only [Int.toNat_natCast] at hxa
  rw [hxa]
  simp [rd, bytesI, hi]

theorem add_add (ad : Addr) (i j : Nat) : (ad.add i).add j = ad.add (i + j) := by
  unfold Addr.add
  rcases Nat.eq_zero_or_pos i with h | h <;> rcases Nat.eq_zero_or_pos j with h' | h' <;> simp [h, h', Nat.ne_of_gt, Nat.add_assoc] <;> omega

/-- What TrimSpace answers over a table. -/
def Trims (tab : Nat → Int) (A0 : Option Addr) (c0 : Nat) (bs : List UInt8) (v : Value) : Prop :=
  (v = .slice none 0 0 ∧ ∀ (j : Nat) (h : j < bs.length), tab bs[j].toNat ≠ 0) ∨
  ∃ (ad : Addr) (i n : Nat), A0 = some ad ∧ v = .slice (some (ad.add i)) (n + 1) (c0 - i) ∧ ∃ (h : i + n < bs.length), (∀ (j : Nat) (h : j < bs.length), j < i → tab bs[j].toNat ≠ 0) ∧ tab bs[i].toNat = 0 ∧ tab bs[i + n].toNat = 0 ∧
    ∀ (j : Nat) (h : j < bs.length), i + n < j → tab bs[j].toNat ≠ 0

set_option maxHeartbeats 8000000 in
set_option maxRecDepth 100000 in
theorem trimSpaceB_calls (w : World) (A0 : Option Addr) (c0 : Nat) (bs : List UInt8) (hr0 : Kd.C (Kd.int .u8) w A0 (bytesI bs).length (bytesI bs)) (hc0 : (bytesI bs).length ≤ c0) (h300 : bs.length ≤ 300) (hq : ∀ (i : Nat) (h : i < bs.length), bs[i].toNat < 128) (tab : Nat → Int) (htab : ∀ c : Nat, c < 128 → w.cell? ⟨0, c, none⟩ = some (.int .u8 (tab c))) :
    Calls Tryz.prog 159 #[.slice A0 (bytesI bs).length c0] w fun e w' => (∃ v, e = .returned v ∧ Trims tab A0 c0 bs v) ∧ w' = w := by
  have HR0 := Aside0.mk hr0
  have HC0 := Aside0.mk hc0
  have H3 := Aside0.mk h300
  have HQ := Aside0.mk hq
  have HT := Aside0.mk htab
  clear hr0 hc0 h300 hq htab
  go_enter Tryz.func159, Tryz.ntmps159
  go_wp2
  go_loopg [0, 9] bs.length (fun gf v0 v9 wx => ∃ (i : Nat), v0 = .slice A0 (bytesI bs).length c0 ∧ v9 = .int .i64 (i : Int) ∧ wx = w ∧ Aside0 (i ≤ bs.length ∧ bs.length - i ≤ gf) ∧ Aside0 (∀ j (h : j < bs.length), j < i → tab bs[j].toNat ≠ 0))
  case atStart => exact ⟨0, rfl, rfl, rfl, ⟨Nat.zero_le _, by omega⟩, ⟨fun _ _ h => absurd h (Nat.not_lt_zero _)⟩⟩
  case round =>
    obtain ⟨i, rfl, rfl, hwx, HP, HM⟩ := hrel
    subst hwx
    by_cases hlt : (i : Int) < ((bytesI bs).length : Int)
    · have hib : i < bs.length := by rw [bytesI_length] at hlt; omega
      obtain ⟨g', rfl⟩ : ∃ g', gk = g' + 1 := ⟨gk - 1, by have := HP.out; omega⟩
      have hw1 : wrap64 ((i : Int) + 1) = ((i + 1 : Nat) : Int) := by have := H3.out; unfold wrap64; omega
      obtain ⟨ad, ead, hxa⟩ := Kd.at_int HR0.out (i : Int) (by omega) hlt
      cases ead
      simp only [Int.toNat_natCast] at hxa
      have c4b := decide_eq_true hlt
      have q1 := eq_true hlt
      have hq3 := HQ.out i hib
      have hrd : rd (bytesI bs) (i : Int) = (bs[i].toNat : Int) := by simp [rd, bytesI, hib]
      rw [hrd] at hxa
      have q146 : i < (bytesI bs).length := by rw [bytesI_length]; exact hib
      have q147 : i ≤ (bytesI bs).length := Nat.le_of_lt q146
      have q148 : (bytesI bs).length ≤ c0 := HC0.out
      have hci : (c0 = i) = False := eq_false (by omega)
      obtain ⟨x, hx⟩ : ∃ x, bs[i].toNat = x := ⟨_, rfl⟩
      rw [hx] at hxa hq3
      have d1 : decide ((x : Int) ≥ 128) = false := decide_eq_false (by omega)
      have d2 : ((x : Int) ≥ 128) = False := eq_false (by omega)
      have d3 : (128 ≤ (x : Int)) = False := eq_false (by omega)
      have d4 : (x < 256) = True := eq_true (by omega)
      have d5 : ((x : Int) < 256) = True := eq_true (by omega)
      have hcell := HT.out x hq3
      clear hrd
      by_cases h0 : tab x = 0
      · have e0 : (tab x == 0) = true := beq_iff_eq.mpr h0
        have e1 : (tab x != 0) = false := by simp [bne, e0]
        have l1 : ((bytesI bs).length - i : Nat) - 1 < (bytesI bs).length := by omega
        have l2 : wrap64 ((((bytesI bs).length - i : Nat) : Int) - 1) = (((bytesI bs).length - i - 1 : Nat) : Int) := by have := H3.out; have := bytesI_length bs; unfold wrap64; omega
        go_wp2
        go_loopg [5] (bs.length + 1) (fun gf v5 wx => ∃ (j : Nat), v5 = .int .i64 (j : Int) ∧ wx = wr ∧ Aside0 (i + j < bs.length ∧ j + 1 ≤ gf) ∧ Aside0 (∀ m (h : m < bs.length), i + j < m → tab bs[m].toNat ≠ 0))
        case atStart => exact ⟨(bytesI bs).length - i - 1, by rw [l2], rfl, ⟨by rw [bytesI_length]; omega, by rw [bytesI_length]; omega⟩, ⟨fun m h h1 => by rw [bytesI_length] at h1; omega⟩⟩
        case round =>
          obtain ⟨j, rfl, hwx2, HP2, HM2⟩ := hrel
          subst hwx2
          have hjb : i + j < bs.length := HP2.out.1
          have hxa2 := at_byte HR0.out (i + j) hjb
          have hq4 := HQ.out (i + j) hjb
          obtain ⟨y, hy⟩ : ∃ y, bs[i + j].toNat = y := ⟨_, rfl⟩
          rw [hy] at hxa2 hq4
          have hxb : wr.cell? ((ad.add i).add j) = some (.int .u8 (y : Int)) := by rw [add_add]; exact hxa2
          obtain ⟨g2, rfl⟩ : ∃ g2, gk = g2 + 1 := ⟨gk - 1, by have := HP2.out; clear d2 d3 d4 d5 hci q1; omega⟩
          have j300 : j ≤ 100000 := by have := H3.out; clear d2 d3 d4 d5 hci q1; omega
          have f1 : decide ((y : Int) ≥ 128) = false := decide_eq_false (by omega)
          have f2 : ((y : Int) ≥ 128) = False := eq_false (by omega)
          have f3 : (128 ≤ (y : Int)) = False := eq_false (by omega)
          have f4 : (y < 256) = True := eq_true (by omega)
          have f5 : ((y : Int) < 256) = True := eq_true (by omega)
          have p1 : decide ((j : Int) ≥ 0) = true := decide_eq_true (by omega)
          have p2 : ((j : Int) ≥ 0) = True := eq_true (by omega)
          have p3 : j < (bytesI bs).length - i := by rw [bytesI_length]; omega
          have p3b : ((j : Int) < (((bytesI bs).length - i : Nat) : Int)) = True := eq_true (by omega)
          have hcell2 := HT.out y hq4
          obtain ⟨m, hm⟩ : ∃ m, j + 1 = m := ⟨_, rfl⟩
          have hw3 := w64s j j300
          rw [hm] at hw3
          have p4 : m ≤ (bytesI bs).length - i := by rw [← hm]; exact Nat.succ_le_of_lt p3
          have p6 : m ≤ c0 - i := Nat.le_trans p4 (Nat.sub_le_sub_right q148 i)
          have HM3 := Aside0.mk hm
          clear hm
          clear hxa2 hcell c4b q1 hci hxa d1 d2 d3 d4 d5 e0 e1 l1 l2 hw1 q146 q147
          by_cases h1 : tab y = 0
          · have e0b : (tab y == 0) = true := beq_iff_eq.mpr h1
            have e1b : (tab y != 0) = false := by simp [bne, e0b]
            go_wp2
            clear f1 f2 f3 f4 f5 p1 p2 p3b e0b e1b
            go_ret
            exact ⟨⟨_, rfl, .inr ⟨ad, i, j, rfl, rfl, hjb, HM.out, by rw [hx]; exact h0, by rw [hy]; exact h1, HM2.out⟩⟩, rfl⟩
          · have e0b : (tab y == 0) = false := beq_eq_false_iff_ne.mpr h1
            have e1b : (tab y != 0) = true := by simp [bne, e0b]
            have hj0 : j ≠ 0 := by rintro rfl; simp only [Nat.add_zero] at hy; rw [hx] at hy; rw [hy] at h0; exact h1 h0
            have hw4 := w64p j j300 hj0
            go_wp2
            clear f2 f3 f4 f5 p2 p3b
            go_roundg g2
            case measure => omega
            case rel =>
              refine ⟨j - 1, by congr 1; omega, rfl, ⟨by omega, by have := HP2.out; omega⟩, ⟨fun m1 hm1 h1m => ?_⟩⟩
              rcases Nat.lt_or_ge (i + j) m1 with h | h
              · exact HM2.out m1 hm1 h
              · have : m1 = i + j := by omega
                subst this; rw [hy]; exact h1
      · have e0 : (tab x == 0) = false := beq_eq_false_iff_ne.mpr h0
        have e1 : (tab x != 0) = true := by simp [bne, e0]
        go_wp2
        go_roundg g'
        case measure => omega
        case rel =>
          refine ⟨i + 1, rfl, by rw [hw1], rfl, ⟨by omega, by have := HP.out; omega⟩, ⟨fun j hj hji => ?_⟩⟩
          rcases Nat.lt_succ_iff_lt_or_eq.1 hji with h | h
          · exact HM.out j hj h
          · subst h; rw [hx]; exact h0
    · have hi : i = bs.length := by have := HP.out; rw [bytesI_length] at hlt; omega
      have c4b := decide_eq_false hlt
      have c4n : (i < (bytesI bs).length) = False := eq_false (by omega)
      go_wp2
      go_ret
      exact ⟨⟨_, rfl, .inl ⟨rfl, fun j hj => HM.out j hj (by omega)⟩⟩, rfl⟩
end Go.Proofs.YtonagpnnfhilgaaGreat.Hand

namespace Go.Proofs.YtonagpnnfhilgaaGreat.Hand
open Go.RowKit Go.Proofs.YtonagpnnfhilgaaGreatW.PrintWords Go.Proofs.YtonagpnnfhilgaaGreatW.PrintLast Go.Proofs.YtonagpnnfhilgaaGreatW.PrintMore
attribute [local go_sem] max2_int min2_int max_two min_two max_three min_three max_four min_four
set_option linter.unusedVariables false
set_option linter.unusedSimpArgs false

/-- A text without what is marked at both ends. -/
def trimBy (p : UInt8 → Bool) (bs : List UInt8) : List UInt8 := ((bs.dropWhile p).reverse.dropWhile p).reverse

theorem dropWhile_all {p : UInt8 → Bool} : ∀ (l r : List UInt8), (∀ x ∈ l, p x = true) → (l ++ r).dropWhile p = r.dropWhile p
  | [], _, _ => rfl
  | x :: l, r, h => by
    rw [List.cons_append, List.dropWhile_cons, if_pos (h x List.mem_cons_self)]
    exact dropWhile_all l r fun y hy => h y (List.mem_cons_of_mem _ hy)

theorem dropWhile_head {p : UInt8 → Bool} (x : UInt8) (l : List UInt8) (h : p x = false) : (x :: l).dropWhile p = x :: l := by
  rw [List.dropWhile_cons, if_neg (by rw [h]; simp)]

theorem trimBy_all {p : UInt8 → Bool} (bs : List UInt8) (h : ∀ x ∈ bs, p x = true) : trimBy p bs = [] := by
  unfold trimBy
  have := dropWhile_all bs [] h
  rw [List.append_nil] at this
  rw [this]; rfl

theorem trimBy_mid {p : UInt8 → Bool} (A M B : List UInt8) (x y : UInt8) (M1 M2 : List UInt8) (hA : ∀ z ∈ A, p z = true) (hB : ∀ z ∈ B, p z = true) (h1 : M = x :: M1) (h2 : M = M2 ++ [y]) (hx : p x = false) (hy : p y = false) :
    trimBy p (A ++ (M ++ B)) = M := by
  unfold trimBy
  rw [dropWhile_all A _ hA]
  have e : (M ++ B).dropWhile p = M ++ B := by rw [h1]; exact dropWhile_head x _ hx
  rw [e, List.reverse_append, dropWhile_all _ _ (fun z hz => hB z (List.mem_reverse.1 hz))]
  have e2 : M.reverse.dropWhile p = M.reverse := by rw [h2, List.reverse_append]; exact dropWhile_head y _ hy
  rw [e2, List.reverse_reverse]

theorem trimBy_at {p : UInt8 → Bool} (bs : List UInt8) (i n : Nat) (h : i + n < bs.length) (h1 : ∀ (j : Nat) (h : j < bs.length), j < i → p bs[j] = true) (h2 : p bs[i] = false) (h3 : p bs[i + n] = false)
    (h4 : ∀ (j : Nat) (h : j < bs.length), i + n < j → p bs[j] = true) : trimBy p bs = (bs.take (i + (n + 1))).drop i := by
  have e1 : bs = bs.take i ++ ((bs.take (i + (n + 1))).drop i ++ bs.drop (i + (n + 1))) := by
    have a1 : (bs.take (i + (n + 1))).drop i ++ bs.drop (i + (n + 1)) = bs.drop i := by
      have := List.drop_append_of_le_length (l₁ := bs.take (i + (n + 1))) (l₂ := bs.drop (i + (n + 1))) (i := i) (by rw [List.length_take]; omega)
      rw [List.take_append_drop] at this
      exact this.symm
    rw [a1, List.take_append_drop]
  conv => lhs; rw [e1]
  refine trimBy_mid _ _ _ bs[i] bs[i + n] ((bs.take (i + (n + 1))).drop (i + 1)) ((bs.take (i + n)).drop i) ?_ ?_ ?_ ?_ h2 h3
  · intro z hz
    obtain ⟨j, hj, rfl⟩ := List.getElem_of_mem hz
    rw [List.length_take] at hj
    rw [List.getElem_take]
    exact h1 j (by omega) (by omega)
  · intro z hz
    obtain ⟨j, hj, rfl⟩ := List.getElem_of_mem hz
    rw [List.length_drop] at hj
    rw [List.getElem_drop]
    exact h4 _ (by omega) (by omega)
  · rw [List.drop_eq_getElem_cons (by rw [List.length_take]; omega), List.getElem_take]
  · rw [show i + (n + 1) = (i + n) + 1 by omega, List.take_succ_eq_append_getElem h, List.drop_append_of_le_length (by rw [List.length_take]; omega)]

/-- Marked by a table. -/
def marked (tab : Nat → Int) (b : UInt8) : Bool := !decide (tab b.toNat = 0)

theorem marked_true {tab : Nat → Int} {b : UInt8} (h : tab b.toNat ≠ 0) : marked tab b = true := by simp [marked, h]
theorem marked_false {tab : Nat → Int} {b : UInt8} (h : tab b.toNat = 0) : marked tab b = false := by simp [marked, h]

/-- The slice that TrimSpace answers holds the trimmed text. -/
theorem trims_reads {w : World} {tab : Nat → Int} {A0 : Option Addr} {c0 : Nat} {bs : List UInt8} {v : Value} (h : Trims tab A0 c0 bs v) (hr0 : Kd.C (Kd.int .u8) w A0 (bytesI bs).length (bytesI bs)) (hc0 : (bytesI bs).length ≤ c0) :
    (v = .slice none 0 0 ∧ trimBy (marked tab) bs = []) ∨
    ∃ (ad : Addr) (i c : Nat), A0 = some ad ∧ v = .slice (some (ad.add i)) (trimBy (marked tab) bs).length c ∧ trimBy (marked tab) bs ≠ [] ∧ i < bs.length ∧ i + (trimBy (marked tab) bs).length ≤ bs.length ∧ c = c0 - i ∧ trimBy (marked tab) bs = (bs.take (i + (trimBy (marked tab) bs).length)).drop i := by
  rcases h with ⟨hv, h⟩ | ⟨ad, i, n, hA, hv, hin, h1, h2, h3, h4⟩
  · refine .inl ⟨hv, trimBy_all _ fun x hx => ?_⟩
    obtain ⟨j, hj, rfl⟩ := List.getElem_of_mem hx
    exact marked_true (h j hj)
  · have e := trimBy_at (p := marked tab) bs i n hin (fun j hj hji => marked_true (h1 j hj hji)) (marked_false h2) (marked_false h3) (fun j hj hji => marked_true (h4 j hj hji))
    have el : ((bs.take (i + (n + 1))).drop i).length = n + 1 := by rw [List.length_drop, List.length_take]; omega
    refine .inr ⟨ad, i, c0 - i, hA, ?_, ?_, by omega, ?_, rfl, ?_⟩
    · rw [e, el]; exact hv
    · intro h0; rw [e] at h0; rw [h0] at el; simp at el
    · rw [e, el]; omega
    · rw [e, el]
end Go.Proofs.YtonagpnnfhilgaaGreat.Hand
