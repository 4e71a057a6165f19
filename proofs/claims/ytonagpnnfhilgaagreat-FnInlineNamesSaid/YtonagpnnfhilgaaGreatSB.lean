/- The texts of the law: what they are made of, and what each contract makes of them; the law, where a run of the executor ends in true. Conditions: those in each statement. -/
import Derived.Test.YtonagpnnfhilgaaGreatKD
import Derived.Test.YtonagpnnfhilgaaGreatSA
import Derived.KernelRfl
namespace Vx
open Go Go.Proofs Go.RowKit Go.Proofs.YtonagpnnfhilgaaGreat.Hand
set_option linter.unusedVariables false
set_option linter.unusedSimpArgs false

/-! ## Plain laws of the texts -/
/-- A text read: is a blank just behind; how many line feeds since the last mark; none: two blanks on end, or three line feeds. -/
def scan : Bool → Nat → List UInt8 → Option (Bool × Nat)
  | sp, k, [] => some (sp, k)
  | sp, k, b :: r => if b.toNat = 32 then (if sp = true then none else scan true k r) else if b.toNat = 10 then (if k < 2 then scan false (k + 1) r else none) else scan false 0 r

theorem scan_append : ∀ (x y : List UInt8) (sp : Bool) (k : Nat), scan sp k (x ++ y) = (scan sp k x).bind fun st => scan st.1 st.2 y
  | [], y, sp, k => rfl
  | b :: x, y, sp, k => by
    simp only [List.cons_append, scan]
    split
    · split
      · rfl
      · exact scan_append x y _ _
    · split
      · split
        · exact scan_append x y _ _
        · rfl
      · exact scan_append x y _ _

theorem scan_letters : ∀ {A : List UInt8}, (∀ b ∈ A, Alnum (b.toNat : Int)) → scan false 0 A = some (false, 0)
  | [], _ => rfl
  | b :: A, h => by
    have hb := h b (List.mem_cons_self ..)
    have h32 : b.toNat ≠ 32 := by unfold Alnum at hb; omega
    have h10 : b.toNat ≠ 10 := by unfold Alnum at hb; omega
    simp only [scan, if_neg h32, if_neg h10]
    exact scan_letters fun c hc => h c (List.mem_cons_of_mem _ hc)

theorem scan_less : ∀ {x : List UInt8} {sp sp' : Bool} {k k' : Nat}, scan sp k x ≠ none → (sp' = true → sp = true) → k' ≤ k → scan sp' k' x ≠ none
  | [], _, _, _, _, _, _, _ => by simp [scan]
  | b :: x, sp, sp', k, k', h, hs, hk => by
    simp only [scan] at h ⊢
    by_cases h32 : b.toNat = 32
    · rw [if_pos h32] at h ⊢
      by_cases e : sp = true
      · rw [if_pos e] at h; exact absurd rfl h
      · rw [if_neg e] at h
        rw [if_neg (fun e' => e (hs e'))]
        exact scan_less h (fun h => h) hk
    · rw [if_neg h32] at h ⊢
      by_cases h10 : b.toNat = 10
      · rw [if_pos h10] at h ⊢
        by_cases e : k < 2
        · rw [if_pos e] at h
          rw [if_pos (by omega)]
          exact scan_less h (fun h => h) (by omega)
        · rw [if_neg e] at h; exact absurd rfl h
      · rw [if_neg h10] at h ⊢
        exact h

theorem scan_part {x t y : List UInt8} (h : scan false 0 (x ++ (t ++ y)) ≠ none) : scan false 0 t ≠ none := by
  rw [scan_append] at h
  cases hx : scan false 0 x with
  | none => rw [hx] at h; exact absurd rfl h
  | some st =>
    rw [hx, Option.bind_some, scan_append] at h
    have : scan st.1 st.2 t ≠ none := by
      intro e
      rw [e] at h; exact h rfl
    exact scan_less this (fun h => by cases h) (Nat.zero_le _)

theorem scan_nlc : ∀ {x : List UInt8} {sp : Bool} {k : Nat}, scan sp k x ≠ none → k ≤ 2 → ∀ i, i ≤ x.length → nlc (x.take i) k ≤ 2
  | x, _, _, _, hk, 0, _ => by simpa [nlc] using hk
  | [], _, _, _, hk, i + 1, hi => by simp at hi
  | b :: x, sp, k, h, hk, i + 1, hi => by
    simp only [scan] at h
    simp only [List.take_succ_cons, nlc]
    have hi' : i ≤ x.length := by simpa using hi
    by_cases h32 : b.toNat = 32
    · rw [if_pos h32] at h
      rw [if_neg (by omega), if_pos h32]
      by_cases e : sp = true
      · rw [if_pos e] at h; exact absurd rfl h
      · rw [if_neg e] at h; exact scan_nlc h hk i hi'
    · rw [if_neg h32] at h
      by_cases h10 : b.toNat = 10
      · rw [if_pos h10] at h
        rw [if_pos h10]
        by_cases e : k < 2
        · rw [if_pos e] at h; exact scan_nlc h (by omega) i hi'
        · rw [if_neg e] at h; exact absurd rfl h
      · rw [if_neg h10] at h
        rw [if_neg h10, if_neg h32]
        exact scan_nlc h (by omega) i hi'

theorem scan_dbl : ∀ {x : List UInt8} {sp : Bool} {k : Nat}, scan sp k x ≠ none → (sp = true → x[0]? ≠ some 32) ∧ ∀ i : Nat, x[i]? = some 32 → x[i + 1]? ≠ some 32
  | [], _, _, _ => ⟨fun _ => by simp, fun i h => by simp at h⟩
  | b :: x, sp, k, h => by
    simp only [scan] at h
    by_cases h32 : b.toNat = 32
    · rw [if_pos h32] at h
      by_cases e : sp = true
      · rw [if_pos e] at h; exact absurd rfl h
      · rw [if_neg e] at h
        obtain ⟨g1, g2⟩ := scan_dbl h
        refine ⟨fun h => absurd h e, fun i hi => ?_⟩
        cases i with
        | zero => simpa using g1 rfl
        | succ i => simpa using g2 i (by simpa using hi)
    · rw [if_neg h32] at h
      have hb : ∀ {j}, (b :: x)[0]? = some j → j ≠ 32 := by
        intro j hj e
        subst e
        have : b = 32 := by simpa using hj
        rw [this] at h32; exact h32 rfl
      have fin : ∀ {sp k}, scan sp k x ≠ none → (sp = sp → ((b :: x)[0]? ≠ some 32)) ∧ ∀ i : Nat, (b :: x)[i]? = some 32 → (b :: x)[i + 1]? ≠ some 32 := by
        intro sp k hs
        obtain ⟨g1, g2⟩ := scan_dbl hs
        refine ⟨fun _ e => hb e rfl, fun i hi => ?_⟩
        cases i with
        | zero => exact absurd rfl (hb hi)
        | succ i => simpa using g2 i (by simpa using hi)
      by_cases h10 : b.toNat = 10
      · rw [if_pos h10] at h
        by_cases e : k < 2
        · rw [if_pos e] at h
          exact ⟨fun _ => (fin h).1 rfl, (fin h).2⟩
        · rw [if_neg e] at h; exact absurd rfl h
      · rw [if_neg h10] at h
        exact ⟨fun _ => (fin h).1 rfl, (fin h).2⟩

theorem trimBy_part (p : UInt8 → Bool) (bs : List UInt8) : ∃ x y, bs = x ++ (trimBy p bs ++ y) := by
  have h1 : bs.takeWhile p ++ bs.dropWhile p = bs := List.takeWhile_append_dropWhile
  have h2 : (bs.dropWhile p).reverse.takeWhile p ++ (bs.dropWhile p).reverse.dropWhile p = (bs.dropWhile p).reverse := List.takeWhile_append_dropWhile
  refine ⟨bs.takeWhile p, ((bs.dropWhile p).reverse.takeWhile p).reverse, ?_⟩
  unfold trimBy
  rw [← List.reverse_append, h2, List.reverse_reverse, h1]

/-! ## The texts of the law -/
/-- Two words of letters, and what is left of three texts behind trimming. -/
structure Words (LA LB : List UInt8) : Prop where
  a : ∀ b ∈ LA, Alnum (b.toNat : Int)
  b : ∀ b ∈ LB, Alnum (b.toNat : Int)
  na : LA.length ≤ 40
  nb : LB.length ≤ 40
end Vx

namespace Vx
open Go Go.Proofs Go.RowKit Go.Proofs.YtonagpnnfhilgaaGreatW.PrintWords Go.Proofs.YtonagpnnfhilgaaGreatW.PrintLast Go.Proofs.YtonagpnnfhilgaaGreatW.PrintMore Go.Proofs.YtonagpnnfhilgaaGreat.Hand
set_option linter.unusedVariables false
set_option linter.unusedSimpArgs false

/-! ## The texts of the law -/
def wA : Txt := [.lit [119], .atom 0]
def wB : Txt := [.lit [119], .atom 1]
def wAs : Txt := [.lit [119], .atom 0, .lit [32]]
def docT : Txt := [.lit [10, 10, 119], .atom 0, .lit [32, 42, 119], .atom 1, .lit [42, 32, 42, 42, 119], .atom 0, .lit [42, 42, 10, 10]]
def docOf (LA LB : List UInt8) : List UInt8 := [10, 10, 119] ++ (LA ++ ([32, 42, 119] ++ (LB ++ ([42, 32, 42, 42, 119] ++ (LA ++ [42, 42, 10, 10])))))
def smallL : List (Nat × Nat) := [(0, 40), (1, 40)]

def atomsN (a b : ByteArray) (tab0 tab5 : Nat → Int) : Atoms where
  txt := fun i => match i with
    | 0 => (lettersOf a).data.toList
    | 1 => (lettersOf b).data.toList
    | 4 => trimBy (marked tab0) (docOf (lettersOf a).data.toList (lettersOf b).data.toList)
    | 7 => trimBy (marked tab5) (119 :: (lettersOf b).data.toList)
    | 8 => trimBy (marked tab5) (119 :: (lettersOf a).data.toList)
    | 10 => a.data.toList
    | 11 => b.data.toList
    | _ => []
  tied := fun base w0 => 6 ≤ base ∧ (∀ c : Nat, c < 128 → w0.cell? ⟨0, c, none⟩ = some (.int .u8 (tab0 c))) ∧ ∀ c : Nat, c < 128 → w0.cell? ⟨5, c, none⟩ = some (.int .u8 (tab5 c))

theorem trimBy_length (p : UInt8 → Bool) (bs : List UInt8) : (trimBy p bs).length ≤ bs.length := by
  obtain ⟨x, y, h⟩ := trimBy_part p bs
  have := congrArg List.length h
  rw [List.length_append, List.length_append] at this
  omega

theorem trimBy_mem {p : UInt8 → Bool} {bs : List UInt8} {c : UInt8} (h : c ∈ trimBy p bs) : c ∈ bs := by
  obtain ⟨x, y, e⟩ := trimBy_part p bs
  rw [e]
  exact List.mem_append_right _ (List.mem_append_left _ h)

section
variable (a b : ByteArray) (tab0 tab5 : Nat → Int)

theorem den_wA : den (atomsN a b tab0 tab5) wA = 119 :: (lettersOf a).data.toList := by simp [wA, den, atomsN]
theorem den_wB : den (atomsN a b tab0 tab5) wB = 119 :: (lettersOf b).data.toList := by simp [wB, den, atomsN]
theorem den_wAs : den (atomsN a b tab0 tab5) wAs = 119 :: (lettersOf a).data.toList ++ [32] := by simp [wAs, den, atomsN]
theorem den_doc : den (atomsN a b tab0 tab5) docT = docOf (lettersOf a).data.toList (lettersOf b).data.toList := by simp [docT, docOf, den, atomsN]
theorem den_4 : den (atomsN a b tab0 tab5) [.atom 4] = trimBy (marked tab0) (docOf (lettersOf a).data.toList (lettersOf b).data.toList) := by simp [den, atomsN]

theorem smallN (ha : a.size ≤ 2147483647) (hb : b.size ≤ 2147483647) : SmallOk (atomsN a b tab0 tab5) smallL := by
  have h1 := (letters_all a).2.1
  have h2 := (letters_all b).2.1
  refine ⟨fun i n h => ?_, fun i => ?_⟩
  · simp [smallL] at h
    rcases h with ⟨rfl, rfl⟩ | ⟨rfl, rfl⟩
    · exact h1
    · exact h2
  · simp only [atomsN]
    split
    · omega
    · omega
    · have := trimBy_length (marked tab0) (docOf (lettersOf a).data.toList (lettersOf b).data.toList)
      simp only [docOf, List.length_append, List.length_cons, List.length_nil] at this ⊢
      omega
    · have := trimBy_length (marked tab5) (119 :: (lettersOf b).data.toList)
      simp only [List.length_cons] at this; omega
    · have := trimBy_length (marked tab5) (119 :: (lettersOf a).data.toList)
      simp only [List.length_cons] at this; omega
    · rw [Array.length_toList]; exact Nat.le_trans ha (by decide)
    · rw [Array.length_toList]; exact Nat.le_trans hb (by decide)
    · simp

theorem lenN (ha : a.size ≤ 2147483647) (hb : b.size ≤ 2147483647) (i : Nat) : ((atomsN a b tab0 tab5).txt i).length ≤ 2147483647 := by
  have h1 := (letters_all a).2.1
  have h2 := (letters_all b).2.1
  simp only [atomsN]
  split
  · omega
  · omega
  · have := trimBy_length (marked tab0) (docOf (lettersOf a).data.toList (lettersOf b).data.toList)
    simp only [docOf, List.length_append, List.length_cons, List.length_nil] at this ⊢
    omega
  · have := trimBy_length (marked tab5) (119 :: (lettersOf b).data.toList)
    simp only [List.length_cons] at this; omega
  · have := trimBy_length (marked tab5) (119 :: (lettersOf a).data.toList)
    simp only [List.length_cons] at this; omega
  · rw [Array.length_toList]; exact ha
  · rw [Array.length_toList]; exact hb
  · simp

/-! ## What the bytes are -/
/-- Letters, digits and blanks, at most 42 of them, the first one a letter. -/
structure Word (bs : List UInt8) : Prop where
  mem : ∀ c ∈ bs, Alnum (c.toNat : Int) ∨ c.toNat = 32
  len : bs.length ≤ 42
  ne : bs ≠ []
  scan : scan false 0 bs ≠ none

theorem alnum_w : Alnum ((119 : UInt8).toNat : Int) := .inl (by decide)

theorem scan_word {L : List UInt8} (h : ∀ c ∈ L, Alnum (c.toNat : Int)) : scan false 0 (119 :: L) = some (false, 0) :=
  scan_letters fun c hc => by
    rcases List.mem_cons.1 hc with rfl | hc
    · exact alnum_w
    · exact h c hc

theorem word_plain (s : ByteArray) : Word (119 :: (lettersOf s).data.toList) := by
  obtain ⟨_, h1, h2⟩ := letters_all s
  refine ⟨fun c hc => ?_, by simp only [List.length_cons]; omega, by simp, by rw [scan_word h2]; simp⟩
  rcases List.mem_cons.1 hc with rfl | hc
  · exact .inl alnum_w
  · exact .inl (h2 c hc)

theorem word_blank (s : ByteArray) : Word (119 :: (lettersOf s).data.toList ++ [32]) := by
  obtain ⟨_, h1, h2⟩ := letters_all s
  refine ⟨fun c hc => ?_, by simp only [List.length_cons, List.length_append, List.length_nil]; omega, by simp, ?_⟩
  · rcases List.mem_append.1 hc with hc | hc
    · exact (word_plain s).mem c hc
    · right; rw [List.mem_singleton.1 hc]; rfl
  · rw [scan_append, scan_word h2]; simp [scan]

theorem words (t : Txt) (ht : t = wA ∨ t = wB ∨ t = wAs) : Word (den (atomsN a b tab0 tab5) t) := by
  rcases ht with rfl | rfl | rfl
  · rw [den_wA]; exact word_plain a
  · rw [den_wB]; exact word_plain b
  · rw [den_wAs]; exact word_blank a

/-- What is left of the document. -/
structure Doc (bs : List UInt8) : Prop where
  mem : ∀ c ∈ bs, Alnum (c.toNat : Int) ∨ c.toNat = 32 ∨ c.toNat = 10 ∨ c.toNat = 42
  len : bs.length ≤ 300
  scan : scan false 0 bs ≠ none

theorem scan_doc {LA LB : List UInt8} (hA : ∀ c ∈ LA, Alnum (c.toNat : Int)) (hB : ∀ c ∈ LB, Alnum (c.toNat : Int)) : scan false 0 (docOf LA LB) ≠ none := by
  unfold docOf
  rw [scan_append, show scan false 0 [10, 10, 119] = some (false, 0) from rfl, Option.bind_some, scan_append, scan_letters hA, Option.bind_some, scan_append,
    show scan false 0 [32, 42, 119] = some (false, 0) from rfl, Option.bind_some, scan_append, scan_letters hB, Option.bind_some, scan_append,
    show scan false 0 [42, 32, 42, 42, 119] = some (false, 0) from rfl, Option.bind_some, scan_append, scan_letters hA, Option.bind_some]
  simp [scan]

theorem docN : Doc (docOf (lettersOf a).data.toList (lettersOf b).data.toList) := by
  obtain ⟨_, h1, h2⟩ := letters_all a
  obtain ⟨_, h3, h4⟩ := letters_all b
  refine ⟨fun c hc => ?_, ?_, scan_doc h2 h4⟩
  · unfold docOf at hc
    simp only [List.mem_append] at hc
    have lit : ∀ {l : List UInt8}, (l.all fun c => decide (c = 10 ∨ c = 32 ∨ c = 42 ∨ c = 119)) = true → c ∈ l → Alnum (c.toNat : Int) ∨ c.toNat = 32 ∨ c.toNat = 10 ∨ c.toNat = 42 := by
      intro l hl hm
      have := of_decide_eq_true (List.all_eq_true.1 hl c hm)
      rcases this with rfl | rfl | rfl | rfl
      · exact .inr (.inr (.inl rfl))
      · exact .inr (.inl rfl)
      · exact .inr (.inr (.inr rfl))
      · exact .inl alnum_w
    rcases hc with hc | hc | hc | hc | hc | hc | hc
    · exact lit (by decide) hc
    · exact .inl (h2 c hc)
    · exact lit (by decide) hc
    · exact .inl (h4 c hc)
    · exact lit (by decide) hc
    · exact .inl (h2 c hc)
    · exact lit (by decide) hc
  · simp only [docOf, List.length_append, List.length_cons, List.length_nil]
    omega

theorem doc4 : Doc (trimBy (marked tab0) (docOf (lettersOf a).data.toList (lettersOf b).data.toList)) := by
  obtain ⟨h1, h2, h3⟩ := docN a b
  obtain ⟨x, y, e⟩ := trimBy_part (marked tab0) (docOf (lettersOf a).data.toList (lettersOf b).data.toList)
  refine ⟨fun c hc => h1 c (trimBy_mem hc), Nat.le_trans (trimBy_length _ _) h2, ?_⟩
  rw [e] at h3
  exact scan_part h3
end

/-! ## The contracts -/
section
variable (a b : ByteArray) (tab0 tab5 : Nat → Int)

theorem ba_get (s : ByteArray) (bs : List UInt8) (h : s.data.toList = bs) (i : Nat) (hi : i < s.size) : ∃ h2 : i < bs.length, s[i]'hi = bs[i] := by
  subst h
  exact ⟨by rw [Array.length_toList]; exact hi, rfl⟩

theorem ba_mem {s : ByteArray} {bs : List UInt8} (h : s.data.toList = bs) {i : Nat} (hi : i < s.size) : s[i]'hi ∈ bs := by
  obtain ⟨h2, e⟩ := ba_get s bs h i hi
  rw [e]; exact List.getElem_mem h2

theorem ba_size {s : ByteArray} {bs : List UInt8} (h : s.data.toList = bs) : s.size = bs.length := by
  rw [← h, Array.length_toList]; rfl

theorem ba_of {s : ByteArray} {bs : List UInt8} (h : s.data.toList = bs) : s = ⟨bs.toArray⟩ := by
  obtain ⟨d⟩ := s
  congr 1
  apply Array.ext'
  simpa using h

theorem blanks_law (t : Txt) (ht : t = wA ∨ t = wB ∨ t = wAs) : StrLaw Tryz.prog (atomsN a b tab0 tab5) 69 t t := by
  intro base w0 w s _ _ _ hs
  have W := words a b tab0 tab5 t ht
  have hsz := ba_size hs
  have hl := W.len
  have hne := List.length_pos_iff.2 W.ne
  refine (blanks_calls w s (by omega) (by omega) (fun i h => ?_) (fun i h h32 => ?_)).mono ?_
  · have hm := W.mem _ (ba_mem hs h)
    unfold Alnum at hm; omega
  · obtain ⟨g1, e1⟩ := ba_get s _ hs i (by omega)
    obtain ⟨g2, e2⟩ := ba_get s _ hs (i + 1) h
    have hd := (scan_dbl W.scan).2 i
    rw [e1] at h32
    rw [e2]
    intro h32'
    have u1 : (den (atomsN a b tab0 tab5) t)[i] = 32 := UInt8.toNat_inj.1 h32
    have u2 : (den (atomsN a b tab0 tab5) t)[i + 1] = 32 := UInt8.toNat_inj.1 h32'
    exact hd (by rw [List.getElem?_eq_getElem g1, u1]) (by rw [List.getElem?_eq_getElem g2, u2])
  · rintro e w' ⟨rfl, hb⟩
    exact ⟨s, rfl, hs, hb⟩

theorem entities_law (t : Txt) (ht : t = wA ∨ t = wB ∨ t = wAs) : StrLaw Tryz.prog (atomsN a b tab0 tab5) 157 t t := by
  intro base w0 w s _ _ _ hs
  have W := words a b tab0 tab5 t ht
  have hsz := ba_size hs
  have hl := W.len
  refine (entities_calls s w (by omega) (fun i h => ?_)).mono ?_
  · have hm := W.mem _ (ba_mem hs h)
    unfold Alnum at hm; omega
  · rintro e w' ⟨rfl, hb⟩
    exact ⟨s, rfl, hs, hb⟩

theorem letters_law1 : StrLaw Tryz.prog (atomsN a b tab0 tab5) 10 [.atom 10] [.atom 0] := by
  intro base w0 w s _ _ _ hs
  have e : s = a := by
    have : s.data.toList = a.data.toList := by simpa [den, atomsN] using hs
    exact (ba_of this).trans (ba_of rfl).symm
  subst e
  refine (letters_calls s w).mono ?_
  rintro e w' ⟨rfl, hb⟩
  exact ⟨_, rfl, by simp [den, atomsN], hb⟩

theorem letters_law2 : StrLaw Tryz.prog (atomsN a b tab0 tab5) 10 [.atom 11] [.atom 1] := by
  intro base w0 w s _ _ _ hs
  have e : s = b := by
    have : s.data.toList = b.data.toList := by simpa [den, atomsN] using hs
    exact (ba_of this).trans (ba_of rfl).symm
  subst e
  refine (letters_calls s w).mono ?_
  rintro e w' ⟨rfl, hb⟩
  exact ⟨_, rfl, by simp [den, atomsN], hb⟩

theorem quoted_law (s : Atoms) : StrLaw Tryz.prog s 20 [.lit [97]] [.lit [34, 97, 34]] := by
  intro base w0 w x _ _ _ hx
  have e : x = ⟨#[97]⟩ := by
    have : x.data.toList = [97] := by simpa [den] using hx
    exact ba_of this
  subst e
  refine (quoted_calls w).mono ?_
  rintro e w' ⟨rfl, hb⟩
  exact ⟨_, rfl, by simp [den], hb⟩

theorem trim_law (t u : Txt) (ht : t = wA ∨ t = wB) (hu : den (atomsN a b tab0 tab5) u = trimBy (marked tab5) (den (atomsN a b tab0 tab5) t)) : StrLaw Tryz.prog (atomsN a b tab0 tab5) 280 t u := by
  intro base w0 w s hT hbel hbase hs
  have W := words a b tab0 tab5 t (by rcases ht with h | h <;> simp [h])
  have hsz := ba_size hs
  have hl := W.len
  obtain ⟨hb6, _, h5⟩ := hT
  refine (trimSpaceS_calls w s (by omega) (fun i h => ?_) tab5 (by omega) (fun c hc => by rw [hbel.cell (by show 5 < base; omega)]; exact h5 c hc)).mono ?_
  · have hm := W.mem _ (ba_mem hs h)
    unfold Alnum at hm; omega
  · rintro e w' ⟨rfl, hb⟩
    exact ⟨_, rfl, by rw [hu, hs], hb⟩

theorem suffix_law (t : Txt) (r : Bool) (x : List UInt8) (y : UInt8) (ht : den (atomsN a b tab0 tab5) t = x ++ [y]) (hx : x.length ≤ 300) (hr : decide (y = 32) = r) : StrLaw2 Tryz.prog (atomsN a b tab0 tab5) 174 [32] t (.bool r) := by
  intro w s c hs hc
  refine (hasSuffix_calls s c x y w (hs.trans ht) hc hx).mono ?_
  rintro e w' ⟨rfl, rfl⟩
  exact ⟨_, rfl, fun ρ => by simp only [RV]; rw [hr], Below.refl _ _⟩

theorem trimSuffix_law (t u : Txt) (x : List UInt8) (y : UInt8) (ht : den (atomsN a b tab0 tab5) t = x ++ [y]) (hx : x.length ≤ 300) (hu : den (atomsN a b tab0 tab5) u = if y = 32 then x else x ++ [y]) : StrLaw2 Tryz.prog (atomsN a b tab0 tab5) 175 [32] t (.str u) := by
  intro w s c hs hc
  refine (trimSuffix_calls s c x y w (hs.trans ht) hc hx).mono ?_
  rintro e w' ⟨⟨v, rfl, hv⟩, rfl⟩
  exact ⟨_, rfl, fun ρ => ⟨v, rfl, by rw [hu]; exact hv⟩, Below.refl _ _⟩

/-- A word's last byte is a letter or a digit. -/
theorem word_last (s : ByteArray) : ∃ x y, 119 :: (lettersOf s).data.toList = x ++ [y] ∧ x.length ≤ 300 ∧ y ≠ 32 := by
  obtain ⟨_, h1, h2⟩ := letters_all s
  have hne : (119 :: (lettersOf s).data.toList) ≠ [] := by simp
  refine ⟨_, _, (List.dropLast_concat_getLast hne).symm, by simp only [List.length_dropLast, List.length_cons]; omega, ?_⟩
  intro e
  have hm := List.getLast_mem hne
  rw [e] at hm
  rcases List.mem_cons.1 hm with hm | hm
  · cases hm
  · have := h2 _ hm
    unfold Alnum at this
    revert this; decide

theorem escape_law (t : Txt) (ht : t = wA ∨ t = wB ∨ t = wAs) : (den (atomsN a b tab0 tab5) t).length ≤ 1000000 ∧ ∀ (w : World) (pb : Nat) (A : Option Addr) (c : Nat), Quiet w pb QuietR →
    Kd.C (Kd.int .u8) w A (bytesI (den (atomsN a b tab0 tab5) t)).length (bytesI (den (atomsN a b tab0 tab5) t)) → (bytesI (den (atomsN a b tab0 tab5) t)).length ≤ c →
      Calls Tryz.prog 480 #[.pointer (some ⟨pb, 0, none⟩), .slice A (bytesI (den (atomsN a b tab0 tab5) t)).length c] w fun e w' => (∃ v, e = .returned v ∧ w'.ownsRow w.heap.size 5 1 v (den (atomsN a b tab0 tab5) t).length (nums .u8 (bytesI (den (atomsN a b tab0 tab5) t)))) ∧ Below w.heap.size w w' := by
  have W := words a b tab0 tab5 t ht
  have hl := W.len
  refine ⟨by omega, fun w pb A c hq hC hc => escape_calls w pb QuietR hq A c _ hC hc (by omega) fun i h => ?_⟩
  have hm := W.mem _ (List.getElem_mem h)
  refine ⟨⟨_, rfl, ?_⟩, ?_, ?_⟩
  · unfold alnumB
    unfold Alnum at hm
    simp only [Bool.or_eq_true, Bool.and_eq_true, Nat.ble_eq, Nat.beq_eq]
    omega
  · unfold Alnum at hm; omega
  · unfold Alnum at hm; omega

theorem unescape_law : (den (atomsN a b tab0 tab5) [.atom 4]).length ≤ 1000000 ∧ ∀ (w : World) (pb : Nat) (A : Option Addr) (c : Nat), Quiet w pb QuietR →
    Kd.C (Kd.int .u8) w A (bytesI (den (atomsN a b tab0 tab5) [.atom 4])).length (bytesI (den (atomsN a b tab0 tab5) [.atom 4])) → (bytesI (den (atomsN a b tab0 tab5) [.atom 4])).length ≤ c →
      Calls Tryz.prog 483 #[.pointer (some ⟨pb, 0, none⟩), .slice A (bytesI (den (atomsN a b tab0 tab5) [.atom 4])).length c] w fun e w' => (∃ v, e = .returned v ∧ w'.ownsRow w.heap.size 5 1 v (den (atomsN a b tab0 tab5) [.atom 4]).length (nums .u8 (bytesI (den (atomsN a b tab0 tab5) [.atom 4])))) ∧ Below w.heap.size w w' := by
  have D := doc4 a b tab0
  rw [den_4]
  have hl := D.len
  refine ⟨by omega, fun w pb A c hq hC hc => unescape_calls w pb QuietR hq A c _ hC hc (by omega) fun i h => ?_⟩
  have hm := D.mem _ (List.getElem_mem h)
  unfold Alnum at hm; omega

theorem consecutive_law : (den (atomsN a b tab0 tab5) [.atom 4]).length ≤ 1000000 ∧ BytesLaw Tryz.prog 160 (den (atomsN a b tab0 tab5) [.atom 4]) id := by
  have D := doc4 a b tab0
  rw [den_4]
  have hl := D.len
  refine ⟨by omega, fun w A c hC hc => trimConsecutive_calls w A c _ hC hc (by omega) (fun i h => ?_) (scan_nlc D.scan (by omega))⟩
  have hm := D.mem _ (List.getElem_mem h)
  unfold Alnum at hm; omega

theorem unnecessary_law : (den (atomsN a b tab0 tab5) [.atom 4]).length ≤ 1000000 ∧ BytesLaw Tryz.prog 161 (den (atomsN a b tab0 tab5) [.atom 4]) id := by
  have D := doc4 a b tab0
  rw [den_4]
  have hl := D.len
  exact ⟨by omega, fun w A c hC hc => trimUnnec_calls w A c _ hC hc (by omega) (scan_dbl D.scan).2⟩

theorem replace_law : (den (atomsN a b tab0 tab5) [.atom 4]).length ≤ 1000000 ∧ ∀ (x : UInt8) (l : List UInt8) (r : ByteArray), l.length ≤ 9 → 128 ≤ x.toNat →
    BytesLaw Tryz.prog 254 (den (atomsN a b tab0 tab5) [.atom 4]) (fun y => y ++ #[.string ⟨(x :: l).toArray⟩, .string r]) := by
  have D := doc4 a b tab0
  rw [den_4]
  have hl := D.len
  refine ⟨by omega, fun x l r h9 hx w A c hC hc => replaceBytes_calls w A c _ x l r hC hc (by omega) h9 fun i e => ?_⟩
  have hm := D.mem _ (List.mem_of_getElem? e)
  unfold Alnum at hm; omega

theorem line_law (t : Txt) (ht : t = wA ∨ t = wB) : den (atomsN a b tab0 tab5) t ≠ [] ∧ (den (atomsN a b tab0 tab5) t).length ≤ 300 ∧ (∀ (i : Nat) (h : i < (den (atomsN a b tab0 tab5) t).length), (den (atomsN a b tab0 tab5) t)[i].toNat ≠ 10) ∧
    ∀ (i : Nat) (h : i < (den (atomsN a b tab0 tab5) t).length), NoSpace (den (atomsN a b tab0 tab5) t)[i].toNat := by
  have W := words a b tab0 tab5 t (by rcases ht with h | h <;> simp [h])
  have hl := W.len
  have hall : ∀ c ∈ den (atomsN a b tab0 tab5) t, Alnum (c.toNat : Int) := by
    intro c hc
    rcases ht with rfl | rfl
    · rw [den_wA] at hc
      rcases List.mem_cons.1 hc with rfl | hc
      · exact alnum_w
      · exact (letters_all a).2.2 c hc
    · rw [den_wB] at hc
      rcases List.mem_cons.1 hc with rfl | hc
      · exact alnum_w
      · exact (letters_all b).2.2 c hc
  refine ⟨W.ne, by omega, fun i h => ?_, fun i h => ?_⟩
  · have hm := hall _ (List.getElem_mem h)
    unfold Alnum at hm; omega
  · have hm := hall _ (List.getElem_mem h)
    unfold NoSpace
    unfold Alnum at hm; omega
end
end Vx

namespace Vx
open Go Go.Proofs Go.RowKit Go.Proofs.YtonagpnnfhilgaaGreat.Hand
set_option linter.unusedVariables false
set_option linter.unusedSimpArgs false
set_option maxRecDepth 1000000

/-! ## The executor's table for this program -/
def sumsN (F : Facts) (e7 e8 : Bool) : CallF :=
  sumAt 339 (stringS F smallL) <| sumAt 330 (runeS F smallL) <| sumAt 329 (writeS F smallL) <| sumAt 480 (convBytes [wAs, wB, wA]) <| sumAt 157 (mapStr [(wAs, wAs), (wB, wB), (wA, wA)]) <|
  sumAt 69 (mapStr [(wAs, wAs), (wB, wB), (wA, wA)]) <| sumAt 174 (mapStr2 [32] [(wAs, .bool true), (wB, .bool false), (wA, .bool false)]) <| sumAt 175 (mapStr2 [32] [(wAs, .str wA), (wB, .str wB), (wA, .str wA)]) <|
  sumAt 280 (mapStr [(wB, cond e7 [] [.atom 7]), (wA, cond e8 [] [.atom 8])]) <| sumAt 93 lenS <| sumAt 20 (mapStr [([.lit [97]], [.lit [34, 97, 34]])]) <| sumAt 10 (mapStr [([.atom 10], [.atom 0]), ([.atom 11], [.atom 1])]) <|
  sumAt 483 (convBytes [[.atom 4]]) <| sumAt 328 (linesS [wB, wA]) <| sumAt 310 (surrS [wB, wA]) <| sumAt 159 (trimS docT [.atom 4]) <| sumAt 160 (idBytes [[.atom 4]]) <| sumAt 161 (idBytes [[.atom 4]]) <| sumAt 254 (replBytes [[.atom 4]]) noCall

theorem noSum_ok {V : VP} {P : Program} {s : Atoms} : CallsOk V P s noCall := fun _ _ _ _ _ _ _ _ _ _ _ _ h => by cases h

theorem sumsN_ok (a b : ByteArray) (tab0 tab5 : Nat → Int) {V : VP} (hV : V.Ok Tryz.prog (atomsN a b tab0 tab5)) (h5 : V.bty = 5) (h96 : marksTy V = true) (hsz : ∀ i, V.ty.get 47 = some i → i.size = 1) (ha : a.size ≤ 2147483647) (hb : b.size ≤ 2147483647) {e7 e8 : Bool}
    (h7 : e7 = true → (atomsN a b tab0 tab5).txt 7 = []) (h8 : e8 = true → (atomsN a b tab0 tab5).txt 8 = []) : CallsOk V Tryz.prog (atomsN a b tab0 tab5) (sumsN V.facts e7 e8) := by
  have hL := smallN a b tab0 tab5 ha hb
  have three : ∀ {t u : Txt}, (t, u) ∈ [(wAs, wAs), (wB, wB), (wA, wA)] → (t = wA ∨ t = wB ∨ t = wAs) ∧ u = t := by
    intro t u h
    simp only [List.mem_cons, Prod.mk.injEq, List.not_mem_nil, or_false] at h
    rcases h with ⟨rfl, rfl⟩ | ⟨rfl, rfl⟩ | ⟨rfl, rfl⟩
    · exact ⟨.inr (.inr rfl), rfl⟩
    · exact ⟨.inr (.inl rfl), rfl⟩
    · exact ⟨.inl rfl, rfl⟩
  have three1 : ∀ {t : Txt}, t ∈ [wAs, wB, wA] → (t = wA ∨ t = wB ∨ t = wAs) := by
    intro t h
    simp only [List.mem_cons, List.not_mem_nil, or_false] at h
    rcases h with rfl | rfl | rfl
    · exact .inr (.inr rfl)
    · exact .inr (.inl rfl)
    · exact .inl rfl
  have two1 : ∀ {t : Txt}, t ∈ [wB, wA] → (t = wA ∨ t = wB) := by
    intro t h
    simp only [List.mem_cons, List.not_mem_nil, or_false] at h
    rcases h with rfl | rfl
    · exact .inr rfl
    · exact .inl rfl
  have one4 : ∀ {t : Txt}, t ∈ [([Pc.atom 4] : Txt)] → t = [.atom 4] := by
    intro t h
    simpa only [List.mem_cons, List.not_mem_nil, or_false] using h
  refine sumAt_ok (stringS_ok hV h5 hL) <| sumAt_ok (runeS_ok h5 hL) <| sumAt_ok (writeS_ok hV h5 hL) <| sumAt_ok (convBytes_ok hV h96 fun t ht => escape_law a b tab0 tab5 t (three1 ht)) <|
    sumAt_ok (mapStr_ok fun t u h => ?_) <| sumAt_ok (mapStr_ok fun t u h => ?_) <| sumAt_ok (mapStr2_ok fun t u h => ?_) <| sumAt_ok (mapStr2_ok fun t u h => ?_) <| sumAt_ok (mapStr_ok fun t u h => ?_) <| sumAt_ok lenS_ok <|
    sumAt_ok (mapStr_ok fun t u h => ?_) <| sumAt_ok (mapStr_ok fun t u h => ?_) <| sumAt_ok (convBytes_ok hV h96 fun t ht => ?_) <| sumAt_ok (linesS_ok hV hsz fun t ht => ?_) <| sumAt_ok (surrS_ok fun t ht => ?_) <|
    sumAt_ok (trimS_ok (tab := tab0) ?_ ?_ ?_ ?_) <| sumAt_ok (idBytes_ok fun t ht => ?_) <| sumAt_ok (idBytes_ok fun t ht => ?_) <| sumAt_ok (replBytes_ok fun t ht => ?_) noSum_ok
  · obtain ⟨h1, rfl⟩ := three h
    exact entities_law a b tab0 tab5 _ h1
  · obtain ⟨h1, rfl⟩ := three h
    exact blanks_law a b tab0 tab5 _ h1
  · obtain ⟨xa, ya, e1, e2, e3⟩ := word_last a
    obtain ⟨xb, yb, f1, f2, f3⟩ := word_last b
    simp only [List.mem_cons, Prod.mk.injEq, List.not_mem_nil, or_false] at h
    rcases h with ⟨rfl, rfl⟩ | ⟨rfl, rfl⟩ | ⟨rfl, rfl⟩
    · exact suffix_law a b tab0 tab5 _ true (119 :: (lettersOf a).data.toList) 32 (den_wAs a b tab0 tab5) (by have := (word_plain a).len; omega) rfl
    · exact suffix_law a b tab0 tab5 _ false xb yb (by rw [den_wB]; exact f1) f2 (decide_eq_false f3)
    · exact suffix_law a b tab0 tab5 _ false xa ya (by rw [den_wA]; exact e1) e2 (decide_eq_false e3)
  · obtain ⟨xa, ya, e1, e2, e3⟩ := word_last a
    obtain ⟨xb, yb, f1, f2, f3⟩ := word_last b
    simp only [List.mem_cons, Prod.mk.injEq, List.not_mem_nil, or_false] at h
    rcases h with ⟨rfl, rfl⟩ | ⟨rfl, rfl⟩ | ⟨rfl, rfl⟩
    · exact trimSuffix_law a b tab0 tab5 _ _ (119 :: (lettersOf a).data.toList) 32 (den_wAs a b tab0 tab5) (by have := (word_plain a).len; omega) (by rw [den_wA, if_pos rfl])
    · exact trimSuffix_law a b tab0 tab5 _ _ xb yb (by rw [den_wB]; exact f1) f2 (by rw [den_wB, if_neg f3]; exact f1)
    · exact trimSuffix_law a b tab0 tab5 _ _ xa ya (by rw [den_wA]; exact e1) e2 (by rw [den_wA, if_neg e3]; exact e1)
  · simp only [List.mem_cons, Prod.mk.injEq, List.not_mem_nil, or_false] at h
    rcases h with ⟨rfl, rfl⟩ | ⟨rfl, rfl⟩
    · refine trim_law a b tab0 tab5 _ _ (.inr rfl) ?_
      rw [den_wB]
      cases e7 with
      | true => exact (h7 rfl).symm
      | false => simp [den, atomsN]
    · refine trim_law a b tab0 tab5 _ _ (.inl rfl) ?_
      rw [den_wA]
      cases e8 with
      | true => exact (h8 rfl).symm
      | false => simp [den, atomsN]
  · simp only [List.mem_cons, Prod.mk.injEq, List.not_mem_nil, or_false] at h
    obtain ⟨rfl, rfl⟩ := h
    exact quoted_law _
  · simp only [List.mem_cons, Prod.mk.injEq, List.not_mem_nil, or_false] at h
    rcases h with ⟨rfl, rfl⟩ | ⟨rfl, rfl⟩
    · exact letters_law1 a b tab0 tab5
    · exact letters_law2 a b tab0 tab5
  · obtain rfl := one4 ht
    exact unescape_law a b tab0 tab5
  · obtain ⟨g1, g2, g3, _⟩ := line_law a b tab0 tab5 t (two1 ht)
    exact ⟨g1, g2, g3⟩
  · obtain ⟨g1, g2, _, g3⟩ := line_law a b tab0 tab5 t (two1 ht)
    exact ⟨g1, g2, g3⟩
  · rw [den_doc]; exact (docN a b).len
  · rw [den_doc]
    intro i h
    have hm := (docN a b).mem _ (List.getElem_mem h)
    unfold Alnum at hm; omega
  · intro base w0 w hT hbel c hc
    obtain ⟨hb6, h0, _⟩ := hT
    rw [hbel.cell (by show 0 < base; omega)]
    exact h0 c hc
  · rw [den_doc, den_4]
  · obtain rfl := one4 ht
    exact consecutive_law a b tab0 tab5
  · obtain rfl := one4 ht
    exact unnecessary_law a b tab0 tab5
  · obtain rfl := one4 ht
    exact replace_law a b tab0 tab5

/-! ## The sort's entries -/
def sortN : SortN := { valueOf := 90, swapper := 91, len := 92, sw1 := 96, sw2 := 97, sw9 := 104, gs := 13, slices := [100, 102, 104, 106] }

theorem packedN : allL (fun t => !(Tryz.prog.packed t)) [100, 102, 104, 106] = true := by kernel_rfl

theorem sortN_ok : SortOk Tryz.prog sortN :=
  { gs := by kernel_rfl
    valueOf := ⟨_, Tryz.func90, by kernel_rfl, by kernel_rfl, by rfl, by rfl⟩
    swapper := ⟨_, Tryz.func91, by kernel_rfl, by kernel_rfl, by rfl, by rfl⟩
    len := ⟨_, Tryz.func92, by kernel_rfl, by kernel_rfl, by rfl, by rfl⟩
    sw9 := ⟨_, Tryz.func104, by kernel_rfl, by kernel_rfl, by rfl, by rfl⟩
    n1 := by kernel_rfl
    n2 := by kernel_rfl
    n9 := by kernel_rfl
    unpacked := fun t h => by
      have hp := packedN
      simp only [allL, Bool.and_true, Bool.and_eq_true, Bool.not_eq_true'] at hp
      obtain ⟨p1, p2, p3, p4⟩ := hp
      simp only [sortN, memNat, Bool.or_false, Bool.or_eq_true] at h
      rcases h with h | h | h | h <;> (rw [Nat.eq_of_beq_eq_true h]; assumption) }

noncomputable def tyN : Tr TI := Tr.full (tyOf Tryz.prog) 10 1 0
noncomputable def fnN : Tr Func := Tr.full (fun f => Tryz.prog.funcs[f]?) 10 1 0
noncomputable def baseN : VP := { ty := tyN, fn := .nil, facts := { nonempty := [], amax := 0, differ := [] }, sums := noCall, exts := noCall, guard := 0, gty := 0, bty := 0 }
def factsN (e7 e8 : Bool) : Facts := { nonempty := (cond e7 [] [7]) ++ (cond e8 [] [8]), amax := 2147483647, differ := [] }
noncomputable def VN (e7 e8 : Bool) : VP := { ty := tyN, fn := fnN, facts := factsN e7 e8, sums := sumsN (factsN e7 e8) e7 e8, exts := sortExts baseN sortN, guard := 11, gty := 4, bty := 5 }

theorem namesN : Tryz.prog.funcs.toList.all (fun g => !(g.name == "runtime.NumGoroutine")) = true := by kernel_rfl

theorem marksN (e7 e8 : Bool) : marksTy (VN e7 e8) = true := by
  have h : marksTy baseN = true := by kernel_rfl
  exact h

noncomputable def size47B : Bool := match tyN.get 47 with | some i => Nat.beq i.size 1 | none => true
theorem size47 (e7 e8 : Bool) (i : TI) (hi : (VN e7 e8).ty.get 47 = some i) : i.size = 1 := by
  have h : size47B = true := by kernel_rfl
  unfold size47B at h
  have hi' : tyN.get 47 = some i := hi
  rw [hi'] at h
  exact Nat.eq_of_beq_eq_true h

theorem VN_ok (a b : ByteArray) (tab0 tab5 : Nat → Int) (ha : a.size ≤ 2147483647) (hb : b.size ≤ 2147483647) {e7 e8 : Bool} (h7 : e7 = false → (atomsN a b tab0 tab5).txt 7 ≠ []) (h8 : e8 = false → (atomsN a b tab0 tab5).txt 8 ≠ []) :
    (VN e7 e8).Ok Tryz.prog (atomsN a b tab0 tab5) :=
  { ty := fun t i h => by
      have := Tr.get_full (tyOf Tryz.prog) 10 1 0 t i h
      simpa using this
    fn := fun f g h => by
      have := Tr.get_full (fun f => Tryz.prog.funcs[f]?) 10 1 0 f g h
      simp only [Nat.one_mul, Nat.add_zero] at this
      refine ⟨this, ?_⟩
      have hm : g ∈ Tryz.prog.funcs.toList := Array.mem_toList_iff.2 (Array.mem_of_getElem? this)
      have := List.all_eq_true.1 namesN g hm
      simpa using this
    facts := by
      refine ⟨fun i h => ?_, lenN a b tab0 tab5 ha hb, fun x y h => by cases h⟩
      have hi : (e7 = false ∧ i = 7) ∨ (e8 = false ∧ i = 8) := by
        have : memNat i ((cond e7 [] [7]) ++ (cond e8 [] [8])) = true := h
        cases e7 <;> cases e8 <;> simp [memNat] at this ⊢ <;> first | exact this | omega
      rcases hi with ⟨h1, rfl⟩ | ⟨h1, rfl⟩
      · exact h7 h1
      · exact h8 h1 }

theorem guardN : GuardOk Tryz.prog 11 4 := fun g first cap w R hg h => guarded_calls g first cap w R hg h

theorem mixedN : Tryz.prog.follows .mixedOrders = true := by kernel_rfl

def startN : St := { heap := .nil, next := 0 }

def saysTrue : Option (LV × St) → Bool
  | some (.bool true, _) => true
  | _ => false

noncomputable def runN (e7 e8 : Bool) : Option (LV × St) := callL (VN e7 e8) (fun C => execL (VN e7 e8) C 100000) 60 3 [.str [.atom 10], .str [.atom 11]] startN

/-- The law, where the words' trimmed texts are as told. -/
theorem law_of_run (a b : ByteArray) (tab0 tab5 : Nat → Int) (ha : a.size ≤ 2147483647) (hb : b.size ≤ 2147483647) {e7 e8 : Bool} (h7 : (atomsN a b tab0 tab5).txt 7 = [] ↔ e7 = true) (h8 : (atomsN a b tab0 tab5).txt 8 = [] ↔ e8 = true)
    (hrun : saysTrue (runN e7 e8) = true) (w : World) (hT : (atomsN a b tab0 tab5).tied w.heap.size w) :
    Calls Tryz.prog 3 #[.string a, .string b] w fun e w' => e = .returned (.bool true) ∧ Below w.heap.size w w' := by
  have hV := VN_ok a b tab0 tab5 ha hb (e7 := e7) (e8 := e8) (fun h e => by rw [h7.1 e] at h; cases h) (fun h e => by rw [h8.1 e] at h; cases h)
  unfold runN at hrun
  generalize hc : callL (VN e7 e8) (fun C => execL (VN e7 e8) C 100000) 60 3 [.str [.atom 10], .str [.atom 11]] startN = res at hrun
  unfold saysTrue at hrun
  split at hrun
  case h_2 => cases hrun
  rename_i σ
  have hX : ExtsOk (VN e7 e8) Tryz.prog (atomsN a b tab0 tab5) := sortExts_ok hV (U := baseN) rfl sortN_ok rfl
  have hE : ∀ C, CallsOk (VN e7 e8) Tryz.prog (atomsN a b tab0 tab5) C → RunOk (VN e7 e8) Tryz.prog (atomsN a b tab0 tab5) (execL (VN e7 e8) C 100000) := fun C hC => exec_ok hV hX mixedN hC 100000
  have hS : CallsOk (VN e7 e8) Tryz.prog (atomsN a b tab0 tab5) (VN e7 e8).sums := sumsN_ok a b tab0 tab5 hV rfl (marksN e7 e8) (size47 e7 e8) ha hb h7.2 h8.2
  have hw : RW (VN e7 e8) (atomsN a b tab0 tab5) w.heap.size w [] startN w :=
    { len := rfl
      ob := fun l o h => by simp [startN, Tr.get] at h
      low := fun l o bd b h => by simp [startN, Tr.get] at h
      apart := fun l l' o o' bd bd' b _ h => by simp [startN, Tr.get] at h
      below := Below.refl _ _
      base_le := Nat.le_refl _
      tied := hT }
  have hcall := call_ok hV hX hE hS guardN 60 w.heap.size w [] startN w 3 [.str [.atom 10], .str [.atom 11]] #[.string a, .string b] (.bool true) σ hw
    ⟨_, _, rfl, ⟨a, rfl, by simp [den, atomsN]⟩, _, _, rfl, ⟨b, rfl, by simp [den, atomsN]⟩, rfl⟩ hc
  refine hcall.mono ?_
  rintro e' w' ⟨x, ρ', rfl, _, hw, hx⟩
  simp only [RV] at hx
  subst hx
  exact ⟨rfl, hw.below⟩
end Vx
