/- Walks: strings.TrimSpace, replaceAnyWhitespaceWithSpace, zzLines, SurroundingSpaces, HasSuffix, TrimSuffix. Conditions: those in each statement. -/
import Derived.Test.YtonagpnnfhilgaaGreatKC
import Derived.Test.YtonagpnnfhilgaaGreatKB
import Derived.OwnWalk
namespace Go.Proofs.YtonagpnnfhilgaaGreat.Hand
open Go.RowKit Go.Proofs.YtonagpnnfhilgaaGreatW.PrintWords Go.Proofs.YtonagpnnfhilgaaGreatW.PrintLast Go.Proofs.YtonagpnnfhilgaaGreatW.PrintMore
attribute [local go_sem] max2_int min2_int max_two min_two max_three min_three max_four min_four
set_option linter.unusedVariables false
set_option linter.unusedSimpArgs false

theorem sub_trim {p : UInt8 → Bool} (s : ByteArray) (i n : Nat) (h : i + n < s.size) (h1 : ∀ (j : Nat) (h : j < s.size), j < i → p (s[j]'h) = true) (h2 : p (s[i]'(by omega)) = false) (h3 : p (s[i + n]'h) = false)
    (h4 : ∀ (j : Nat) (h : j < s.size), i + n < j → p (s[j]'h) = true) : (s.extract i s.size).extract 0 (n + 1) = ⟨(trimBy p s.data.toList).toArray⟩ := by
  have hl : s.data.toList.length = s.size := by rw [Array.length_toList]; rfl
  have e := trimBy_at (p := p) s.data.toList i n (by omega) (fun j hj hji => h1 j (by omega) hji) h2 h3 (fun j hj hji => h4 j (by omega) hji)
  rw [e]
  apply ByteArray.ext
  apply Array.ext'
  rw [ByteArray.data_extract, ByteArray.data_extract, Array.toList_extract, Array.toList_extract, List.extract_eq_take_drop, List.extract_eq_take_drop, List.drop_zero, List.drop_take, List.take_take]
  rw [show min (n + 1 - 0) (s.size - i) = i + (n + 1) - i by omega]

set_option maxHeartbeats 8000000 in
set_option maxRecDepth 100000 in
theorem trimSpaceS_calls (w : World) (s : ByteArray) (h300 : s.size ≤ 300) (hq : ∀ (i : Nat) (h : i < s.size), (s[i]'h).toNat < 128) (tab : Nat → Int) (hsz : 5 < w.heap.size) (htab : ∀ c : Nat, c < 128 → w.cell? ⟨5, c, none⟩ = some (.int .u8 (tab c))) :
    Calls Tryz.prog 280 #[.string s] w fun e w' => e = .returned (.string ⟨(trimBy (marked tab) s.data.toList).toArray⟩) ∧ Below w.heap.size w w' := by
  obtain ⟨cc, hcc⟩ : ∃ cc, grownCap w s.size 0 5 = cc := ⟨_, rfl⟩
  obtain ⟨W, hW⟩ : ∃ W, Lib.bytesWorld w 5 s = W := ⟨_, rfl⟩
  have hcv : (convert 9 47 (.string s)).run Tryz.prog w = .ok (.slice (some ⟨w.heap.size, 0, none⟩) s.size (grownCap w s.size 0 5)) (Lib.bytesWorld w 5 s) :=
    Lib.run_convert_string_bytes w 9 47 5 s Tryz.underlying9 Tryz.underlying47 Tryz.underlying5
  have hB := bytesWorld_below w s
  have hcap : s.size ≤ grownCap w s.size 0 5 := grownCap_ge _ _ _ _
  have hr0 := bytes_C w s (by omega)
  rw [hcc, hW] at hcv
  rw [hcc] at hcap
  rw [hW] at hB hr0
  have hbl : (bytesI s.data.toList).length = s.size := by rw [bytesI_length, Array.length_toList]; rfl
  have HTW := Aside0.mk (show ∀ c : Nat, c < 128 → W.cell? ⟨5, c, none⟩ = some (.int .u8 (tab c)) from fun c hc => by rw [hB.cell (by show 5 < _; exact hsz)]; exact htab c hc)
  have HR0 := Aside0.mk hr0
  have HB := Aside0.mk hB
  have HBL := Aside0.mk hbl
  have HCAP := Aside0.mk hcap
  have H3 := Aside0.mk h300
  have HQ := Aside0.mk hq
  clear h300 hq htab hr0 hB hbl hcap hcc hW
  go_enter Tryz.func280, Tryz.ntmps280
  go_wp2
  go_loopg [0, 10] s.size (fun gf v0 v10 wx => ∃ (i : Nat), v0 = .string s ∧ v10 = .int .i64 (i : Int) ∧ wx = W ∧ Aside0 (i ≤ s.size ∧ s.size - i ≤ gf) ∧ Aside0 (∀ j (h : j < s.size), j < i → tab (s[j]'h).toNat ≠ 0))
  case atStart => exact ⟨0, rfl, rfl, rfl, ⟨Nat.zero_le _, by omega⟩, ⟨fun _ _ h => absurd h (Nat.not_lt_zero _)⟩⟩
  case round =>
    obtain ⟨i, rfl, rfl, hwx, HP, HM⟩ := hrel
    subst hwx
    by_cases hlt : (i : Int) < (s.size : Int)
    · have hib : i < s.size := by omega
      obtain ⟨g', rfl⟩ : ∃ g', gk = g' + 1 := ⟨gk - 1, by have := HP.out; omega⟩
      have hw1 := w64s i (by have := H3.out; omega)
      have hxa := at_byte HR0.out i (by rw [Array.length_toList]; exact hib)
      have c4b := decide_eq_true hlt
      have q1 := eq_true hlt
      have hq3 := HQ.out i hib
      have q147 : i ≤ s.size := Nat.le_of_lt hib
      obtain ⟨x, hx⟩ : ∃ x, (s[i]'hib).toNat = x := ⟨_, rfl⟩
      rw [show (s.data.toList[i]'(by rw [Array.length_toList]; exact hib)).toNat = x from hx] at hxa
      rw [hx] at hq3
      have d1 : decide ((x : Int) ≥ 128) = false := decide_eq_false (by omega)
      have d2 : ((x : Int) ≥ 128) = False := eq_false (by omega)
      have d3 : (128 ≤ (x : Int)) = False := eq_false (by omega)
      have d4 : (x < 256) = True := eq_true (by omega)
      have d5 : ((x : Int) < 256) = True := eq_true (by omega)
      rw [Addr.add_lit, Nat.zero_add] at hxa
      have hcell := HTW.out x hq3
      by_cases h0 : tab x = 0
      · have e0 : (tab x == 0) = true := beq_iff_eq.mpr h0
        have e1 : (tab x != 0) = false := by simp [bne, e0]
        have l2 : wrap64 (((s.size - i : Nat) : Int) - 1) = ((s.size - i - 1 : Nat) : Int) := w64p _ (by have := H3.out; clear d2 d3 d4 d5 q1; omega) (by clear d2 d3 d4 d5 q1; omega)
        obtain ⟨t, ht⟩ : ∃ t, s.extract i s.size = t := ⟨_, rfl⟩
        have hts : t.size = s.size - i := by rw [← ht, ByteArray.size_extract]; clear d2 d3 d4 d5 q1; omega
        have htb : ∀ (j : Nat) (h : j < t.size) (h2 : i + j < s.size), t[j]'h = s[i + j]'h2 := by
          intro j h h2; subst ht; rw [ByteArray.getElem_extract]
        go_wp2
        (try rw [← hts])
        have HTS := Aside0.mk hts
        have HTB := Aside0.mk htb
        have HTT := Aside0.mk ht
        have HXA := Aside0.mk hxa
        clear hts htb ht hxa d1 d2 d3 d4 d5 q1 c4b hcell e0 e1
        go_loopg [5] (s.size + 1) (fun gf v5 wx => ∃ (j : Nat), v5 = .int .i64 (j : Int) ∧ wx = wr ∧ Aside0 (i + j < s.size ∧ j + 1 ≤ gf) ∧ Aside0 (∀ m (h : m < s.size), i + j < m → tab (s[m]'h).toNat ≠ 0))
        case atStart => exact ⟨s.size - i - 1, by rw [HTS.out, l2], rfl, ⟨by omega, by omega⟩, ⟨fun m h h1 => by omega⟩⟩
        case round =>
          obtain ⟨j, rfl, hwx2, HP2, HM2⟩ := hrel
          subst hwx2
          have hjb : i + j < s.size := HP2.out.1
          have p3 : j < t.size := by rw [HTS.out]; omega
          have hq4 := HQ.out (i + j) hjb
          obtain ⟨y, hy⟩ : ∃ y, (s[i + j]'hjb).toNat = y := ⟨_, rfl⟩
          rw [hy] at hq4
          have hbt : ∀ h : j < t.size, ((t[j]'h).toNat : Int) = (y : Int) := fun h => by rw [HTB.out j h hjb, hy]
          have hbt2 : ∀ h : j < t.size, (t[j]'h).toNat = y := fun h => by rw [HTB.out j h hjb, hy]
          obtain ⟨g2, rfl⟩ : ∃ g2, gk = g2 + 1 := ⟨gk - 1, by have := HP2.out; omega⟩
          have j300 : j ≤ 100000 := by have := H3.out; omega
          have f1 : decide ((y : Int) ≥ 128) = false := decide_eq_false (by omega)
          have f2 : ((y : Int) ≥ 128) = False := eq_false (by omega)
          have f3 : (128 ≤ (y : Int)) = False := eq_false (by omega)
          have f4 : (y < 256) = True := eq_true (by omega)
          have f5 : ((y : Int) < 256) = True := eq_true (by omega)
          have p1 : decide ((j : Int) ≥ 0) = true := decide_eq_true (by omega)
          have p2 : ((j : Int) ≥ 0) = True := eq_true (by omega)
          have p3b : ((j : Int) < (t.size : Int)) = True := eq_true (Int.ofNat_lt.2 p3)
          have hcell2 := HTW.out y hq4
          obtain ⟨m, hm⟩ : ∃ m, j + 1 = m := ⟨_, rfl⟩
          have hw3 := w64s j j300
          rw [hm] at hw3
          have p4 : m ≤ t.size := by rw [← hm]; exact Nat.succ_le_of_lt p3
          have HM3 := Aside0.mk hm
          clear hm
          by_cases h1 : tab y = 0
          · have e0b : (tab y == 0) = true := beq_iff_eq.mpr h1
            have e1b : (tab y != 0) = false := by simp [bne, e0b]
            go_wp2
            clear f1 f2 f3 f4 f5 p1 p2 p3b e0b e1b
            go_ret
            refine ⟨?_, HB.out⟩
            show Ending.returned (.string (t.extract 0 (j + 1))) = _
            rw [← HTT.out, sub_trim s i j hjb (fun k hk hki => marked_true (HM.out k hk hki)) (marked_false (by rw [hx]; exact h0)) (marked_false (by rw [hy]; exact h1)) (fun k hk hki => marked_true (HM2.out k hk hki))]
          · have e0b : (tab y == 0) = false := beq_eq_false_iff_ne.mpr h1
            have e1b : (tab y != 0) = true := by simp [bne, e0b]
            have hj0 : j ≠ 0 := by rintro rfl; simp only [Nat.add_zero] at hy; rw [hx] at hy; rw [hy] at h0; exact h1 h0
            have hw4 := w64p j j300 hj0
            go_wp2
            clear f2 f3 f4 f5 p2 p3b
            go_roundg g2
            case measure => omega
            case rel =>
              refine ⟨j - 1, by congr 1; omega, rfl, ⟨by omega, by have := HP2.out; omega⟩, ⟨fun m1 hm1 h1m => ?_⟩⟩
              rcases Nat.lt_or_ge (i + j) m1 with h | h
              · exact HM2.out m1 hm1 h
              · have : m1 = i + j := by omega
                subst this; rw [hy]; exact h1
      · have e0 : (tab x == 0) = false := beq_eq_false_iff_ne.mpr h0
        have e1 : (tab x != 0) = true := by simp [bne, e0]
        go_wp2
        clear d2 d3 d4 d5 q1
        go_roundg g'
        case measure => omega
        case rel =>
          refine ⟨i + 1, rfl, by rw [hw1], rfl, ⟨by omega, by have := HP.out; omega⟩, ⟨fun j hj hji => ?_⟩⟩
          rcases Nat.lt_succ_iff_lt_or_eq.1 hji with h | h
          · exact HM.out j hj h
          · subst h; rw [hx]; exact h0
    · have hi : i = s.size := by have := HP.out; omega
      have c4b := decide_eq_false hlt
      have c4n : (i < s.size) = False := eq_false (by omega)
      go_wp2
      go_ret
      refine ⟨?_, HB.out⟩
      rw [trimBy_all]; rfl
      intro b hb
      obtain ⟨j, hj, rfl⟩ := List.getElem_of_mem hb
      rw [Array.length_toList] at hj
      exact marked_true (HM.out j hj (by rw [hi]; exact hj))
end Go.Proofs.YtonagpnnfhilgaaGreat.Hand

namespace Go.Proofs.YtonagpnnfhilgaaGreat.Hand
open Go.RowKit Go.Proofs.YtonagpnnfhilgaaGreatW.PrintWords Go.Proofs.YtonagpnnfhilgaaGreatW.PrintLast Go.Proofs.YtonagpnnfhilgaaGreatW.PrintMore
attribute [local go_sem] max2_int min2_int max_two min_two max_three min_three max_four min_four
set_option linter.unusedVariables false
set_option linter.unusedSimpArgs false

set_option maxHeartbeats 8000000 in
set_option maxRecDepth 100000 in
theorem blanks_calls (w : World) (s : ByteArray) (h0 : s.size ≠ 0) (h300 : s.size ≤ 300) (hq : ∀ (i : Nat) (h : i < s.size), (s[i]'h).toNat ≠ 9 ∧ (s[i]'h).toNat ≠ 10 ∧ (s[i]'h).toNat ≠ 13) (hd : ∀ (i : Nat) (h : i + 1 < s.size), (s[i]'(by omega)).toNat = 32 → (s[i + 1]'h).toNat ≠ 32) :
    Calls Tryz.prog 69 #[.string s] w fun e w' => e = .returned (.string s) ∧ Below w.heap.size w w' := by
  have hmf : ∀ (fn : Fn) (first cap : Array Value) (w : World), (Instr.makeFunc fn first cap).run Tryz.prog w = .ok (.func fn first cap) w := fun _ _ _ _ => rfl
  have heq : ∀ w : World, (binOp .eql 47 (.slice none 0 0) (.slice none 0 0)).run Tryz.prog w = .ok (.bool true) w := fun w => nil_none 0 0 w
  have hne : s.toList.isEmpty = false := by
    rw [List.isEmpty_eq_false_iff, ByteArray.toList_eq]
    intro e
    have := congrArg List.length e
    rw [Array.length_toList] at this
    exact h0 this
  obtain ⟨W, hW⟩ : ∃ W, (w.alloc (Obj.cells #[Value.string s] 9)).alloc (Obj.cells #[Value.slice none 0 0] 47) = W := ⟨_, rfl⟩
  have hB : Below w.heap.size w W := by rw [← hW]; exact below_alloc (below_alloc (Below.refl _ _) _) _
  have hx1 : W.cell? ⟨w.heap.size + 1, 0, none⟩ = some (.slice none 0 0) := by rw [← hW]; exact cell_new _ _ _ _ (by simp [World.alloc, -World.alloc_eq])
  have hx0 : W.cell? ⟨w.heap.size, 0, none⟩ = some (.string s) := by
    rw [← hW, World.cell?_alloc_lt _ _ _ (by show w.heap.size < _; simp [World.alloc, -World.alloc_eq])]
    exact cell_new _ _ _ _ rfl
  have H3 := Aside0.mk h300
  have HQ := Aside0.mk hq
  have HD := Aside0.mk hd
  clear h300 hq hd
  go_enter Tryz.func69, Tryz.ntmps69
  go_wp2
  (try rw [hW])
  have HB := Aside0.mk hB
  clear hB hW
  go_loopg [5, 6, 7] s.size (fun gf v5 v6 v7 wx => ∃ (i : Nat), v5 = .int .i64 0 ∧ v7 = .int .i64 (i : Int) ∧ wx = W ∧ Aside0 (i ≤ s.size ∧ s.size - i ≤ gf) ∧ (v6 = .int .i64 (-1) ∨ ∃ k : Nat, v6 = .int .i64 (k : Int) ∧ Aside0 (i = k + 1) ∧ Aside0 (∃ h : k < s.size, (s[k]'h).toNat = 32)))
  case atStart => exact ⟨0, rfl, rfl, rfl, ⟨Nat.zero_le _, by omega⟩, .inl rfl⟩
  case round =>
    obtain ⟨i, rfl, rfl, hwx, HP, HM⟩ := hrel
    subst hwx
    by_cases hlt : (i : Int) < (s.size : Int)
    · have hib : i < s.size := by omega
      obtain ⟨g', rfl⟩ : ∃ g', gk = g' + 1 := ⟨gk - 1, by have := HP.out; omega⟩
      have hw1 := w64s i (by have := H3.out; omega)
      have c4b := decide_eq_true hlt
      have q1 := eq_true hlt
      obtain ⟨hq1, hq2, hq3⟩ := HQ.out i hib
      obtain ⟨x, hx⟩ : ∃ x, (s[i]'hib).toNat = x := ⟨_, rfl⟩
      rw [hx] at hq1 hq2 hq3
      have hbt : ∀ h : i < s.size, ((s[i]'h).toNat : Int) = (x : Int) := fun h => by rw [hx]
      have d9 : ((x : Int) == 9) = false := beq_eq_false_iff_ne.mpr (by omega)
      have d10 : ((x : Int) == 10) = false := beq_eq_false_iff_ne.mpr (by omega)
      have d13 : ((x : Int) == 13) = false := beq_eq_false_iff_ne.mpr (by omega)
      have q9 : ((x : Int) = 9) = False := eq_false (by omega)
      have q10 : ((x : Int) = 10) = False := eq_false (by omega)
      have q13 : ((x : Int) = 13) = False := eq_false (by omega)
      rcases HM with rfl | ⟨k, rfl, HK, HK2⟩
      · by_cases h32 : x = 32
        · have d32 : ((x : Int) == 32) = true := by subst h32; rfl
          go_wp2
          clear q9 q10 q13 q1
          go_roundg g'
          case measure => omega
          case rel =>
            exact ⟨i + 1, rfl, by rw [hw1], rfl, ⟨by omega, by have := HP.out; omega⟩, .inr ⟨i, rfl, ⟨rfl⟩, ⟨⟨hib, by rw [hx]; exact h32⟩⟩⟩⟩
        · have d32 : ((x : Int) == 32) = false := beq_eq_false_iff_ne.mpr (by clear q9 q10 q13 q1; omega)
          go_wp2
          clear q9 q10 q13 q1
          go_roundg g'
          case measure => omega
          case rel =>
            exact ⟨i + 1, rfl, by rw [hw1], rfl, ⟨by omega, by have := HP.out; omega⟩, .inl rfl⟩
      · have hk : k < s.size := HK2.out.1
        have hkx : (s[k]'hk).toNat = 32 := HK2.out.2
        have h32 : x ≠ 32 := by
          have := HD.out k (by have := HK.out; omega) hkx
          have e := HK.out
          subst e
          rw [hx] at this; exact this
        have d32 : ((x : Int) == 32) = false := beq_eq_false_iff_ne.mpr (by clear q9 q10 q13 q1; omega)
        have hkm : ((k : Int) == -1) = false := beq_eq_false_iff_ne.mpr (by clear q9 q10 q13 q1; omega)
        have hkm2 : ((k : Int) = -1) = False := eq_false (by clear q9 q10 q13 q1; omega)
        have hcnt : wrap64 ((i : Int) - (k : Int)) = 1 := by rw [HK.out]; unfold wrap64; clear q9 q10 q13 q1; omega
        have hbk : ∀ h : k < s.size, ((s[k]'h).toNat : Int) = 32 := fun h => by rw [hkx]; rfl
        have hkl : ((k : Int) < (s.size : Int)) = True := eq_true (Int.ofNat_lt.2 hk)
        go_wp2
        clear q9 q10 q13 q1 hkm2 hkl
        go_roundg g'
        case measure => omega
        case rel =>
          exact ⟨i + 1, rfl, by rw [hw1], rfl, ⟨by omega, by have := HP.out; omega⟩, .inl rfl⟩
    · have hi : i = s.size := by have := HP.out; omega
      have c4b := decide_eq_false hlt
      have c4n : (i < s.size) = False := eq_false (by omega)
      rcases HM with rfl | ⟨k, rfl, HK, HK2⟩
      · go_wp2
        go_ret
        exact ⟨rfl, HB.out⟩
      · have hk : k < s.size := HK2.out.1
        have hkx : (s[k]'hk).toNat = 32 := HK2.out.2
        have hkm : ((k : Int) == -1) = false := beq_eq_false_iff_ne.mpr (by clear c4n; omega)
        have hkm2 : ((k : Int) = -1) = False := eq_false (by clear c4n; omega)
        have hcnt : wrap64 ((s.size : Int) - (k : Int)) = 1 := by have := HK.out; rw [← hi, this]; unfold wrap64; clear c4n; have := H3.out; omega
        have hbk : ∀ h : k < s.size, ((s[k]'h).toNat : Int) = 32 := fun h => by rw [hkx]; rfl
        have hkl : ((k : Int) < (s.size : Int)) = True := eq_true (Int.ofNat_lt.2 hk)
        go_wp2
        go_ret
        exact ⟨rfl, HB.out⟩
end Go.Proofs.YtonagpnnfhilgaaGreat.Hand

namespace Go.Proofs.YtonagpnnfhilgaaGreat.Hand
open Go.RowKit Go.Proofs.YtonagpnnfhilgaaGreatW.PrintWords Go.Proofs.YtonagpnnfhilgaaGreatW.PrintLast Go.Proofs.YtonagpnnfhilgaaGreatW.PrintMore
attribute [local go_sem] max2_int min2_int max_two min_two max_three min_three max_four min_four
set_option linter.unusedVariables false
set_option linter.unusedSimpArgs false

/-! ## Nothing written -/
theorem setCell_self {w : World} {b i : Nat} {c : Array Value} {T : TypeId} {fr : Nat × Nat} {v : Value} (h : w.heap[b]? = some (.cells c T fr)) (hi : c[i]? = some v) : w.setCell ⟨b, i, none⟩ v = w := by
  have hh : (w.setCell ⟨b, i, none⟩ v).heap = w.heap := by
    apply Array.ext_getElem?
    intro k
    by_cases e : k = b
    · subst e
      rw [Lib.heap_setCell_same h v, h]
      congr 2
      apply Array.ext_getElem?
      intro j
      rw [Array.getElem?_setIfInBounds]
      by_cases ej : i = j
      · subst ej
        rw [if_pos rfl, hi]
        have := (Array.getElem?_eq_some_iff.1 hi).1
        rw [if_pos this]
      · rw [if_neg ej]
    · exact Below.heap_setCell _ _ _ _ e
  have e : (w.setCell ⟨b, i, none⟩ v) = { w with heap := (w.setCell ⟨b, i, none⟩ v).heap } := rfl
  rw [e, hh]

set_option maxHeartbeats 8000000 in
set_option maxRecDepth 100000 in
theorem write_zero (w : World) (b T : Nat) (A : Option Addr) (sc : Nat) (bs : List UInt8) (v : Value) (h : BufAt w b T bs v) (h0 : w.heap[b]? = some (.cells #[v, .int .i64 0, .int .i8 0] T (0, 0))) (hlim : bs.length ≤ 1000000) :
    Calls Tryz.prog 329 #[.pointer (some ⟨b, 0, none⟩), .slice A 0 sc] w fun e w' => e = .returned (.tuple #[.int .i64 0, .nilIface]) ∧ w' = w := by
  obtain ⟨A1, l, c, rfl, hlc, hcm⟩ : ∃ A1 l c, v = .slice A1 l c ∧ l ≤ c ∧ c ≤ maxLen := by
    rcases h.2 with ⟨_, h2⟩ | ⟨_, g, cap, cur, h2, _, _, _, h3, h4, _⟩
    · exact ⟨none, 0, 0, h2, Nat.le_refl _, Nat.zero_le _⟩
    · exact ⟨_, _, _, h2, h3, h4⟩
  obtain ⟨c0, c1, c2, f0, f1, f2⟩ := cell_at h0
  have s2 : w.setCell ⟨b, 2, none⟩ (.int .i8 0) = w := setCell_self h0 rfl
  have s0 : w.setCell ⟨b, 0, none⟩ (.slice A1 (l + 0) c) = w := setCell_self h0 rfl
  have CT := Aside0.mk (tryGrow_fits w b A1 l c 0 c0 f0 (by omega) hcm)
  rw [s0] at CT
  have hcp : ∀ v1 : Option Addr, ∀ c1 : Nat, (Builtin.copy_ #[47, 47] 3 #[.slice v1 0 c1, .slice A 0 sc]).run Tryz.prog w = .ok (.int .i64 0) w := by
    intro v1 c1
    cases A <;> cases v1 <;> simp [Builtin.copy_, Builtin.lenOf, Builtin.firstCells, loadCells, loadCellsFrom, storeCells, goInt, Result.andThen]
  have HX := Aside0.mk h
  clear h s0
  go_enter Tryz.func329, Tryz.ntmps329
  go_wp2_with (go_at_call 357; fail)
  refine CT.out.mono ?_
  rintro e w2 ⟨rfl, h2⟩
  rw [h2]
  clear h2
  go_wp2
  all_goals
    go_ret2
    exact ⟨rfl, rfl⟩

/-! ## One line -/
set_option maxHeartbeats 8000000 in
set_option maxRecDepth 100000 in
theorem lines_calls (w : World) (A0 : Option Addr) (c0 : Nat) (bs : List UInt8) (hr0 : Kd.C (Kd.int .u8) w A0 (bytesI bs).length (bytesI bs)) (hc0 : (bytesI bs).length ≤ c0) (hne : bs ≠ []) (h300 : bs.length ≤ 300)
    (hq : ∀ (i : Nat) (h : i < bs.length), bs[i].toNat ≠ 10) :
    Calls Tryz.prog 328 #[.slice A0 (bytesI bs).length c0] w fun e w' => ∃ g cap cur, e = .returned (.slice (some ⟨g, 0, none⟩) 1 cap) ∧ w.heap.size ≤ g ∧ w'.heap[g]? = some (.cells cur 47 (0, 0)) ∧ 1 ≤ cap ∧ cur.size = cap ∧
      cur[0]? = some (.slice A0 (bytesI bs).length c0) ∧ Below w.heap.size w w' := by
  obtain ⟨ad0, rfl⟩ : ∃ ad, A0 = some ad := by
    obtain ⟨ad, e, _⟩ := hr0.2.2 (by rw [bytesI_length]; exact List.length_pos_iff.2 hne)
    exact ⟨ad, e⟩
  have HR0 := Aside0.mk hr0
  have HC0 := Aside0.mk hc0
  have H3 := Aside0.mk h300
  have HQ := Aside0.mk hq
  clear hr0 hc0 h300 hq
  go_enter Tryz.func328, Tryz.ntmps328
  go_wp2
  go_loopg [3, 4, 5] bs.length (fun gf v3 v4 v5 wx => ∃ (i : Nat), v3 = .slice none 0 0 ∧ v4 = .int .i64 0 ∧ v5 = .int .i64 (i : Int) ∧ wx = w ∧ Aside0 (i ≤ bs.length ∧ bs.length - i ≤ gf))
  case atStart => exact ⟨0, rfl, rfl, rfl, rfl, ⟨Nat.zero_le _, by omega⟩⟩
  case round =>
    obtain ⟨i, rfl, rfl, rfl, hwx, HP⟩ := hrel
    subst hwx
    by_cases hlt : (i : Int) < ((bytesI bs).length : Int)
    · have hib : i < bs.length := by rw [bytesI_length] at hlt; omega
      obtain ⟨g', rfl⟩ : ∃ g', gk = g' + 1 := ⟨gk - 1, by have := HP.out; omega⟩
      have hw1 := w64s i (by have := H3.out; omega)
      have hxa := at_byte HR0.out i hib
      have hq3 := HQ.out i hib
      have c4b := decide_eq_true hlt
      have q1 := eq_true hlt
      have d10 : ((bs[i].toNat : Int) == 10) = false := beq_eq_false_iff_ne.mpr (by omega)
      have q146 : i < (bytesI bs).length := by rw [bytesI_length]; exact hib
      go_wp2
      clear q1
      go_roundg g'
      case measure => omega
      case rel => exact ⟨i + 1, rfl, rfl, by rw [hw1], rfl, ⟨by omega, by have := HP.out; omega⟩⟩
    · have hi : i = bs.length := by have := HP.out; rw [bytesI_length] at hlt; omega
      have c4b := decide_eq_false hlt
      have c4n : (i < (bytesI bs).length) = False := eq_false (by omega)
      go_wp2
      go_ret
      have hheap : ∀ (u : World) (o : Obj), ((u.alloc o).drew).heap[u.heap.size]? = some o := by intro u o; simp [World.alloc, World.drew, -World.alloc_eq, -World.drew_eq]
      have hsz : (wr.alloc (.cells #[.slice (some ad0) (bytesI bs).length c0] 47)).heap.size = wr.heap.size + 1 := by simp [World.alloc, -World.alloc_eq]
      have hge := grownCap_ge wr 1 0 47
      refine ⟨_, _, rfl, Nat.le_succ _, _, by rw [← hsz]; exact hheap _ _, hge, ?_, ?_, ?_⟩
      · have hge2 : 1 ≤ (Question.appendCap 1 0 47).cut (wr.tape wr.drawn (Question.appendCap 1 0 47)) := hge
        rw [Array.size_append, size_zeroCells]
        have e1 : (#[Value.slice none 0 0] : Array Value).size = 1 := rfl
        have e2 : (#[Value.slice (some ad0) (bytesI bs).length c0] : Array Value).size = 1 := rfl
        rw [e1, e2]
        omega
      · rw [Array.getElem?_append_left (show 0 < (#[Value.slice (some ad0) (bytesI bs).length c0] : Array Value).size from Nat.zero_lt_one)]
        rfl
      · exact ⟨rfl, rfl, rfl, by simp [World.alloc, World.drew, -World.alloc_eq, -World.drew_eq]; omega, fun k hk => by simp [World.alloc, World.drew, -World.alloc_eq, -World.drew_eq, Array.getElem?_push]; rw [if_neg (by omega), if_neg (by omega)]⟩

/-! ## A text that neither begins nor ends with white space -/
/-- ASCII, no white space. -/
def NoSpace (n : Nat) : Prop := n < 128 ∧ n ≠ 9 ∧ n ≠ 10 ∧ n ≠ 11 ∧ n ≠ 12 ∧ n ≠ 13 ∧ n ≠ 32

set_option maxHeartbeats 8000000 in
set_option maxRecDepth 100000 in
theorem isSpace_not (x : Nat) (hx : NoSpace x) (w : World) : Calls Tryz.prog 169 #[.int .i32 (x : Int)] w fun e w' => e = .returned (.bool false) ∧ w' = w := by
  obtain ⟨h0, h9, h10, h11, h12, h13, h32⟩ := hx
  have q1 : IntKind.u32.wrap (x : Int) = (x : Int) := by simp [IntKind.wrap, IntKind.bits, IntKind.signed]; omega
  have q2 : decide ((x : Int) ≤ 255) = true := decide_eq_true (by omega)
  have d9 : ((x : Int) == 9) = false := beq_eq_false_iff_ne.mpr (by omega)
  have d10 : ((x : Int) == 10) = false := beq_eq_false_iff_ne.mpr (by omega)
  have d11 : ((x : Int) == 11) = false := beq_eq_false_iff_ne.mpr (by omega)
  have d12 : ((x : Int) == 12) = false := beq_eq_false_iff_ne.mpr (by omega)
  have d13 : ((x : Int) == 13) = false := beq_eq_false_iff_ne.mpr (by omega)
  have d32 : ((x : Int) == 32) = false := beq_eq_false_iff_ne.mpr (by omega)
  have d133 : ((x : Int) == 133) = false := beq_eq_false_iff_ne.mpr (by omega)
  have d160 : ((x : Int) == 160) = false := beq_eq_false_iff_ne.mpr (by omega)
  clear h0 h9 h10 h11 h12 h13 h32
  go_enter Tryz.func169, Tryz.ntmps169
  go_wp2
  go_ret
  exact ⟨rfl, rfl⟩

set_option maxHeartbeats 8000000 in
set_option maxRecDepth 100000 in
theorem surr1_not (x : Nat) (hx : NoSpace x) (w : World) : Calls Tryz.prog 352 #[.int .i32 (x : Int)] w fun e w' => e = .returned (.bool false) ∧ w' = w := by
  have CS := Aside0.mk (isSpace_not x hx w)
  go_enter Tryz.func352, Tryz.ntmps352
  go_wp2_with (go_at_call 169; fail)
  refine CS.out.mono ?_
  rintro e w1 ⟨rfl, h2⟩
  rw [h2]
  clear h2
  go_wp2
  go_ret
  exact ⟨rfl, rfl⟩

set_option maxHeartbeats 8000000 in
set_option maxRecDepth 100000 in
theorem surr2_not (x : Nat) (hx : NoSpace x) (w : World) : Calls Tryz.prog 353 #[.int .i32 (x : Int)] w fun e w' => e = .returned (.bool false) ∧ w' = w := by
  have CS := Aside0.mk (isSpace_not x hx w)
  go_enter Tryz.func353, Tryz.ntmps353
  go_wp2_with (go_at_call 169; fail)
  refine CS.out.mono ?_
  rintro e w1 ⟨rfl, h2⟩
  rw [h2]
  clear h2
  go_wp2
  go_ret
  exact ⟨rfl, rfl⟩

set_option maxHeartbeats 8000000 in
set_option maxRecDepth 100000 in
theorem lastIndex_calls (w : World) (ad : Addr) (n c x : Nat) (hx : w.cell? (ad.add n) = some (.int .u8 (x : Int))) (hs : NoSpace x) (hc : n + 1 ≤ c) (hn : n ≤ 1000) :
    Calls Tryz.prog 182 #[.slice (some ad) (n + 1) c, .func (.func 352) #[] #[], .bool false] w fun e w' => e = .returned (.int .i64 (n : Int)) ∧ w' = w := by
  have CS := Aside0.mk (surr1_not x hs w)
  have HX := Aside0.mk hx
  obtain ⟨h0, _⟩ := hs
  have hw1 : wrap64 (((n + 1 : Nat) : Int) - 1) = (n : Int) := by unfold wrap64; omega
  have hgt : decide (((n + 1 : Nat) : Int) > 0) = true := decide_eq_true (by omega)
  have q1 : IntKind.i32.wrap (x : Int) = (x : Int) := by simp [IntKind.wrap, IntKind.bits, IntKind.signed]; omega
  have hge : decide ((x : Int) ≥ 128) = false := decide_eq_false (by omega)
  clear hx
  go_enter Tryz.func182, Tryz.ntmps182
  go_wp2
  go_loop [7] (fun v7 => v7 = .int .i64 ((n + 1 : Nat) : Int)) (fun _ => 0)
  case atStart => rfl
  case round =>
    subst hrel
    have hx := HX.out
    go_wp2_with (go_at_call 352; fail)
    refine CS.out.mono ?_
    rintro e w1 ⟨rfl, h2⟩
    rw [h2]
    clear h2
    go_wp2
    go_ret
    exact ⟨rfl, rfl⟩

set_option maxHeartbeats 8000000 in
set_option maxRecDepth 100000 in
theorem trimRight_calls (w : World) (ad : Addr) (n c x : Nat) (hx : w.cell? (ad.add n) = some (.int .u8 (x : Int))) (hs : NoSpace x) (hc : n + 1 ≤ c) (hn : n ≤ 1000) :
    Calls Tryz.prog 176 #[.slice (some ad) (n + 1) c, .func (.func 352) #[] #[]] w fun e w' => e = .returned (.slice (some ad) (n + 1) c) ∧ w' = w := by
  have CS := Aside0.mk (lastIndex_calls w ad n c x hx hs hc hn)
  have HX := Aside0.mk hx
  obtain ⟨h0, _⟩ := hs
  have hw1 : wrap64 ((n : Int) + 1) = ((n + 1 : Nat) : Int) := by unfold wrap64; omega
  have hge0 : decide ((n : Int) ≥ 0) = true := decide_eq_true (by omega)
  have hge : decide ((x : Int) ≥ 128) = false := decide_eq_false (by omega)
  have hlt : (n < n + 1) = True := eq_true (Nat.lt_succ_self n)
  clear hx
  go_enter Tryz.func176, Tryz.ntmps176
  go_wp2_with (go_at_call 182; fail)
  refine CS.out.mono ?_
  rintro e w1 ⟨rfl, h2⟩
  rw [h2]
  clear h2
  have hx := HX.out
  go_wp2
  go_ret
  exact ⟨rfl, rfl⟩

set_option maxHeartbeats 8000000 in
set_option maxRecDepth 100000 in
theorem index_calls (w : World) (ad : Addr) (n c x : Nat) (hx : w.cell? ad = some (.int .u8 (x : Int))) (hs : NoSpace x) (hn : 1 ≤ n) (hc : n ≤ c) :
    Calls Tryz.prog 183 #[.slice (some ad) n c, .func (.func 353) #[] #[], .bool false] w fun e w' => e = .returned (.int .i64 0) ∧ w' = w := by
  have CS := Aside0.mk (surr2_not x hs w)
  have HX := Aside0.mk hx
  obtain ⟨h0, _⟩ := hs
  have CD := Aside0.mk (decode_ascii ad n c (x : Int) w hn hx (by omega) (by omega))
  have hlt : decide ((0 : Int) < (n : Int)) = true := decide_eq_true (by omega)
  clear hx
  go_enter Tryz.func183, Tryz.ntmps183
  go_wp2
  go_loop [7] (fun v7 => v7 = .int .i64 0) (fun _ => 0)
  case atStart => rfl
  case round =>
    subst hrel
    have hx := HX.out
    go_wp2_with (go_at_call 170; fail)
    refine CD.out.mono ?_
    rintro e w1 ⟨rfl, h2⟩
    rw [h2]
    clear h2
    go_wp2_with (go_at_call 353; fail)
    refine CS.out.mono ?_
    rintro e w1 ⟨rfl, h2⟩
    rw [h2]
    clear h2
    go_wp2
    go_ret
    exact ⟨rfl, rfl⟩

set_option maxHeartbeats 8000000 in
set_option maxRecDepth 100000 in
theorem trimLeft_calls (w : World) (ad : Addr) (n c x : Nat) (hx : w.cell? ad = some (.int .u8 (x : Int))) (hs : NoSpace x) (hn : 1 ≤ n) (hc : n ≤ c) :
    Calls Tryz.prog 177 #[.slice (some ad) n c, .func (.func 353) #[] #[]] w fun e w' => e = .returned (.slice (some ad) n c) ∧ w' = w := by
  have CS := Aside0.mk (index_calls w ad n c x hx hs hn hc)
  go_enter Tryz.func177, Tryz.ntmps177
  go_wp2_with (go_at_call 183; fail)
  refine CS.out.mono ?_
  rintro e w1 ⟨rfl, h2⟩
  rw [h2]
  clear h2
  go_wp2
  go_ret
  exact ⟨rfl, rfl⟩

set_option maxHeartbeats 8000000 in
set_option maxRecDepth 100000 in
theorem surr_calls (w : World) (A0 : Option Addr) (c0 : Nat) (bs : List UInt8) (hr0 : Kd.C (Kd.int .u8) w A0 (bytesI bs).length (bytesI bs)) (hc0 : (bytesI bs).length ≤ c0) (hne : bs ≠ []) (h300 : bs.length ≤ 300)
    (hq : ∀ (i : Nat) (h : i < bs.length), NoSpace bs[i].toNat) :
    Calls Tryz.prog 310 #[.slice A0 (bytesI bs).length c0] w fun e w' => ∃ A1 c1 A3 c3, e = .returned (.tuple #[.slice A1 0 c1, .slice A0 (bytesI bs).length c0, .slice A3 0 c3]) ∧ Below w.heap.size w w' := by
  obtain ⟨ad0, rfl⟩ : ∃ ad, A0 = some ad := by
    obtain ⟨ad, e, _⟩ := hr0.2.2 (by rw [bytesI_length]; exact List.length_pos_iff.2 hne)
    exact ⟨ad, e⟩
  obtain ⟨n, hn⟩ : ∃ n, bs.length = n + 1 := ⟨bs.length - 1, by have := List.length_pos_iff.2 hne; omega⟩
  have hx0 := at_byte hr0 0 (by omega)
  have hxn := at_byte hr0 n (by omega)
  have e0 : ad0.add 0 = ad0 := by unfold Addr.add; rw [if_pos rfl]
  rw [e0] at hx0
  rw [bytesI_length, hn] at hc0 ⊢
  have CR := Aside0.mk (trimRight_calls w ad0 n c0 _ hxn (hq n (by omega)) hc0 (by omega))
  have CL := Aside0.mk (trimLeft_calls w ad0 (n + 1) c0 _ hx0 (hq 0 (by omega)) (by omega) hc0)
  have hmf : ∀ (fn : Fn) (first cap : Array Value) (w : World), (Instr.makeFunc fn first cap).run Tryz.prog w = .ok (.func fn first cap) w := fun _ _ _ _ => rfl
  have hw1 : wrap64 (((n + 1 : Nat) : Int) - ((n + 1 : Nat) : Int)) = 0 := by unfold wrap64; omega
  clear hr0 hx0 hxn hq
  go_enter Tryz.func310, Tryz.ntmps310
  go_wp2_with (go_at_call 176; fail)
  refine CR.out.mono ?_
  rintro e w1 ⟨rfl, h2⟩
  rw [h2]
  clear h2
  go_wp2_with (go_at_call 177; fail)
  all_goals
    (try subst h)
    refine CL.out.mono ?_
    rintro e w1 ⟨rfl, h2⟩
    rw [h2]
    clear h2
    go_wp2

    go_ret3
    exact ⟨_, _, _, _, rfl, Below.refl _ _⟩
end Go.Proofs.YtonagpnnfhilgaaGreat.Hand

namespace Go.Proofs.YtonagpnnfhilgaaGreat.Hand
open Go.RowKit Go.Proofs.YtonagpnnfhilgaaGreatW.PrintWords Go.Proofs.YtonagpnnfhilgaaGreatW.PrintLast Go.Proofs.YtonagpnnfhilgaaGreatW.PrintMore
attribute [local go_sem] max2_int min2_int max_two min_two max_three min_three max_four min_four
set_option linter.unusedVariables false
set_option linter.unusedSimpArgs false

theorem ba_beq (a b : ByteArray) : (a == b) = decide (a.data.toList = b.data.toList) := by
  have : (a == b) = (a.data == b.data) := rfl
  rw [this]
  by_cases h : a.data.toList = b.data.toList
  · have := Array.ext' h; simp [this]
  · have h2 : a.data ≠ b.data := fun e => h (by rw [e])
    simpa [h] using h2

theorem last_ext (s : ByteArray) (x : List UInt8) (y : UInt8) (hs : s.data.toList = x ++ [y]) : s.size = x.length + 1 ∧ (s.extract x.length s.size).data.toList = [y] ∧ (s.extract 0 x.length).data.toList = x := by
  have hl : s.size = x.length + 1 := by
    have := congrArg List.length hs
    rw [Array.length_toList, List.length_append] at this
    exact this
  refine ⟨hl, ?_, ?_⟩
  · rw [ByteArray.data_extract, Array.toList_extract, hs, List.extract_eq_take_drop, hl, List.drop_left]; simp
  · rw [ByteArray.data_extract, Array.toList_extract, hs, List.extract_eq_take_drop, List.drop_zero, Nat.sub_zero, List.take_left]

theorem suffix_eq (s c : ByteArray) (x : List UInt8) (y : UInt8) (hs : s.data.toList = x ++ [y]) (hc : c.data.toList = [32]) : ((s.extract x.length (x.length + 1)).toList == c.toList) = decide (y = 32) := by
  obtain ⟨h1, h2, h3⟩ := last_ext s x y hs
  rw [← h1, ByteArray.toList_eq, ByteArray.toList_eq, h2, hc]
  by_cases e : y = 32
  · subst e; rfl
  · simp [e]

set_option maxHeartbeats 8000000 in
set_option maxRecDepth 100000 in
theorem hasSuffix_calls (s c : ByteArray) (x : List UInt8) (y : UInt8) (w : World) (hs : s.data.toList = x ++ [y]) (hc : c.data.toList = [32]) (h300 : x.length ≤ 300) :
    Calls Tryz.prog 174 #[.string s, .string c] w fun e w' => e = .returned (.bool (decide (y = 32))) ∧ w' = w := by
  obtain ⟨h1, h2, h3⟩ := last_ext s x y hs
  have hcs : c.size = 1 := by
    have := congrArg List.length hc
    rw [Array.length_toList] at this
    exact this
  have hge : decide ((s.size : Int) ≥ (c.size : Int)) = true := decide_eq_true (by omega)
  have hw : wrap64 ((s.size : Int) - (c.size : Int)) = (x.length : Int) := by unfold wrap64; omega
  have hq := Aside0.mk (suffix_eq s c x y hs hc)
  go_enter Tryz.func174, Tryz.ntmps174
  go_wp2
  go_ret
  exact ⟨by rw [hq.out]; rfl, rfl⟩

set_option maxHeartbeats 8000000 in
set_option maxRecDepth 100000 in
theorem trimSuffix_calls (s c : ByteArray) (x : List UInt8) (y : UInt8) (w : World) (hs : s.data.toList = x ++ [y]) (hc : c.data.toList = [32]) (h300 : x.length ≤ 300) :
    Calls Tryz.prog 175 #[.string s, .string c] w fun e w' => (∃ t : ByteArray, e = .returned (.string t) ∧ t.data.toList = if y = 32 then x else x ++ [y]) ∧ w' = w := by
  obtain ⟨h1, h2, h3⟩ := last_ext s x y hs
  have hcs : c.size = 1 := by
    have := congrArg List.length hc
    rw [Array.length_toList] at this
    exact this
  have hw : wrap64 ((s.size : Int) - (c.size : Int)) = (x.length : Int) := by unfold wrap64; omega
  have CS := Aside0.mk (hasSuffix_calls s c x y w hs hc h300)
  have HS := Aside0.mk hs
  have HX := Aside0.mk h3
  clear hs h2 h3
  go_enter Tryz.func175, Tryz.ntmps175
  go_wp2_with (go_at_call 174; fail)
  refine CS.out.mono ?_
  rintro e w1 ⟨rfl, h2⟩
  rw [h2]
  clear h2
  by_cases hy : y = 32
  · have hd : decide (y = 32) = true := decide_eq_true hy
    go_wp2
    go_ret
    exact ⟨⟨_, rfl, by simpa [hy] using HX.out⟩, rfl⟩
  · have hd : decide (y = 32) = false := decide_eq_false hy
    go_wp2
    go_ret
    exact ⟨⟨_, rfl, by simpa [hy] using HS.out⟩, rfl⟩
end Go.Proofs.YtonagpnnfhilgaaGreat.Hand
