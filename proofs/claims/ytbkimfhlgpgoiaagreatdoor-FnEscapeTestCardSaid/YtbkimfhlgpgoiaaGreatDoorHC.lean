/- Escape and the law itself: laws.FnEscapeTest returns true. Conditions: the four listed tables are as the program lays them. -/
import Derived.Test.YtbkimfhlgpgoiaaGreatDoorHB
import Derived.Test.YtbkimfhlgpgoiaaGreatDoorZ1
import Derived.Test.YtbkimfhlgpgoiaaGreatDoorHA
namespace Go.Proofs.YtbkimfhlgpgoiaaGreatDoor.Hand
open Go.RowKit Go.Proofs.YtbkimfhlgpgoiaaGreatDoorW.PrintWords Go.Proofs.YtbkimfhlgpgoiaaGreatDoorW.PrintLast Go.Proofs.YtbkimfhlgpgoiaaGreatDoorW.PrintMore
attribute [local go_sem] max2_int min2_int max_two min_two max_three min_three max_four min_four
set_option linter.unusedVariables false
set_option linter.unusedSimpArgs false

set_option maxHeartbeats 8000000 in
set_option maxRecDepth 100000 in
theorem check_calls (w : World) (pb : Nat) (mb : Nat) (r : Int) (hm : w.cell? ⟨pb, 6, none⟩ = some (.map (some mb))) (v : Value) (b : Bool) (hl : (Instr.lookup 89 (.map (some mb)) (.int .i32 r) true).run Tryz.prog w = .ok (.tuple #[v, .bool b]) w) :
    Calls Tryz.prog 71 #[.pointer (some ⟨pb, 0, none⟩), .int .i32 r] w fun e w' => e = .returned (.bool b) ∧ w' = w := by
  go_enter Tryz.func71, Tryz.ntmps71
  go_wp2
  go_ret
  exact ⟨rfl, rfl⟩

/-- Three bytes' own row, marked as a string's. -/
def mark3 (w : World) (cs : Array Value) : World := (w.alloc (.cells cs 5)).freeze ⟨w.heap.size, cs.size, none⟩ 1

theorem mark3_run (w : World) (cs : Array Value) (n : Nat) : (convert 22 22 (.slice (some ⟨w.heap.size, 0, none⟩) n n)).run Tryz.prog (w.alloc (.cells cs 5)) = .ok (.slice (some ⟨w.heap.size, 0, none⟩) n n) (mark3 w cs) := by
  have hsh : (w.alloc (.cells cs 5)).shape? w.heap.size = some (5, cs.size) := by simp [World.shape?, World.alloc, -World.alloc_eq]
  simp [convert, run_underlying Tryz.underlying22, run_underlying Tryz.underlying5, markStringish, hsh, mark3]

theorem mark3_cell (w : World) (cs : Array Value) (j : Nat) : (mark3 w cs).cell? ⟨w.heap.size, j, none⟩ = cs[j]? := by
  have h0 : (w.alloc (.cells cs 5)).heap[w.heap.size]? = some (.cells cs 5 (0, 0)) := by simp [World.alloc, -World.alloc_eq]
  unfold mark3 World.freeze
  rw [if_neg (by decide)]
  simp only [World.cell?, Array.getElem?_modify, if_true, h0, Option.map_some]
  rfl

theorem mark3_below (w : World) (cs : Array Value) : Below w.heap.size w (mark3 w cs) :=
  ⟨rfl, rfl, rfl, by simp [mark3, World.freeze], fun k hk => by
    have : w.heap.size ≠ k := by omega
    simp [mark3, World.freeze, World.alloc, -World.alloc_eq, Array.getElem?_modify, Array.getElem?_push, this, Ne.symm this]⟩

/-- An escaped text. -/
def EscOut (w : World) (v : Value) : Prop := ∃ A n c acc, v = .slice A n c ∧ ReadsInt w .u8 A n acc ∧ acc.length ≤ 900

theorem own_later {w w1 : World} {B e size n : Nat} {v : Value} {xs : List Value} (h : w.ownsRow B e size v n xs) (hb : Below w.heap.size w w1) : w1.ownsRow B e size v n xs :=
  own_move h fun g hg => by
    obtain ⟨cells, hc⟩ := own_typed h g hg
    exact hb.block _ (Array.getElem?_eq_some_iff.1 hc).1

set_option maxHeartbeats 8000000 in
set_option maxRecDepth 100000 in
theorem escape_calls (w : World) (pb : Nat) (hcv : Vx.Conv w pb) (hT : Lib.Utf8Tabs 2 3 w) (A0 : Option Addr) (c0 : Nat) (bs : List UInt8) (hr0 : Kd.C (Kd.int .u8) w A0 (bytesI bs).length (bytesI bs)) (hc0 : (bytesI bs).length ≤ c0) (h300 : bs.length ≤ 300) :
    Calls Tryz.prog 36 #[.pointer (some ⟨pb, 0, none⟩), .slice A0 (bytesI bs).length c0] w fun e w' => (∃ v, e = .returned v ∧ EscOut w' v) ∧ Below w.heap.size w w' := by
  obtain ⟨⟨m, hm9, hmd⟩, _⟩ := hcv w (Below.refl _ _)
  have hne : (m.toList == [100, 105, 115, 97, 98, 108, 101, 100]) = false := by
    rw [beq_eq_false_iff_ne]
    intro e
    exact hmd (by rw [← ByteArray.toList_eq]; exact e)
  have HR0 := Aside0.mk hr0
  have HC0 := Aside0.mk hc0
  have HT := Aside0.mk hT
  have HV := Aside0.mk hcv
  have H3 := Aside0.mk h300
  clear hr0 hc0 hT hcv h300
  obtain ⟨i0, hi0, hz0, hsz0, hby0⟩ := info_parts info5
  obtain ⟨W0, hmk, hown0, hg0⟩ := run_make_own (P := Tryz.prog) w w.heap.size 22 5 i0 _ 1 Tryz.underlying22 hi0 hz0 hsz0 .i64 .i64 (bytesI bs).length (by rw [hby0]; have := H3.out; rw [bytesI_length]; omega) (by have := H3.out; rw [bytesI_length]; unfold maxLen; omega) (Nat.le_refl _)
  go_enter Tryz.func36, Tryz.ntmps36
  go_wp2
  have HG := Aside0.mk ((Below.refl w.heap.size w).grown hg0 (Nat.le_refl _) (fun k hk => by cases hk))
  have HO0 := Aside0.mk hown0
  clear hg0 hown0 hmk
  go_loopg [5, 6] bs.length (fun gf v5 v6 wx => ∃ (i : Nat) (acc : List Int), v6 = .int .i64 (i : Int) ∧ Aside0 (wx.ownsRow w.heap.size 5 1 v5 acc.length (nums .u8 acc)) ∧ Aside0 (Below w.heap.size w wx) ∧ Aside0 (acc.length ≤ 3 * i ∧ i ≤ bs.length ∧ bs.length - i ≤ gf))
  case atStart => exact ⟨0, [], rfl, HO0, HG, ⟨Nat.le_refl _, Nat.zero_le _, by omega⟩⟩
  case round =>
    obtain ⟨i, acc, rfl, HO, HB, HP⟩ := hrel
    by_cases hlt : (i : Int) < ((bytesI bs).length : Int)
    · have hib : i < bs.length := by rw [bytesI_length] at hlt; omega
      obtain ⟨g', rfl⟩ : ∃ g', gk = g' + 1 := ⟨gk - 1, by have := HP.out; omega⟩
      have hw1 : wrap64 ((i : Int) + 1) = ((i + 1 : Nat) : Int) := by have := H3.out; unfold wrap64; omega
      obtain ⟨ad, ead, hxa⟩ := Kd.at_int (Kd.C_below HR0.out HB.out) (i : Int) (by omega) hlt
      cases ead
      simp only [Int.toNat_natCast] at hxa
      have c4b := decide_eq_true hlt
      have q1 := eq_true hlt
      have hFin : ∀ k, k ≤ 3 → acc.length + k ≤ 3 * (i + 1) ∧ i + 1 ≤ bs.length ∧ bs.length - (i + 1) ≤ g' := fun k hk => by have := HP.out; omega
      have HF := Aside0.mk hFin
      have HACC := Aside0.mk (show acc.length ≤ 900 by have := HP.out; have := H3.out; omega)
      clear hFin hlt
      by_cases d0 : rd (bytesI bs) (i : Int) = 0
      · have d0b : (rd (bytesI bs) (i : Int) == 0) = true := beq_iff_eq.mpr d0
        clear d0
        have hcv3 := mark3_run wr #[.int .u8 239, .int .u8 191, .int .u8 189] 3
        obtain ⟨W, hW⟩ : ∃ W, mark3 wr #[.int .u8 239, .int .u8 191, .int .u8 189] = W := ⟨_, rfl⟩
        rw [hW] at hcv3
        have hmb : Below wr.heap.size wr W := hW ▸ mark3_below _ _
        have hoW := own_later HO.out hmb
        have hcW : ∀ (j : Nat) (u : Value), [Value.int .u8 239, .int .u8 191, .int .u8 189][j]? = some u → W.cell? ((⟨wr.heap.size, 0, none⟩ : Addr).add j) = some u := fun j u hj => by
          rw [Addr.add_lit, Nat.zero_add, ← hW, mark3_cell]
          simpa using hj
        have HBW := Aside0.mk (below_step HB.out hmb)
        have HOW := Aside0.mk hoW
        have HCW := Aside0.mk hcW
        clear hmb hoW hcW hW
        go_wp2_with (at_builtin; refine wpList_append_own _ rfl (.tmp 30) (.tmp 32) 22 rfl w.heap.size 5 i0 (.int .u8 0) 1 1 Tryz.underlying22 hi0 hz0 hsz0 hby0 rfl (by decide) _ _ _ rfl HOW.out ⟨wr.heap.size, 0, none⟩ 3 3 [.int .u8 239, .int .u8 191, .int .u8 189] rfl rfl HCW.out (by intro u hu; simp at hu; rcases hu with rfl | rfl | rfl <;> rfl) (by have := HACC.out; unfold maxLen; omega) (by have := HACC.out; omega) HBW.out.size ?_; intro v1 w1 ho hg _)
        go_roundg g'
        case measure => omega
        case rel =>
          refine ⟨i + 1, acc ++ [239, 191, 189], ?_, ⟨?_⟩, ⟨?_⟩, ⟨by have := HF.out 3 (Nat.le_refl _); simp only [List.length_append, List.length_cons, List.length_nil]; omega⟩⟩
          · rw [hw1]
          · rw [nums_append, List.length_append]; exact ho
          · exact HBW.out.grown hg HBW.out.size (fun k hk => (own_base HOW.out k hk))
      · have d0b : (rd (bytesI bs) (i : Int) == 0) = false := beq_eq_false_iff_ne.mpr d0
        clear d0
        have q146 : i < (bytesI bs).length := by rw [bytesI_length]; exact hib
        have q147 : i ≤ (bytesI bs).length := Nat.le_of_lt q146
        have q148 : (bytesI bs).length ≤ c0 := HC0.out
        have hci : (c0 = i) = False := eq_false (by omega)
        have cD : Calls Tryz.prog 70 #[Value.slice (some (ad.add i)) ((bytesI bs).length - i) (c0 - i)] wr fun e w' => (∃ r k : Int, e = .returned (.tuple #[.int .i32 r, .int .i64 k]) ∧ 0 ≤ r ∧ r ≤ 1114111) ∧ Below wr.heap.size wr w' := by
          obtain ⟨b, o, e, hp⟩ := cells_of (Kd.C_below HR0.out HB.out) (by omega)
          cases e
          rw [add_lit (a := ⟨b, o, none⟩) rfl, bytesI_length, ← List.length_drop]
          refine decode_calls b (o + i) (c0 - i) (bs.drop i) wr (Utf8Tabs_below HT.out HB.out) fun j hj => ?_
          simp only [List.length_drop] at hj
          rw [Nat.add_assoc, hp (i + j) (by omega)]
          simp
        have CD := Aside0.mk cD
        clear cD
        go_wp2_with (go_at_call 70; fail)
        refine CD.out.mono ?_
        rintro e w1 ⟨⟨r, k, rfl, hr1, hr2⟩, hb⟩
        obtain ⟨⟨m1, hm19, hm1d⟩, mb, hm6, hlk⟩ := HV.out w1 (below_step HB.out hb)
        obtain ⟨vv, bb, hl⟩ := hlk r
        have CC := Aside0.mk (check_calls w1 pb mb r hm6 vv bb hl)
        have HO1 := Aside0.mk (own_later HO.out hb)
        have HB1 := Aside0.mk (below_step HB.out hb)
        have hxa1 : w1.cell? (ad.add i) = some (.int .u8 (rd (bytesI bs) (i : Int))) := (hb.cell (World.block_lt_of_cell? _ _ hxa)).trans hxa
        clear hm19 hm1d hm6 hlk hl hb CD hxa
        cases bb with
        | false =>
          go_wp2_with (go_at_call 71; fail)
          refine CC.out.mono ?_
          rintro e w2 ⟨rfl, rfl⟩
          go_wp2_with (first | (at_builtin; refine Kd.R_append (Kd.int .u8) (w0 := w) w.heap.size rfl (.tmp 52) (.tmp 57) 22 5 (.int .u8 0) 1 rfl Tryz.underlying22 info5 rfl (by decide) (by omega) u5 acc (rd (bytesI bs) (i : Int)) [.int .u8 (rd (bytesI bs) (i : Int))] (fun _ => True) (fun _ => False) rfl rfl ?aP (fun _ hk => hk.elim) ?aF ?aO ?aB ?aS ?aL ?_; (case aP => exact rfl); (case aB => exact HB1.out); (case aF => exact (fun _ _ => trivial)); (case aO => exact Kd.R_of_own (h1 := fun _ => rfl) HO1.out (fun _ _ => trivial)); (case aS => exact (below_size HB1.out)); (case aL => have := HACC.out; omega); intro v1 w1 ho hb hg hat))
          go_roundg g'
          case measure => omega
          case rel =>
            refine ⟨i + 1, acc ++ [rd (bytesI bs) (i : Int)], by rw [hw1], ⟨Kd.own_of_R ho⟩, ⟨hb⟩, ⟨by have := HF.out 1 (by omega); rw [List.length_append, List.length_singleton]; omega⟩⟩
        | true =>
          go_wp2_with (go_at_call 71; fail)
          refine CC.out.mono ?_
          rintro e w2 ⟨rfl, rfl⟩
          have hoA := own_later HO1.out (below_alloc (Below.refl w2.heap.size w2) (.cells #[.int .u8 7, .int .u8 (rd (bytesI bs) (i : Int))] 5))
          have hbA : Below w.heap.size w (w2.alloc (.cells #[.int .u8 7, .int .u8 (rd (bytesI bs) (i : Int))] 5)) := below_alloc HB1.out _
          have hcA : ∀ (j : Nat) (u : Value), [Value.int .u8 7, .int .u8 (rd (bytesI bs) (i : Int))][j]? = some u → (w2.alloc (.cells #[.int .u8 7, .int .u8 (rd (bytesI bs) (i : Int))] 5)).cell? ((⟨w2.heap.size, 0, none⟩ : Addr).add j) = some u := fun j u hj => by
            have h0 : (w2.alloc (.cells #[.int .u8 7, .int .u8 (rd (bytesI bs) (i : Int))] 5)).heap[w2.heap.size]? = some (.cells #[.int .u8 7, .int .u8 (rd (bytesI bs) (i : Int))] 5 (0, 0)) := by simp [World.alloc, -World.alloc_eq]
            rw [Addr.add_lit, Nat.zero_add]
            simp only [World.cell?, h0]
            rw [← hj]
            simp
          have HOA := Aside0.mk hoA
          have HBA := Aside0.mk hbA
          have HCA := Aside0.mk hcA
          clear hoA hbA hcA
          go_wp2_with (at_builtin; refine wpList_append_own _ rfl (.tmp 45) (.tmp 50) 22 rfl w.heap.size 5 i0 (.int .u8 0) 1 1 Tryz.underlying22 hi0 hz0 hsz0 hby0 rfl (by decide) _ _ _ rfl HOA.out ⟨w2.heap.size, 0, none⟩ 2 2 [.int .u8 7, .int .u8 (rd (bytesI bs) (i : Int))] rfl rfl HCA.out (by intro u hu; simp at hu; rcases hu with rfl | rfl <;> rfl) (by have := HACC.out; unfold maxLen; omega) (by have := HACC.out; omega) HBA.out.size ?_; intro v1 w3 ho hg _)
          go_roundg g'
          case measure => omega
          case rel =>
            refine ⟨i + 1, acc ++ [7, rd (bytesI bs) (i : Int)], ?_, ⟨?_⟩, ⟨?_⟩, ⟨by have := HF.out 2 (by omega); simp only [List.length_append, List.length_cons, List.length_nil]; omega⟩⟩
            · rw [hw1]
            · rw [nums_append, List.length_append]; exact ho
            · exact HBA.out.grown hg HBA.out.size (fun k hk => (own_base HOA.out k hk))
    · obtain ⟨A, c1, hv, hr⟩ := own_reads HO.out
      subst hv
      have c4b := decide_eq_false hlt
      have HRR := Aside0.mk hr
      have HL := Aside0.mk (show acc.length ≤ 900 by have := HP.out; have := H3.out; omega)
      clear hr
      go_wp2
      go_ret
      exact ⟨⟨_, rfl, A, acc.length, c1, acc, rfl, HRR.out, HL.out⟩, HB.out⟩
end Go.Proofs.YtbkimfhlgpgoiaaGreatDoor.Hand

namespace Go.Proofs.YtbkimfhlgpgoiaaGreatDoor.Hand
open Go.RowKit Go.Proofs.YtbkimfhlgpgoiaaGreatDoorW.PrintWords Go.Proofs.YtbkimfhlgpgoiaaGreatDoorW.PrintLast Go.Proofs.YtbkimfhlgpgoiaaGreatDoorW.PrintMore
set_option linter.unusedVariables false
set_option linter.unusedSimpArgs false

set_option maxHeartbeats 8000000 in
set_option maxRecDepth 100000 in
theorem zzEscape_calls (w : World) (pb : Nat) (hcv : Vx.Conv w pb) (hT : Lib.Utf8Tabs 2 3 w) (A0 : Option Addr) (c0 : Nat) (bs : List UInt8) (hr0 : Kd.C (Kd.int .u8) w A0 (bytesI bs).length (bytesI bs)) (hc0 : (bytesI bs).length ≤ c0) (h300 : bs.length ≤ 300) :
    Calls Tryz.prog 20 #[.pointer (some ⟨pb, 0, none⟩), .slice A0 (bytesI bs).length c0] w fun e w' => (∃ v, e = .returned v ∧ EscOut w' v) ∧ Below w.heap.size w w' := by
  have CE := Aside0.mk (escape_calls w pb hcv hT A0 c0 bs hr0 hc0 h300)
  clear hcv hT hr0 hc0 h300
  go_enter Tryz.func20, Tryz.ntmps20
  go_wp2_with (go_at_call 36; fail)
  refine CE.out.mono ?_
  rintro e w1 ⟨⟨v, rfl, hv⟩, hb⟩
  have HV := Aside0.mk hv
  clear hv
  go_wp2
  go_ret
  exact ⟨⟨_, rfl, HV.out⟩, hb⟩

theorem Conv_below {w w1 : World} {pb : Nat} (h : Vx.Conv w pb) (hb : Below w.heap.size w w1) : Vx.Conv w1 pb := fun w2 hb2 => h w2 (below_step hb hb2)

set_option maxHeartbeats 8000000 in
set_option maxRecDepth 100000 in
theorem impl_escape_calls (hG : Vx.GuardOk Tryz.prog 23 4) (hS : Vx.CallsOk Vx.V1 Tryz.prog (fun _ => []) Vx.quotedS) (s : ByteArray) (w : World) (hT : Lib.Utf8Tabs 2 3 w) (h300 : s.size ≤ 300) :
    Calls Tryz.prog 9 #[.string s] w fun e w' => (∃ t : ByteArray, e = .returned (.string t) ∧ t.size ≤ 900) ∧ Below w.heap.size w w' := by
  have CP := Aside0.mk (Vx.plain_calls hG hS w)
  have HT := Aside0.mk hT
  have H3 := Aside0.mk h300
  clear hG hS hT h300
  go_enter Tryz.func9, Tryz.ntmps9
  go_wp2_with (go_at_call 18; fail)
  refine CP.out.mono ?_
  rintro e w1 ⟨pb, rfl, hb, hcv⟩
  have hB := bytesWorld_below w1 s
  have hl : s.data.toList.length = s.size := by rw [Array.length_toList]; rfl
  have hsz : (bytesI s.data.toList).length = s.size := by rw [bytesI_length, hl]
  have CE := zzEscape_calls (Lib.bytesWorld w1 5 s) pb (Conv_below hcv hB) (Utf8Tabs_below (Utf8Tabs_below HT.out hb) hB) (some ⟨w1.heap.size, 0, none⟩) (grownCap w1 s.size 0 5) s.data.toList
    (bytes_C w1 s (by have := H3.out; omega)) (by rw [hsz]; exact grownCap_ge _ _ _ _) (by rw [hl]; exact H3.out)
  rw [hsz] at CE
  have CE := Aside0.mk CE
  have HB := Aside0.mk (below_step hb hB)
  have hcv9 : (convert 9 22 (.string s)).run Tryz.prog w1 = .ok (.slice (some ⟨w1.heap.size, 0, none⟩) s.size (grownCap w1 s.size 0 5)) (Lib.bytesWorld w1 5 s) :=
    Lib.run_convert_string_bytes w1 9 22 5 s Tryz.underlying9 Tryz.underlying22 Tryz.underlying5
  clear hb hcv hB hl hsz
  go_wp2_with (go_at_call 20; fail)
  refine CE.out.mono ?_
  rintro e w2 ⟨⟨v, rfl, A, n, c, acc, rfl, hr, hle⟩, hb⟩
  have hcv22 := string_of_reads (P := Tryz.prog) (c := c) Tryz.underlying22 Tryz.underlying5 Tryz.underlying9 hr
  have HZ := Aside0.mk (below_step HB.out hb)
  have HL := Aside0.mk hle
  clear hb hr hle
  go_wp2
  go_ret
  exact ⟨⟨_, rfl, by rw [strOfNums_size]; exact HL.out⟩, HZ.out⟩
end Go.Proofs.YtbkimfhlgpgoiaaGreatDoor.Hand

namespace Go.Proofs.YtbkimfhlgpgoiaaGreatDoor.Hand
open Go.RowKit Go.Proofs.YtbkimfhlgpgoiaaGreatDoorW.PrintWords Go.Proofs.YtbkimfhlgpgoiaaGreatDoorW.PrintLast Go.Proofs.YtbkimfhlgpgoiaaGreatDoorW.PrintMore
set_option linter.unusedVariables false
set_option linter.unusedSimpArgs false

set_option maxHeartbeats 8000000 in
set_option maxRecDepth 100000 in
theorem punct_calls (c : Int) (w : World) : Calls Tryz.prog 12 #[.int .u8 c] w fun e w' => e = .returned (.bool (punct c)) ∧ w' = w := by
  obtain ⟨r, hr⟩ : ∃ r, punct c = r := ⟨_, rfl⟩
  rw [hr]
  have key : ∀ (b1 b2 b3 b4 b5 b6 b7 b8 : Bool), decide (33 ≤ c) = b1 → decide (c ≤ 47) = b2 → decide (58 ≤ c) = b3 → decide (c ≤ 64) = b4 → decide (91 ≤ c) = b5 → decide (c ≤ 96) = b6 → decide (123 ≤ c) = b7 → decide (c ≤ 126) = b8 →
      ((b1 && b2) || (b3 && b4) || (b5 && b6) || (b7 && b8)) = r := by
    intro b1 b2 b3 b4 b5 b6 b7 b8 h1 h2 h3 h4 h5 h6 h7 h8
    rw [← hr, ← h1, ← h2, ← h3, ← h4, ← h5, ← h6, ← h7, ← h8]; rfl
  have HK := Aside0.mk key
  clear key hr
  go_enter Tryz.func12, Tryz.ntmps12
  rcases (show c < 33 ∨ (33 ≤ c ∧ c ≤ 47) ∨ (47 < c ∧ c < 58) ∨ (58 ≤ c ∧ c ≤ 64) ∨ (64 < c ∧ c < 91) ∨ (91 ≤ c ∧ c ≤ 96) ∨ (96 < c ∧ c < 123) ∨ (123 ≤ c ∧ c ≤ 126) ∨ 126 < c by omega) with h | h | h | h | h | h | h | h | h
  · have d1 : decide (33 ≤ c) = false := decide_eq_false (by omega)
    have d2 : decide (c ≤ 47) = true := decide_eq_true (by omega)
    have d3 : decide (58 ≤ c) = false := decide_eq_false (by omega)
    have d4 : decide (c ≤ 64) = true := decide_eq_true (by omega)
    have d5 : decide (91 ≤ c) = false := decide_eq_false (by omega)
    have d6 : decide (c ≤ 96) = true := decide_eq_true (by omega)
    have d7 : decide (123 ≤ c) = false := decide_eq_false (by omega)
    have d8 : decide (c ≤ 126) = true := decide_eq_true (by omega)
    clear h
    have e := HK.out _ _ _ _ _ _ _ _ d1 d2 d3 d4 d5 d6 d7 d8
    simp at e
    subst e
    go_wp2
    go_ret
    exact ⟨rfl, rfl⟩
  · have d1 : decide (33 ≤ c) = true := decide_eq_true (by omega)
    have d2 : decide (c ≤ 47) = true := decide_eq_true (by omega)
    have d3 : decide (58 ≤ c) = false := decide_eq_false (by omega)
    have d4 : decide (c ≤ 64) = true := decide_eq_true (by omega)
    have d5 : decide (91 ≤ c) = false := decide_eq_false (by omega)
    have d6 : decide (c ≤ 96) = true := decide_eq_true (by omega)
    have d7 : decide (123 ≤ c) = false := decide_eq_false (by omega)
    have d8 : decide (c ≤ 126) = true := decide_eq_true (by omega)
    clear h
    have e := HK.out _ _ _ _ _ _ _ _ d1 d2 d3 d4 d5 d6 d7 d8
    simp at e
    subst e
    go_wp2
    go_ret
    exact ⟨rfl, rfl⟩
  · have d1 : decide (33 ≤ c) = true := decide_eq_true (by omega)
    have d2 : decide (c ≤ 47) = false := decide_eq_false (by omega)
    have d3 : decide (58 ≤ c) = false := decide_eq_false (by omega)
    have d4 : decide (c ≤ 64) = true := decide_eq_true (by omega)
    have d5 : decide (91 ≤ c) = false := decide_eq_false (by omega)
    have d6 : decide (c ≤ 96) = true := decide_eq_true (by omega)
    have d7 : decide (123 ≤ c) = false := decide_eq_false (by omega)
    have d8 : decide (c ≤ 126) = true := decide_eq_true (by omega)
    clear h
    have e := HK.out _ _ _ _ _ _ _ _ d1 d2 d3 d4 d5 d6 d7 d8
    simp at e
    subst e
    go_wp2
    go_ret
    exact ⟨rfl, rfl⟩
  · have d1 : decide (33 ≤ c) = true := decide_eq_true (by omega)
    have d2 : decide (c ≤ 47) = false := decide_eq_false (by omega)
    have d3 : decide (58 ≤ c) = true := decide_eq_true (by omega)
    have d4 : decide (c ≤ 64) = true := decide_eq_true (by omega)
    have d5 : decide (91 ≤ c) = false := decide_eq_false (by omega)
    have d6 : decide (c ≤ 96) = true := decide_eq_true (by omega)
    have d7 : decide (123 ≤ c) = false := decide_eq_false (by omega)
    have d8 : decide (c ≤ 126) = true := decide_eq_true (by omega)
    clear h
    have e := HK.out _ _ _ _ _ _ _ _ d1 d2 d3 d4 d5 d6 d7 d8
    simp at e
    subst e
    go_wp2
    go_ret
    exact ⟨rfl, rfl⟩
  · have d1 : decide (33 ≤ c) = true := decide_eq_true (by omega)
    have d2 : decide (c ≤ 47) = false := decide_eq_false (by omega)
    have d3 : decide (58 ≤ c) = true := decide_eq_true (by omega)
    have d4 : decide (c ≤ 64) = false := decide_eq_false (by omega)
    have d5 : decide (91 ≤ c) = false := decide_eq_false (by omega)
    have d6 : decide (c ≤ 96) = true := decide_eq_true (by omega)
    have d7 : decide (123 ≤ c) = false := decide_eq_false (by omega)
    have d8 : decide (c ≤ 126) = true := decide_eq_true (by omega)
    clear h
    have e := HK.out _ _ _ _ _ _ _ _ d1 d2 d3 d4 d5 d6 d7 d8
    simp at e
    subst e
    go_wp2
    go_ret
    exact ⟨rfl, rfl⟩
  · have d1 : decide (33 ≤ c) = true := decide_eq_true (by omega)
    have d2 : decide (c ≤ 47) = false := decide_eq_false (by omega)
    have d3 : decide (58 ≤ c) = true := decide_eq_true (by omega)
    have d4 : decide (c ≤ 64) = false := decide_eq_false (by omega)
    have d5 : decide (91 ≤ c) = true := decide_eq_true (by omega)
    have d6 : decide (c ≤ 96) = true := decide_eq_true (by omega)
    have d7 : decide (123 ≤ c) = false := decide_eq_false (by omega)
    have d8 : decide (c ≤ 126) = true := decide_eq_true (by omega)
    clear h
    have e := HK.out _ _ _ _ _ _ _ _ d1 d2 d3 d4 d5 d6 d7 d8
    simp at e
    subst e
    go_wp2
    go_ret
    exact ⟨rfl, rfl⟩
  · have d1 : decide (33 ≤ c) = true := decide_eq_true (by omega)
    have d2 : decide (c ≤ 47) = false := decide_eq_false (by omega)
    have d3 : decide (58 ≤ c) = true := decide_eq_true (by omega)
    have d4 : decide (c ≤ 64) = false := decide_eq_false (by omega)
    have d5 : decide (91 ≤ c) = true := decide_eq_true (by omega)
    have d6 : decide (c ≤ 96) = false := decide_eq_false (by omega)
    have d7 : decide (123 ≤ c) = false := decide_eq_false (by omega)
    have d8 : decide (c ≤ 126) = true := decide_eq_true (by omega)
    clear h
    have e := HK.out _ _ _ _ _ _ _ _ d1 d2 d3 d4 d5 d6 d7 d8
    simp at e
    subst e
    go_wp2
    go_ret
    exact ⟨rfl, rfl⟩
  · have d1 : decide (33 ≤ c) = true := decide_eq_true (by omega)
    have d2 : decide (c ≤ 47) = false := decide_eq_false (by omega)
    have d3 : decide (58 ≤ c) = true := decide_eq_true (by omega)
    have d4 : decide (c ≤ 64) = false := decide_eq_false (by omega)
    have d5 : decide (91 ≤ c) = true := decide_eq_true (by omega)
    have d6 : decide (c ≤ 96) = false := decide_eq_false (by omega)
    have d7 : decide (123 ≤ c) = true := decide_eq_true (by omega)
    have d8 : decide (c ≤ 126) = true := decide_eq_true (by omega)
    clear h
    have e := HK.out _ _ _ _ _ _ _ _ d1 d2 d3 d4 d5 d6 d7 d8
    simp at e
    subst e
    go_wp2
    go_ret
    exact ⟨rfl, rfl⟩
  · have d1 : decide (33 ≤ c) = true := decide_eq_true (by omega)
    have d2 : decide (c ≤ 47) = false := decide_eq_false (by omega)
    have d3 : decide (58 ≤ c) = true := decide_eq_true (by omega)
    have d4 : decide (c ≤ 64) = false := decide_eq_false (by omega)
    have d5 : decide (91 ≤ c) = true := decide_eq_true (by omega)
    have d6 : decide (c ≤ 96) = false := decide_eq_false (by omega)
    have d7 : decide (123 ≤ c) = true := decide_eq_true (by omega)
    have d8 : decide (c ≤ 126) = false := decide_eq_false (by omega)
    clear h
    have e := HK.out _ _ _ _ _ _ _ _ d1 d2 d3 d4 d5 d6 d7 d8
    simp at e
    subst e
    go_wp2
    go_ret
    exact ⟨rfl, rfl⟩
end Go.Proofs.YtbkimfhlgpgoiaaGreatDoor.Hand

namespace Go.Proofs.YtbkimfhlgpgoiaaGreatDoor.Hand
open Go.RowKit Go.Proofs.YtbkimfhlgpgoiaaGreatDoorW.PrintWords Go.Proofs.YtbkimfhlgpgoiaaGreatDoorW.PrintLast Go.Proofs.YtbkimfhlgpgoiaaGreatDoorW.PrintMore
set_option linter.unusedVariables false
set_option linter.unusedSimpArgs false

theorem guard_ok : Vx.GuardOk Tryz.prog 23 4 := guarded_calls
theorem sums_ok : Vx.CallsOk Vx.V1 Tryz.prog (fun _ => []) Vx.quotedS := Vx.quoted_ok quoted_calls

theorem esc_calls (s : ByteArray) (w : World) (hT : Lib.Utf8Tabs 2 3 w) (h300 : s.size ≤ 300) :
    Calls Tryz.prog 9 #[.string s] w fun e w' => (∃ t : ByteArray, e = .returned (.string t) ∧ t.size ≤ 900) ∧ Below w.heap.size w w' :=
  impl_escape_calls guard_ok sums_ok s w hT h300
theorem live_calls (w : World) : Calls Tryz.prog 10 #[] w fun e w' => e = .returned (.bool true) ∧ Below w.heap.size w w' := Vx.lives_calls guard_ok sums_ok w

theorem kind_range {kind kk : Int} (h : wrap64 ((IntKind.u64.wrap kind).tmod 11) = kk) : 0 ≤ kk ∧ kk ≤ 10 := by
  have h1 : 0 ≤ IntKind.u64.wrap kind := by simp [IntKind.wrap, IntKind.bits, IntKind.signed]; omega
  have h2 : (IntKind.u64.wrap kind).tmod 11 = (IntKind.u64.wrap kind) % 11 := Int.tmod_eq_emod_of_nonneg h1
  rw [h2] at h
  unfold wrap64 at h
  omega

theorem rd_at (t : ByteArray) (i : Nat) (h : i < t.size) : rd (bytesI t.data.toList) (i : Int) = ((t[i]'h).toNat : Int) := by
  have hl : t.data.toList.length = t.size := by rw [Array.length_toList]; rfl
  simp [rd, bytesI, hl, h]
  rfl

theorem at_range {t : ByteArray} {a n p : Int} (h0 : ¬ t.size = 0) (h9 : t.size ≤ 900) (hn : IntKind.u64.wrap ↑t.size = n) (hp : wrap64 ((IntKind.u64.wrap a).tmod n) = p) : n = t.size ∧ 0 ≤ p ∧ p < t.size := by
  have h1 : 0 ≤ IntKind.u64.wrap a := by simp [IntKind.wrap, IntKind.bits, IntKind.signed]; omega
  have h3 : n = t.size := by
    rw [← hn]
    simp [IntKind.wrap, IntKind.bits, IntKind.signed]
    omega
  have h2 : (IntKind.u64.wrap a).tmod n = (IntKind.u64.wrap a) % n := Int.tmod_eq_emod_of_nonneg h1
  rw [h2] at hp
  have h4 : 0 ≤ (IntKind.u64.wrap a) % n := Int.emod_nonneg _ (by omega)
  have h5 : (IntKind.u64.wrap a) % n < n := Int.emod_lt_of_pos _ (by omega)
  unfold wrap64 at hp
  omega

set_option maxHeartbeats 8000000 in
set_option maxRecDepth 100000 in
theorem law_calls (kind a : Int) (s : ByteArray) (w : World) (hT : Lib.Utf8Tabs 2 3 w) (hW : Lib.WhiteTab 0 w) (hD : DigitOk w) (ha : -9223372036854775808 ≤ a ∧ a ≤ 9223372036854775807) (hk : -9223372036854775808 ≤ kind ∧ kind ≤ 9223372036854775807) :
    Calls Tryz.prog 4 #[.int .i64 kind, .string s, .int .i64 a] w fun e w' => e = .returned (.bool true) ∧ Below w.heap.size w w' := by
  have HT := Aside0.mk hT
  have HW := Aside0.mk hW
  have HD := Aside0.mk hD
  have HA := Aside0.mk ha
  have HK := Aside0.mk hk
  clear hT hW hD ha hk
  by_cases hm : (2147483647 : Int) < (s.size : Int)
  · have hmb : decide ((2147483647 : Int) < (s.size : Int)) = true := decide_eq_true hm
    go_enter Tryz.func4, Tryz.ntmps4
    go_wp2
    go_ret
    exact ⟨rfl, Below.refl _ _⟩
  · have hmb : decide ((2147483647 : Int) < (s.size : Int)) = false := decide_eq_false hm
    have CC := Aside0.mk (cut_calls s w (by omega))
    clear hm
    go_enter Tryz.func4, Tryz.ntmps4
    go_wp2_with (go_at_call 6; fail)
    refine CC.out.mono ?_
    rintro e w1 ⟨⟨t1, rfl, ht1⟩, hb1⟩
    have HT1 := Aside0.mk (Utf8Tabs_below HT.out hb1)
    have HB1 := Aside0.mk hb1
    have CE := Aside0.mk (esc_calls t1 w1 HT1.out ht1)
    clear hb1 ht1
    obtain ⟨kk, hkk⟩ : ∃ kk, wrap64 ((IntKind.u64.wrap kind).tmod 11) = kk := ⟨_, rfl⟩
    have HKK := Aside0.mk (kind_range hkk)
    rw [hkk]
    clear hkk
    go_wp2_with (go_at_call 9; fail)
    refine CE.out.mono ?_
    rintro e w2 ⟨⟨t, rfl, ht⟩, hb2⟩
    have HB2 := Aside0.mk (below_step HB1.out hb2)
    have HTS := Aside0.mk ht
    have CL := Aside0.mk (live_calls w2)
    clear hb2 ht
    by_cases h0 : t.size = 0
    · have ht0 : t = ⟨#[]⟩ := by
        cases t with
        | mk d =>
          congr 1
          exact Array.eq_empty_of_size_eq_zero h0
      subst ht0
      go_wp2_with (go_at_call 10; fail)
      refine CL.out.mono ?_
      rintro e w3 ⟨rfl, hb3⟩
      have HB3 := Aside0.mk (below_step HB2.out hb3)
      clear hb3
      go_wp2
      go_ret
      exact ⟨rfl, HB3.out⟩
    · have hle : t.toList.isEmpty = false := by
        rw [ByteArray.toList_eq]
        rw [List.isEmpty_eq_false_iff]
        intro e
        have := congrArg List.length e
        rw [Array.length_toList] at this
        exact h0 this
      have hle2 := hle
      obtain ⟨n, hn⟩ : ∃ n, IntKind.u64.wrap ↑t.size = n := ⟨_, rfl⟩
      obtain ⟨p, hp⟩ : ∃ p, wrap64 ((IntKind.u64.wrap a).tmod n) = p := ⟨_, rfl⟩
      obtain ⟨hn1, hp1, hp2⟩ := at_range h0 HTS.out hn hp
      have hn0 : (n = 0) = False := eq_false (by omega)
      have CT := test_calls kk p t w2 HKK.out.1 HKK.out.2 (Utf8Tabs_below HT.out HB2.out) (WhiteTab_below HW.out HB2.out) (fun r w1 g1 g2 g3 => HD.out r w1 g1 g2 (below_step HB2.out g3)) (by have := HTS.out; omega) hp1 hp2
      have CT := Aside0.mk CT
      have HPP := Aside0.mk (And.intro hp1 hp2)
      have HP := Aside0.mk hp
      have HN := Aside0.mk hn
      clear hn1 hp1 hp2 h0 hp
      go_wp2_with (go_at_call 11; fail)
      rw [HP.out]
      refine CT.out.mono ?_
      rintro e w3 ⟨⟨r, rfl, hr⟩, hb3⟩
      have HB3 := Aside0.mk (below_step HB2.out hb3)
      have CL3 := Aside0.mk (live_calls w3)
      obtain ⟨i, rfl⟩ := Int.eq_ofNat_of_zero_le HPP.out.1
      have hps : i < t.size := by have := HPP.out.2; omega
      have hrd : rd (bytesI t.data.toList) (i : Int) = ((t[i]'hps).toNat : Int) := rd_at t i hps
      have hpp := eq_true hps
      have HR := Aside0.mk hr
      clear hr hb3 CL HN HP
      by_cases c7 : ((t[i]'hps).toNat : Int) = 7
      · have c7b : (((t[i]'hps).toNat : Int) == 7) = true := beq_iff_eq.mpr c7
        clear c7
        go_wp2_with (go_at_call 10; fail)
        refine CL3.out.mono ?_
        rintro e w4 ⟨rfl, hb4⟩
        have HB4 := Aside0.mk (below_step HB3.out hb4)
        clear hb4
        go_wp2
        go_ret
        exact ⟨rfl, HB4.out⟩
      · have c7b : (((t[i]'hps).toNat : Int) == 7) = false := beq_eq_false_iff_ne.mpr c7
        clear c7
        by_cases cr : r = -1
        · subst cr
          go_wp2_with (go_at_call 10; fail)
          refine CL3.out.mono ?_
          rintro e w4 ⟨rfl, hb4⟩
          have HB4 := Aside0.mk (below_step HB3.out hb4)
          clear hb4
          go_wp2
          go_ret
          exact ⟨rfl, HB4.out⟩
        · have crb : (r == -1) = false := beq_eq_false_iff_ne.mpr cr
          obtain ⟨hr1, hr2, hr3⟩ : 1 ≤ r ∧ r ≤ (t.size : Int) - (i : Int) ∧ punct (((t[i]'hps).toNat : Int)) = true := by
            rcases HR.out with h | ⟨h1, h2, h3⟩
            · exact absurd h cr
            · rw [hrd] at h3
              have hl : t.data.toList.length = t.size := by rw [Array.length_toList]; rfl
              rw [hl] at h2
              exact ⟨h1, h2, h3⟩
          have g1 : decide (1 ≤ r) = true := decide_eq_true hr1
          have hwx : wrap64 ((t.size : Int) - (i : Int)) = (t.size : Int) - (i : Int) := by have := HTS.out; unfold wrap64; omega
          have g2 : decide (r ≤ (t.size : Int) - (i : Int)) = true := decide_eq_true hr2
          have CPU := punct_calls (((t[i]'hps).toNat : Int)) w3
          rw [hr3] at CPU
          have CPU := Aside0.mk CPU
          clear hr1 hr2 hr3 cr
          go_wp2_with (go_at_call 12; fail)
          refine CPU.out.mono ?_
          rintro e w4 ⟨rfl, rfl⟩
          go_wp2_with (go_at_call 10; fail)
          refine CL3.out.mono ?_
          rintro e w5 ⟨rfl, hb4⟩
          have HB4 := Aside0.mk (below_step HB3.out hb4)
          clear hb4
          go_wp2
          go_ret
          exact ⟨rfl, HB4.out⟩
end Go.Proofs.YtbkimfhlgpgoiaaGreatDoor.Hand
