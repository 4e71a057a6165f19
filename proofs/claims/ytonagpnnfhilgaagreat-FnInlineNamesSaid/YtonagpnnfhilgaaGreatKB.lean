/- Walks: bytes.Buffer further, zzEntities, escapeContent, unEscapeContent, TrimConsecutiveNewlines leave texts of a kind as they are. Conditions: those in each statement. -/
import Derived.Test.YtonagpnnfhilgaaGreatKA
import Derived.Laws.MakeOwn
import Derived.Deep.LoopGhost
namespace Go.Proofs.YtonagpnnfhilgaaGreat.Hand
open Go.RowKit Go.Proofs.YtonagpnnfhilgaaGreatW.PrintWords Go.Proofs.YtonagpnnfhilgaaGreatW.PrintLast Go.Proofs.YtonagpnnfhilgaaGreatW.PrintMore
attribute [local go_sem] max2_int min2_int max_two min_two max_three min_three max_four min_four
set_option linter.unusedVariables false
set_option linter.unusedSimpArgs false


theorem set_mid (cells : Array Value) (l : Nat) (v : Value) (h : l < cells.size) : cells.setIfInBounds l v = (cells.toList.take l ++ [v] ++ cells.toList.drop (l + 1)).toArray := by
  apply Array.ext'
  simp only [Array.toList_setIfInBounds, List.toList_toArray]
  rw [List.set_eq_take_append_cons_drop, if_pos (by simpa using h)]
  simp

set_option maxHeartbeats 8000000 in
set_option maxRecDepth 100000 in
theorem writeByte_grow (w : World) (b T g l c : Nat) (lr : Int) (cur : Array Value) (x : UInt8) (bs : List UInt8) (hb : w.heap[b]? = some (.cells #[.slice (some ⟨g, 0, none⟩) l c, .int .i64 0, .int .i8 lr] T (0, 0))) (hg : w.heap[g]? = some (.cells cur 5 (0, 0)))
    (hbl : bs.length = l) (hgb : g ≠ b) (hcs : cur.size = c) (hl1 : 1 ≤ l) (hlc : l ≤ c) (hno : c < l + 1) (hlim : l + 1 ≤ 1000000000) (htk : cur.toList.take l = bc bs) :
    Calls Tryz.prog 350 #[.pointer (some ⟨b, 0, none⟩), .int .u8 (x.toNat : Int)] w fun e w' => e = .returned (.nilIface) ∧ Wrote w w' b T (.slice (some ⟨g, 0, none⟩) l c) (bs ++ [x]) := by
  obtain ⟨c0, c1, c2, f0, f1, f2⟩ := cell_at hb
  have h1 := Lib.heap_setCell_same (i := 2) hb (.int .i8 0)
  obtain ⟨w1, hw1⟩ : ∃ w1, w.setCell ⟨b, 2, none⟩ (.int .i8 0) = w1 := ⟨_, rfl⟩
  rw [hw1] at h1
  have hb1 : w1.heap[b]? = some (.cells #[.slice (some ⟨g, 0, none⟩) l c, .int .i64 0, .int .i8 0] T (0, 0)) := h1
  have hg1 : w1.heap[g]? = some (.cells cur 5 (0, 0)) := by rw [← hw1, Below.heap_setCell _ _ _ _ hgb]; exact hg
  have g1 : w.grownBy w1 (some b) := by rw [← hw1]; exact Lib.grownBy_setCell w b 2 _
  obtain ⟨d0, d1, d2, e0, e1, e2⟩ := cell_at hb1
  have CT := Aside0.mk (tryGrow_not w1 b _ l c 1 d0 hno hlc (by unfold maxLen; omega) (by omega))
  have CG := Aside0.mk (grow_row w1 b T g l c 1 0 cur hb1 hg1 hcs hl1 hlc (by omega) hno hlim (by rw [htk]; intro v hv; simp [bc] at hv; obtain ⟨a, _, rfl⟩ := hv; rfl))
  have HB := Aside0.mk hb
  have HH := Aside0.mk (And.intro hbl (And.intro hlc (And.intro hlim htk)))
  have HG1 := Aside0.mk g1
  have HNO := Aside0.mk hno
  clear hb hg hbl hgb hcs hl1 hlc hno hlim htk hb1 hg1 g1 h1
  go_enter Tryz.func350, Tryz.ntmps350
  go_wp2_with (go_at_call 357; fail)
  refine CT.out.mono ?_
  rintro e w2 ⟨rfl, h2⟩
  rw [h2]
  clear h2
  go_wp2_with (go_at_call 358; fail)
  refine CG.out.mono ?_
  rintro e w3 ⟨rfl, cap, cells, hb3, hg3, hcs3, htk3, hle3, hcm3, hgr3⟩
  obtain ⟨x0, x1, x2, y0, y1, y2⟩ := cell_at hb3
  have HB3 := Aside0.mk hb3
  have HG3 := Aside0.mk hg3
  have HX := Aside0.mk (And.intro hcs3 (And.intro htk3 (And.intro hle3 (And.intro hcm3 hgr3))))
  have p1 : l ≤ l + 1 := Nat.le_add_right _ _
  have p2 : l ≤ cap := by omega
  have hcl : (cap = l) = False := eq_false (by have := HNO.out; have := HH.out; omega)
  have HSZ := Aside0.mk (show w1.heap.size = w.heap.size by rw [← hw1]; simp [World.setCell])
  obtain ⟨u, gc⟩ : ∃ u, w3.cell? ⟨w1.heap.size, l, none⟩ = some u := ⟨cells[l]'(by omega), by simp [World.cell?, HG3.out]⟩
  have gf : w3.frozen? ⟨w1.heap.size, l, none⟩ = false := by simp [World.frozen?, HG3.out]
  have p3 : l < l + 1 := Nat.lt_succ_self _
  clear hb3 hg3 hcs3 htk3 hle3 hcm3 hgr3 c0 c1 c2 f0 f1 f2 d0 d1 d2 e0 e1 e2
  go_wp2
  go_ret
  refine ⟨rfl, ?_⟩
  obtain ⟨hcs3, htk3, hle3, hcm3, hgr3⟩ := HX.out
  obtain ⟨hbl, hlc, hlim, htk⟩ := HH.out
  have hgr := Lib.grownBy_trans HG1.out hgr3
  have hfin := wrote_end (v := .slice (some ⟨g, 0, none⟩) l c) (new := [x]) HB3.out HG3.out hbl rfl (by have := HNO.out; omega) (by have := Lib.lt_of_heap HB.out; have := HSZ.out; omega) hcs3 hle3 hcm3 (htk3.trans htk) hgr.os hgr.tape hgr.output hgr.size (fun k hk hkb _ => hgr.block k hk (fun e => hkb (by injection e))) (.inr (by rw [HSZ.out]; exact Nat.le_refl _))
  rw [setCell_eq_setRow w3 w1.heap.size l _ _ _ _ HG3.out, set_mid _ _ _ (by omega)]
  exact hfin

set_option maxHeartbeats 8000000 in
set_option maxRecDepth 100000 in
theorem writeByte_fits (w : World) (b T g l c : Nat) (lr : Int) (cells : Array Value) (x : UInt8) (bs : List UInt8) (hb : w.heap[b]? = some (.cells #[.slice (some ⟨g, 0, none⟩) l c, .int .i64 0, .int .i8 lr] T (0, 0))) (hg : w.heap[g]? = some (.cells cells 5 (0, 0)))
    (hbl : bs.length = l) (hgb : g ≠ b) (hcs3 : cells.size = c) (hl1 : 1 ≤ l) (hn1 : 1 ≤ 1) (hle3 : l + 1 ≤ c) (hcm : c ≤ maxLen) (htk : cells.toList.take l = bc bs) :
    Calls Tryz.prog 350 #[.pointer (some ⟨b, 0, none⟩), .int .u8 (x.toNat : Int)] w fun e w' => e = .returned (.nilIface) ∧ Wrote w w' b T (.slice (some ⟨g, 0, none⟩) l c) (bs ++ [x]) := by
  obtain ⟨c0, c1, c2, f0, f1, f2⟩ := cell_at hb
  have h1 := Lib.heap_setCell_same (i := 2) hb (.int .i8 0)
  obtain ⟨w1, hw1⟩ : ∃ w1, w.setCell ⟨b, 2, none⟩ (.int .i8 0) = w1 := ⟨_, rfl⟩
  rw [hw1] at h1
  have hb1 : w1.heap[b]? = some (.cells #[.slice (some ⟨g, 0, none⟩) l c, .int .i64 0, .int .i8 0] T (0, 0)) := h1
  have hg1 : w1.heap[g]? = some (.cells cells 5 (0, 0)) := by rw [← hw1, Below.heap_setCell _ _ _ _ hgb]; exact hg
  have g1 : w.grownBy w1 (some b) := by rw [← hw1]; exact Lib.grownBy_setCell w b 2 _
  obtain ⟨d0, d1, d2, e0, e1, e2⟩ := cell_at hb1
  have CT := Aside0.mk (tryGrow_fits w1 b _ l c 1 d0 e0 hle3 hcm)
  have h2 := Lib.heap_setCell_same (i := 0) hb1 (.slice (some ⟨g, 0, none⟩) (l + 1) c)
  obtain ⟨w3, hw3⟩ : ∃ w3, w1.setCell ⟨b, 0, none⟩ (.slice (some ⟨g, 0, none⟩) (l + 1) c) = w3 := ⟨_, rfl⟩
  rw [hw3] at h2 CT
  have hb3 : w3.heap[b]? = some (.cells #[.slice (some ⟨g, 0, none⟩) (l + 1) c, .int .i64 0, .int .i8 0] T (0, 0)) := h2
  have hg3 : w3.heap[g]? = some (.cells cells 5 (0, 0)) := by rw [← hw3, Below.heap_setCell _ _ _ _ hgb]; exact hg1
  have hgr : w.grownBy w3 (some b) := by rw [← hw3]; exact Lib.grownBy_setB g1 0 _
  obtain ⟨x0, x1, x2, y0, y1, y2⟩ := cell_at hb3
  have HB3 := Aside0.mk hb3
  have HG3 := Aside0.mk hg3
  have p1 : l ≤ l + 1 := Nat.le_add_right _ _
  have p2 : l ≤ c := by omega
  have hcl : (c = l) = False := eq_false (by omega)
  obtain ⟨u, gc⟩ : ∃ u, w3.cell? ⟨g, l, none⟩ = some u := ⟨cells[l]'(by omega), by simp [World.cell?, HG3.out]⟩
  have gf : w3.frozen? ⟨g, l, none⟩ = false := by simp [World.frozen?, HG3.out]
  have p3 : l < l + 1 := Nat.lt_succ_self _
  have HX := Aside0.mk (And.intro hbl (And.intro hgb (And.intro hcs3 (And.intro hl1 (And.intro hle3 (And.intro hcm (And.intro htk hgr)))))))
  clear hb hg hbl hgb hcs3 hl1 hn1 hle3 hcm htk hb1 hg1 g1 h1 h2 hb3 hg3 hgr
  go_enter Tryz.func350, Tryz.ntmps350
  go_wp2_with (go_at_call 357; fail)
  refine CT.out.mono ?_
  rintro e w2 ⟨rfl, h2⟩
  rw [h2]
  clear h2
  go_wp2
  go_ret
  refine ⟨rfl, ?_⟩
  obtain ⟨hbl, hgb, hcs3, hl1, hle3, hcm, htk, hgr⟩ := HX.out
  have hfin := wrote_end (v := .slice (some ⟨g, 0, none⟩) l c) (new := [x]) HB3.out HG3.out hbl rfl (by omega) hgb hcs3 hle3 hcm htk hgr.os hgr.tape hgr.output hgr.size (fun k hk hkb _ => hgr.block k hk (fun e => hkb (by injection e))) (.inl rfl)
  rw [setCell_eq_setRow w3 g l _ _ _ _ HG3.out, set_mid _ _ _ (by omega)]
  exact hfin

set_option maxHeartbeats 8000000 in
set_option maxRecDepth 100000 in
theorem writeByte_nil (w : World) (b T : Nat) (lr : Int) (x : UInt8) (hb : w.heap[b]? = some (.cells #[.slice none 0 0, .int .i64 0, .int .i8 lr] T (0, 0))) (hn1 : 1 ≤ 1) (h64 : 1 ≤ 64) :
    Calls Tryz.prog 350 #[.pointer (some ⟨b, 0, none⟩), .int .u8 (x.toNat : Int)] w fun e w' => e = .returned (.nilIface) ∧ Wrote w w' b T (.slice none 0 0) ([x]) := by
  obtain ⟨c0, c1, c2, f0, f1, f2⟩ := cell_at hb
  have h1 := Lib.heap_setCell_same (i := 2) hb (.int .i8 0)
  obtain ⟨w1, hw1⟩ : ∃ w1, w.setCell ⟨b, 2, none⟩ (.int .i8 0) = w1 := ⟨_, rfl⟩
  rw [hw1] at h1
  have hb1 : w1.heap[b]? = some (.cells #[.slice none 0 0, .int .i64 0, .int .i8 0] T (0, 0)) := h1
  have g1 : w.grownBy w1 (some b) := by rw [← hw1]; exact Lib.grownBy_setCell w b 2 _
  obtain ⟨d0, d1, d2, e0, e1, e2⟩ := cell_at hb1
  have CT := Aside0.mk (tryGrow_not w1 b none 0 0 1 d0 (by omega) (Nat.le_refl _) (by unfold maxLen; omega) (by omega))
  have CG := Aside0.mk (grow_nil_small w1 b T 1 0 hb1 hn1 h64)
  have HB := Aside0.mk hb
  have HG1 := Aside0.mk g1
  have HNO := Aside0.mk hn1
  clear hb hb1 g1 h1 hn1 h64
  go_enter Tryz.func350, Tryz.ntmps350
  go_wp2_with (go_at_call 357; fail)
  refine CT.out.mono ?_
  rintro e w2 ⟨rfl, h2⟩
  rw [h2]
  clear h2
  go_wp2_with (go_at_call 358; fail)
  refine CG.out.mono ?_
  rintro e w3 ⟨rfl, cap, cells, hb3, hg3, hcs3, htk3, hle3, hcm3, hgr3⟩
  rw [Nat.zero_add] at hb3
  obtain ⟨x0, x1, x2, y0, y1, y2⟩ := cell_at hb3
  have HB3 := Aside0.mk hb3
  have HG3 := Aside0.mk hg3
  have HX := Aside0.mk (And.intro hcs3 (And.intro hle3 (And.intro hcm3 hgr3)))
  have p2 : 1 ≤ cap := by omega
  have hcl : (cap = 0) = False := eq_false (by have := HNO.out; omega)
  have HSZ := Aside0.mk (show w1.heap.size = w.heap.size by rw [← hw1]; simp [World.setCell])
  have l0 : ∃ l, l = 0 := ⟨0, rfl⟩
  obtain ⟨u, gc⟩ : ∃ u, w3.cell? ⟨w1.heap.size, 0, none⟩ = some u := ⟨cells[0]'(by omega), by simp [World.cell?, HG3.out]⟩
  have gf : w3.frozen? ⟨w1.heap.size, 0, none⟩ = false := by simp [World.frozen?, HG3.out]
  have p3 : 0 < 0 + 1 := Nat.lt_succ_self _
  clear hb3 hg3 hcs3 htk3 hle3 hcm3 hgr3 c0 c1 c2 f0 f1 f2 d0 d1 d2 e0 e1 e2
  go_wp2
  go_ret
  refine ⟨rfl, ?_⟩
  obtain ⟨hcs3, hle3, hcm3, hgr3⟩ := HX.out
  have hgr := Lib.grownBy_trans HG1.out hgr3
  have hfin := wrote_end (v := .slice none 0 0) (l := 0) (n := 1) (bs := []) (new := [x]) (by rw [Nat.zero_add]; exact HB3.out) HG3.out rfl rfl (by have := HNO.out; omega) (by have := Lib.lt_of_heap HB.out; have := HSZ.out; omega) hcs3 hle3 hcm3 rfl hgr.os hgr.tape hgr.output hgr.size (fun k hk hkb _ => hgr.block k hk (fun e => hkb (by injection e))) (.inr (by rw [HSZ.out]; exact Nat.le_refl _))
  rw [setCell_eq_setRow w3 w1.heap.size 0 _ _ _ _ HG3.out, set_mid _ _ _ (by omega)]
  exact hfin

set_option maxHeartbeats 8000000 in
set_option maxRecDepth 100000 in
/-- WriteRune at a rune of ASCII: WriteByte. -/
theorem writeRune_of (w : World) (b : Nat) (x : UInt8) (hx : x.toNat < 128) (R : World → Prop) (h : Calls Tryz.prog 350 #[.pointer (some ⟨b, 0, none⟩), .int .u8 (x.toNat : Int)] w fun e w' => e = .returned .nilIface ∧ R w') :
    Calls Tryz.prog 330 #[.pointer (some ⟨b, 0, none⟩), .int .i32 (x.toNat : Int)] w fun e w' => e = .returned (.tuple #[.int .i64 1, .nilIface]) ∧ R w' := by
  have H := Aside0.mk h
  have q1 : IntKind.u32.wrap (x.toNat : Int) = (x.toNat : Int) := by simp [IntKind.wrap, IntKind.bits, IntKind.signed]; omega
  have q2 : IntKind.u8.wrap (x.toNat : Int) = (x.toNat : Int) := by simp [IntKind.wrap, IntKind.bits, IntKind.signed]; omega
  have q3 : decide ((x.toNat : Int) < 128) = true := decide_eq_true (by omega)
  clear h
  go_enter Tryz.func330, Tryz.ntmps330
  go_wp2_with (go_at_call 350; fail)
  refine H.out.mono ?_
  rintro e w2 ⟨rfl, hR⟩
  have HR := Aside0.mk hR
  clear hR
  go_wp2
  go_ret2
  exact ⟨rfl, HR.out⟩

/-- What a write gives, whatever the buffer holds. -/
theorem wrote_nil {w : World} {b T : Nat} {v : Value} {bs : List UInt8} (h : BufAt w b T bs v) : (bs = [] ∧ v = .slice none 0 0 ∧ ∃ lr, w.heap[b]? = some (.cells #[.slice none 0 0, .int .i64 0, .int .i8 lr] T (0, 0))) ∨
    ∃ lr g cap cur, v = .slice (some ⟨g, 0, none⟩) bs.length cap ∧ g ≠ b ∧ w.heap[b]? = some (.cells #[.slice (some ⟨g, 0, none⟩) bs.length cap, .int .i64 0, .int .i8 lr] T (0, 0)) ∧ w.heap[g]? = some (.cells cur 5 (0, 0)) ∧ cur.size = cap ∧ 1 ≤ bs.length ∧ bs.length ≤ cap ∧ cap ≤ maxLen ∧ cur.toList.take bs.length = bc bs := by
  obtain ⟨⟨lr, h0⟩, h1 | ⟨h1, g, cap, cur, h2, h3, h4, h5, h6, h7, h8⟩⟩ := h
  · obtain ⟨rfl, rfl⟩ := h1
    exact .inl ⟨rfl, rfl, lr, h0⟩
  · subst h2
    refine .inr ⟨lr, g, cap, cur, rfl, h3, h0, h4, h5, ?_, h6, h7, h8⟩
    cases bs with
    | nil => exact absurd rfl h1
    | cons a l => simp

theorem writeByte_calls (w : World) (b T : Nat) (x : UInt8) (bs : List UInt8) (v : Value) (h : BufAt w b T bs v) (hlim : bs.length + 1 ≤ 1000000000) :
    Calls Tryz.prog 350 #[.pointer (some ⟨b, 0, none⟩), .int .u8 (x.toNat : Int)] w fun e w' => e = .returned .nilIface ∧ Wrote w w' b T v (bs ++ [x]) := by
  rcases wrote_nil h with ⟨rfl, rfl, lr, h0⟩ | ⟨lr, g, cap, cur, rfl, h3, h0, h4, h5, h6, h7, h8, h9⟩
  · exact writeByte_nil w b T lr x h0 (by omega) (by omega)
  · by_cases hf : bs.length + 1 ≤ cap
    · exact writeByte_fits w b T g bs.length cap lr cur x bs h0 h4 rfl h3 h5 h6 (by omega) hf h8 h9
    · exact writeByte_grow w b T g bs.length cap lr cur x bs h0 h4 rfl h3 h5 h6 h7 (by omega) hlim h9

theorem writeRune_calls (w : World) (b T : Nat) (x : UInt8) (hx : x.toNat < 128) (bs : List UInt8) (v : Value) (h : BufAt w b T bs v) (hlim : bs.length + 1 ≤ 1000000000) :
    Calls Tryz.prog 330 #[.pointer (some ⟨b, 0, none⟩), .int .i32 (x.toNat : Int)] w fun e w' => e = .returned (.tuple #[.int .i64 1, .nilIface]) ∧ Wrote w w' b T v (bs ++ [x]) :=
  writeRune_of w b x hx _ (writeByte_calls w b T x bs v h hlim)

theorem writeString_calls (w : World) (b T : Nat) (s : ByteArray) (bs : List UInt8) (v : Value) (h : BufAt w b T bs v) (hs : 1 ≤ s.size) (h64 : s.size ≤ 64) (hlim : bs.length + s.size ≤ 1000000000) :
    Calls Tryz.prog 339 #[.pointer (some ⟨b, 0, none⟩), .string s] w fun e w' => e = .returned (.tuple #[.int .i64 s.size, .nilIface]) ∧ Wrote w w' b T v (bs ++ s.data.toList) := by
  rcases wrote_nil h with ⟨rfl, rfl, lr, h0⟩ | ⟨lr, g, cap, cur, rfl, h3, h0, h4, h5, h6, h7, h8, h9⟩
  · exact writeString_nil w b T lr s h0 hs h64
  · by_cases hf : bs.length + s.size ≤ cap
    · exact writeString_fits w b T g bs.length cap lr cur s bs h0 h4 rfl h3 h5 h6 hs hf h8 h9
    · exact writeString_grow w b T g bs.length cap lr cur s bs h0 h4 rfl h3 h5 h6 h7 (by omega) hlim h9

theorem write_calls (w : World) (b T : Nat) (ad : Addr) (sc m : Nat) (new : List UInt8) (hsrc : ∀ (j : Nat) (v : Value), (bc new)[j]? = some v → w.cell? (ad.add j) = some v) (hab : ad.block ≠ b) (hnm : new.length = m) (bs : List UInt8) (v : Value) (h : BufAt w b T bs v) (hs : 1 ≤ m) (h64 : m ≤ 64) (hlim : bs.length + m ≤ 1000000000) :
    Calls Tryz.prog 329 #[.pointer (some ⟨b, 0, none⟩), .slice (some ad) m sc] w fun e w' => e = .returned (.tuple #[.int .i64 m, .nilIface]) ∧ Wrote w w' b T v (bs ++ new) := by
  rcases wrote_nil h with ⟨rfl, rfl, lr, h0⟩ | ⟨lr, g, cap, cur, rfl, h3, h0, h4, h5, h6, h7, h8, h9⟩
  · exact write_nil w b T lr ad sc m new ⟨hsrc, hab, hnm⟩ h0 hs h64
  · by_cases hf : bs.length + m ≤ cap
    · exact write_fits w b T g bs.length cap lr cur ad sc m new ⟨hsrc, hab, hnm⟩ bs h0 h4 rfl h3 h5 h6 hs hf h8 h9
    · exact write_grow w b T g bs.length cap lr cur ad sc m new ⟨hsrc, hab, hnm⟩ bs h0 h4 rfl h3 h5 h6 h7 (by omega) hlim h9
end Go.Proofs.YtonagpnnfhilgaaGreat.Hand

namespace Go.Proofs.YtonagpnnfhilgaaGreat.Hand
open Go.RowKit Go.Proofs.YtonagpnnfhilgaaGreatW.PrintWords Go.Proofs.YtonagpnnfhilgaaGreatW.PrintLast Go.Proofs.YtonagpnnfhilgaaGreatW.PrintMore
attribute [local go_sem] max2_int min2_int max_two min_two max_three min_three max_four min_four
set_option linter.unusedVariables false
set_option linter.unusedSimpArgs false

theorem strOf_bytesI (s : ByteArray) : strOfNums (bytesI s.data.toList) = s := by
  cases s with
  | mk d =>
    unfold strOfNums bytesI
    congr 1
    apply Array.ext'
    simp only [List.map_map]
    have : ((fun n : Int => UInt8.ofNat n.toNat) ∘ fun c : UInt8 => (c.toNat : Int)) = id := by funext c; simp
    rw [this, List.map_id]

theorem bytesI_snoc (s : ByteArray) (i : Nat) (h : i < s.size) : bytesI (s.data.toList.take (i + 1)) = bytesI (s.data.toList.take i) ++ [((s[i]'h).toNat : Int)] := by
  have hl : i < s.data.toList.length := by rw [Array.length_toList]; exact h
  rw [List.take_succ_eq_append_getElem hl, bytesI, bytesI, List.map_append]
  simp
  rfl

theorem bytesI_take_length (s : ByteArray) (i : Nat) (h : i ≤ s.size) : (bytesI (s.data.toList.take i)).length = i := by
  rw [bytesI_length, List.length_take, Array.length_toList]
  exact Nat.min_eq_left h

set_option maxHeartbeats 8000000 in
set_option maxRecDepth 100000 in
theorem entities_calls (s : ByteArray) (w : World) (h3 : s.size ≤ 1000) (hs : ∀ (i : Nat) (h : i < s.size), (s[i]'h).toNat ≠ 60 ∧ (s[i]'h).toNat ≠ 62) :
    Calls Tryz.prog 157 #[.string s] w fun e w' => e = .returned (.string s) ∧ Below w.heap.size w w' := by
  obtain ⟨i0, hi0, hz0, hsz0, hby0⟩ := info_parts info5
  obtain ⟨W0, hmk, hown0, hg0⟩ := run_make_own (P := Tryz.prog) w w.heap.size 47 5 i0 _ 1 Tryz.underlying47 hi0 hz0 hsz0 .i64 .i64 s.size (by rw [hby0]; omega) (by unfold maxLen; omega) (Nat.le_refl _)
  have HS := Aside0.mk hs
  have H3 := Aside0.mk h3
  clear hs h3
  go_enter Tryz.func157, Tryz.ntmps157
  go_wp2
  have HG := Aside0.mk ((Below.refl w.heap.size w).grown hg0 (Nat.le_refl _) (fun k hk => by cases hk))
  have HO0 := Aside0.mk hown0
  clear hg0 hown0 hmk
  go_loopg [3, 4] s.size (fun gf v3 v4 wx => ∃ (i : Nat), v4 = .int .i64 (i : Int) ∧ Aside0 (wx.ownsRow w.heap.size 5 1 v3 (bytesI (s.data.toList.take i)).length (nums .u8 (bytesI (s.data.toList.take i)))) ∧ Aside0 (Below w.heap.size w wx) ∧ Aside0 (i ≤ s.size ∧ s.size - i ≤ gf))
  case atStart => exact ⟨0, rfl, HO0, HG, ⟨Nat.zero_le _, by omega⟩⟩
  case round =>
    obtain ⟨i, rfl, HO, HB, HP⟩ := hrel
    by_cases hlt : i < s.size
    · obtain ⟨g', rfl⟩ : ∃ g', gk = g' + 1 := ⟨gk - 1, by have := HP.out; omega⟩
      have hpp := eq_true hlt
      have c4b : decide ((i : Int) < (s.size : Int)) = true := decide_eq_true (by omega)
      have hw1 : wrap64 ((i : Int) + 1) = ((i + 1 : Nat) : Int) := by have := H3.out; unfold wrap64; omega
      have d1 : (((s[i]'hlt).toNat : Int) == 60) = false := beq_eq_false_iff_ne.mpr (by have := (HS.out i hlt).1; omega)
      have d2 : (((s[i]'hlt).toNat : Int) == 62) = false := beq_eq_false_iff_ne.mpr (by have := (HS.out i hlt).2; omega)
      obtain ⟨acc, hacc⟩ : ∃ acc, bytesI (s.data.toList.take i) = acc := ⟨_, rfl⟩
      rw [hacc] at HO
      have HACC := Aside0.mk hacc
      have HL := Aside0.mk (show acc.length ≤ 1000 by rw [← hacc, bytesI_take_length s i (by omega)]; have := H3.out; omega)
      clear hacc
      go_wp2_with (first | (at_builtin; refine Kd.R_append (Kd.int .u8) (w0 := w) w.heap.size rfl (.tmp 17) (.tmp 21) 47 5 (.int .u8 0) 1 rfl Tryz.underlying47 info5 rfl (by decide) (by omega) u3 acc ((s[i]'hlt).toNat : Int) [.int .u8 ((s[i]'hlt).toNat : Int)] (fun _ => True) (fun _ => False) rfl rfl ?aP (fun _ hk => hk.elim) ?aF ?aO ?aB ?aS ?aL ?_; (case aP => exact rfl); (case aB => exact HB.out); (case aF => exact (fun _ _ => trivial)); (case aO => exact Kd.R_of_own (h1 := fun _ => rfl) HO.out (fun _ _ => trivial)); (case aS => exact (below_size HB.out)); (case aL => have := HL.out; omega); intro v1 w1 ho hb hg hat))
      go_roundg g'
      case measure => omega
      case rel =>
        refine ⟨i + 1, by rw [hw1], ⟨?_⟩, ⟨hb⟩, ⟨by omega, by have := HP.out; omega⟩⟩
        rw [bytesI_snoc s i hlt, HACC.out]
        exact Kd.own_of_R ho
    · have c4b : decide ((i : Int) < (s.size : Int)) = false := decide_eq_false (by omega)
      have hi : i = s.size := by have := HP.out; omega
      have hall : bytesI (s.data.toList.take i) = bytesI s.data.toList := by rw [hi, List.take_of_length_le (by rw [Array.length_toList]; exact Nat.le_refl _)]
      rw [hall] at HO
      obtain ⟨A, c1, hv, hr⟩ := own_reads HO.out
      subst hv
      have hcv := string_of_reads (P := Tryz.prog) (c := c1) Tryz.underlying47 Tryz.underlying5 Tryz.underlying9 hr
      rw [strOf_bytesI] at hcv
      clear hr hall
      go_wp2
      go_ret
      exact ⟨rfl, HB.out⟩
end Go.Proofs.YtonagpnnfhilgaaGreat.Hand

namespace Go.Proofs.YtonagpnnfhilgaaGreat.Hand
open Go.RowKit Go.Proofs.YtonagpnnfhilgaaGreatW.PrintWords Go.Proofs.YtonagpnnfhilgaaGreatW.PrintLast Go.Proofs.YtonagpnnfhilgaaGreatW.PrintMore
attribute [local go_sem] max2_int min2_int max_two min_two max_three min_three max_four min_four
set_option linter.unusedVariables false
set_option linter.unusedSimpArgs false

set_option maxHeartbeats 8000000 in
set_option maxRecDepth 100000 in
/-- DecodeRune at a byte of ASCII. -/
theorem decode_ascii (ad : Addr) (n c : Nat) (x : Int) (w : World) (hn : 1 ≤ n) (hx : w.cell? ad = some (.int .u8 x)) (h0 : 0 ≤ x) (h1 : x < 128) :
    Calls Tryz.prog 170 #[.slice (some ad) n c] w fun e w' => e = .returned (.tuple #[.int .i32 x, .int .i64 1]) ∧ w' = w := by
  have h2 : (0 : Int) < (n : Int) := by omega
  have h3 : decide ((0 : Int) < (n : Int)) = true := decide_eq_true h2
  have h3b := eq_true h2
  have h4 : decide (x < 128) = true := decide_eq_true h1
  have h5 : wrap32 x = x := by unfold wrap32; omega
  have ha : w.cell? (ad.add 0) = some (.int .u8 x) := hx
  clear h2
  go_enter Tryz.func170, Tryz.ntmps170
  go_wp2
  go_loop [8] (fun v8 => v8 = .int .i64 0) (fun _ => 0)
  case atStart => rfl
  case round =>
    subst hrel
    go_wp2
    go_ret2
    exact ⟨by simp [h5], rfl⟩

set_option maxHeartbeats 8000000 in
set_option maxRecDepth 100000 in
theorem check_calls (w : World) (pb : Nat) (mb : Nat) (r : Int) (hm : w.cell? ⟨pb, 6, none⟩ = some (.map (some mb))) (v : Value) (b : Bool) (hl : (Instr.lookup 96 (.map (some mb)) (.int .i32 r) true).run Tryz.prog w = .ok (.tuple #[v, .bool b]) w) :
    Calls Tryz.prog 468 #[.pointer (some ⟨pb, 0, none⟩), .int .i32 r] w fun e w' => e = .returned (.bool b) ∧ w' = w := by
  go_enter Tryz.func468, Tryz.ntmps468
  go_wp2
  go_ret
  exact ⟨rfl, rfl⟩

/-- A converter whose map of marks does not hold some runes. -/
def Quiet (w : World) (pb : Nat) (q : Int → Prop) : Prop := ∀ w1, Below w.heap.size w w1 →
  (∃ m : ByteArray, w1.cell? ⟨pb, 9, none⟩ = some (.string m) ∧ m.data.toList ≠ [100, 105, 115, 97, 98, 108, 101, 100]) ∧
  ∃ mb, w1.cell? ⟨pb, 6, none⟩ = some (.map (some mb)) ∧ ∀ r : Int, q r → ∃ v, (Instr.lookup 96 (.map (some mb)) (.int .i32 r) true).run Tryz.prog w1 = .ok (.tuple #[v, .bool false]) w1

theorem own_later {w w1 : World} {B e size n : Nat} {v : Value} {xs : List Value} (h : w.ownsRow B e size v n xs) (hb : Below w.heap.size w w1) : w1.ownsRow B e size v n xs :=
  own_move h fun g hg => by
    obtain ⟨cells, hc⟩ := own_typed h g hg
    exact hb.block _ (Array.getElem?_eq_some_iff.1 hc).1

theorem bytesI_snocL (bs : List UInt8) (i : Nat) (h : i < bs.length) : bytesI (bs.take (i + 1)) = bytesI (bs.take i) ++ [rd (bytesI bs) (i : Int)] := by
  rw [List.take_succ_eq_append_getElem h, bytesI, bytesI, List.map_append]
  simp [rd, bytesI, h]

/-- A slice of bytes, fresh. -/
def FreshB (w w' : World) (v : Value) (bs : List UInt8) : Prop := ∃ A n c, v = .slice A n c ∧ w'.ownsRow w.heap.size 5 1 v bs.length (nums .u8 (bytesI bs))

set_option maxHeartbeats 8000000 in
set_option maxRecDepth 100000 in
/-- escapeContent leaves a text of quiet ASCII as it is. -/
theorem escape_calls (w : World) (pb : Nat) (q : Int → Prop) (hcv : Quiet w pb q) (A0 : Option Addr) (c0 : Nat) (bs : List UInt8) (hr0 : Kd.C (Kd.int .u8) w A0 (bytesI bs).length (bytesI bs)) (hc0 : (bytesI bs).length ≤ c0) (h300 : bs.length ≤ 300)
    (hq : ∀ (i : Nat) (h : i < bs.length), q (bs[i].toNat : Int) ∧ bs[i].toNat ≠ 0 ∧ bs[i].toNat < 128) :
    Calls Tryz.prog 480 #[.pointer (some ⟨pb, 0, none⟩), .slice A0 (bytesI bs).length c0] w fun e w' => (∃ v, e = .returned v ∧ w'.ownsRow w.heap.size 5 1 v bs.length (nums .u8 (bytesI bs))) ∧ Below w.heap.size w w' := by
  obtain ⟨⟨m, hm9, hmd⟩, _⟩ := hcv w (Below.refl _ _)
  have hne : (m.toList == [100, 105, 115, 97, 98, 108, 101, 100]) = false := by
    rw [beq_eq_false_iff_ne]
    intro e
    exact hmd (by rw [← ByteArray.toList_eq]; exact e)
  have HR0 := Aside0.mk hr0
  have HC0 := Aside0.mk hc0
  have HV := Aside0.mk hcv
  have H3 := Aside0.mk h300
  have HQ := Aside0.mk hq
  clear hr0 hc0 hcv h300 hq
  obtain ⟨i0, hi0, hz0, hsz0, hby0⟩ := info_parts info5
  obtain ⟨W0, hmk, hown0, hg0⟩ := run_make_own (P := Tryz.prog) w w.heap.size 47 5 i0 _ 1 Tryz.underlying47 hi0 hz0 hsz0 .i64 .i64 (bytesI bs).length (by rw [hby0]; have := H3.out; rw [bytesI_length]; omega) (by have := H3.out; rw [bytesI_length]; unfold maxLen; omega) (Nat.le_refl _)
  go_enter Tryz.func480, Tryz.ntmps480
  go_wp2
  have HG := Aside0.mk ((Below.refl w.heap.size w).grown hg0 (Nat.le_refl _) (fun k hk => by cases hk))
  have HO0 := Aside0.mk hown0
  clear hg0 hown0 hmk
  go_loopg [5, 6] bs.length (fun gf v5 v6 wx => ∃ (i : Nat), v6 = .int .i64 (i : Int) ∧ Aside0 (wx.ownsRow w.heap.size 5 1 v5 (bytesI (bs.take i)).length (nums .u8 (bytesI (bs.take i)))) ∧ Aside0 (Below w.heap.size w wx) ∧ Aside0 (i ≤ bs.length ∧ bs.length - i ≤ gf))
  case atStart => exact ⟨0, rfl, HO0, HG, ⟨Nat.zero_le _, by omega⟩⟩
  case round =>
    obtain ⟨i, rfl, HO, HB, HP⟩ := hrel
    by_cases hlt : (i : Int) < ((bytesI bs).length : Int)
    · have hib : i < bs.length := by rw [bytesI_length] at hlt; omega
      obtain ⟨g', rfl⟩ : ∃ g', gk = g' + 1 := ⟨gk - 1, by have := HP.out; omega⟩
      have hw1 : wrap64 ((i : Int) + 1) = ((i + 1 : Nat) : Int) := by have := H3.out; unfold wrap64; omega
      obtain ⟨ad, ead, hxa⟩ := Kd.at_int (Kd.C_below HR0.out HB.out) (i : Int) (by omega) hlt
      cases ead
      simp only [Int.toNat_natCast] at hxa
      have c4b := decide_eq_true hlt
      have q1 := eq_true hlt
      obtain ⟨hq1, hq2, hq3⟩ := HQ.out i hib
      have hrd : rd (bytesI bs) (i : Int) = (bs[i].toNat : Int) := by simp [rd, bytesI, hib]
      have d0b : (rd (bytesI bs) (i : Int) == 0) = false := beq_eq_false_iff_ne.mpr (by rw [hrd]; omega)
      have q146 : i < (bytesI bs).length := by rw [bytesI_length]; exact hib
      have q147 : i ≤ (bytesI bs).length := Nat.le_of_lt q146
      have q148 : (bytesI bs).length ≤ c0 := HC0.out
      have hci : (c0 = i) = False := eq_false (by omega)
      have CD := Aside0.mk (decode_ascii (ad.add i) ((bytesI bs).length - i) (c0 - i) (rd (bytesI bs) (i : Int)) wr (by omega) hxa (by rw [hrd]; omega) (by rw [hrd]; omega))
      obtain ⟨⟨m1, hm19, hm1d⟩, mb, hm6, hlk⟩ := HV.out wr HB.out
      obtain ⟨vv, hl⟩ := hlk (rd (bytesI bs) (i : Int)) (by rw [hrd]; exact hq1)
      have CC := Aside0.mk (check_calls wr pb mb (rd (bytesI bs) (i : Int)) hm6 vv false hl)
      obtain ⟨acc, hacc⟩ : ∃ acc, bytesI (bs.take i) = acc := ⟨_, rfl⟩
      rw [hacc] at HO
      have HACC := Aside0.mk hacc
      have HL := Aside0.mk (show acc.length ≤ 1000 by rw [← hacc, bytesI_length, List.length_take]; have := H3.out; omega)
      clear hacc hm19 hm1d hm6 hlk hl hq1 hq2 hq3 hrd
      go_wp2_with (go_at_call 170; fail)
      refine CD.out.mono ?_
      rintro e w1 ⟨rfl, h2⟩
      rw [h2]
      clear h2
      go_wp2_with (go_at_call 468; fail)
      refine CC.out.mono ?_
      rintro e w1 ⟨rfl, h2⟩
      rw [h2]
      clear h2
      go_wp2_with (first | (at_builtin; refine Kd.R_append (Kd.int .u8) (w0 := w) w.heap.size rfl (.tmp 52) (.tmp 57) 47 5 (.int .u8 0) 1 rfl Tryz.underlying47 info5 rfl (by decide) (by omega) u5 acc (rd (bytesI bs) (i : Int)) [.int .u8 (rd (bytesI bs) (i : Int))] (fun _ => True) (fun _ => False) rfl rfl ?aP (fun _ hk => hk.elim) ?aF ?aO ?aB ?aS ?aL ?_; (case aP => exact rfl); (case aB => exact HB.out); (case aF => exact (fun _ _ => trivial)); (case aO => exact Kd.R_of_own (h1 := fun _ => rfl) HO.out (fun _ _ => trivial)); (case aS => exact (below_size HB.out)); (case aL => have := HL.out; omega); intro v1 w1 ho hb hg hat))
      go_roundg g'
      case measure => omega
      case rel =>
        refine ⟨i + 1, by rw [hw1], ⟨?_⟩, ⟨hb⟩, ⟨by omega, by have := HP.out; omega⟩⟩
        rw [bytesI_snocL bs i hib, HACC.out]
        exact Kd.own_of_R ho
    · have hi : i = bs.length := by have := HP.out; rw [bytesI_length] at hlt; omega
      have c4b := decide_eq_false hlt
      have hall : bytesI (bs.take i) = bytesI bs := by rw [hi, List.take_of_length_le (Nat.le_refl _)]
      rw [hall, bytesI_length] at HO
      obtain ⟨A, c1, hv, hr⟩ := own_reads HO.out
      subst hv
      have c4n : (i < (bytesI bs).length) = False := eq_false (by omega)
      clear hlt hall hr hi
      go_wp2
      go_ret
      exact ⟨⟨_, rfl, HO.out⟩, HB.out⟩
end Go.Proofs.YtonagpnnfhilgaaGreat.Hand

namespace Go.Proofs.YtonagpnnfhilgaaGreat.Hand
open Go.RowKit Go.Proofs.YtonagpnnfhilgaaGreatW.PrintWords Go.Proofs.YtonagpnnfhilgaaGreatW.PrintLast Go.Proofs.YtonagpnnfhilgaaGreatW.PrintMore
attribute [local go_sem] max2_int min2_int max_two min_two max_three min_three max_four min_four
set_option linter.unusedVariables false
set_option linter.unusedSimpArgs false

theorem cell_new (w : World) (v : Value) (e k : Nat) (hk : w.heap.size = k) : (w.alloc (.cells #[v] e)).cell? ⟨k, 0, none⟩ = some v := by
  subst hk
  simp [World.cell?, World.alloc, -World.alloc_eq]

set_option maxHeartbeats 8000000 in
set_option maxRecDepth 100000 in
/-- unEscapeContent leaves a text without marks as it is. -/
theorem unescape_calls (w : World) (pb : Nat) (q : Int → Prop) (hcv : Quiet w pb q) (A0 : Option Addr) (c0 : Nat) (bs : List UInt8) (hr0 : Kd.C (Kd.int .u8) w A0 (bytesI bs).length (bytesI bs)) (hc0 : (bytesI bs).length ≤ c0) (h300 : bs.length ≤ 300)
    (hq : ∀ (i : Nat) (h : i < bs.length), bs[i].toNat ≠ 7) :
    Calls Tryz.prog 483 #[.pointer (some ⟨pb, 0, none⟩), .slice A0 (bytesI bs).length c0] w fun e w' => (∃ v, e = .returned v ∧ w'.ownsRow w.heap.size 5 1 v bs.length (nums .u8 (bytesI bs))) ∧ Below w.heap.size w w' := by
  have hmf : ∀ (fn : Fn) (first cap : Array Value) (w : World), (Instr.makeFunc fn first cap).run Tryz.prog w = .ok (.func fn first cap) w := fun _ _ _ _ => rfl
  obtain ⟨W2, hW2⟩ : ∃ W2, (w.alloc (.cells #[.pointer (some ⟨pb, 0, none⟩)] 84)).alloc (.cells #[.slice A0 (bytesI bs).length c0] 47) = W2 := ⟨_, rfl⟩
  have hb2 : Below w.heap.size w W2 := by rw [← hW2]; exact below_alloc (below_alloc (Below.refl _ _) _) _
  have hs2 : W2.heap.size = w.heap.size + 2 := by rw [← hW2]; simp [World.alloc, -World.alloc_eq]
  have hx0 : W2.cell? ⟨w.heap.size, 0, none⟩ = some (.pointer (some ⟨pb, 0, none⟩)) := by rw [← hW2]; simp [World.cell?, World.alloc, -World.alloc_eq, Array.getElem?_push]
  have hx1 : W2.cell? ⟨w.heap.size + 1, 0, none⟩ = some (.slice A0 (bytesI bs).length c0) := by rw [← hW2]; exact cell_new _ _ _ _ (by simp [World.alloc, -World.alloc_eq])
  obtain ⟨⟨m, hm9, hmd⟩, _⟩ := hcv W2 hb2
  have hne : (m.toList == [100, 105, 115, 97, 98, 108, 101, 100]) = false := by
    rw [beq_eq_false_iff_ne]
    intro e
    exact hmd (by rw [← ByteArray.toList_eq]; exact e)
  obtain ⟨i0, hi0, hz0, hsz0, hby0⟩ := info_parts info5
  have hmk : (Instr.makeSlice 47 (.int .i64 ((bytesI bs).length : Int)) (.int .i64 ((bytesI bs).length : Int))).run Tryz.prog W2 = .ok (.slice (some ⟨W2.heap.size, 0, none⟩) (bytesI bs).length (bytesI bs).length) (W2.alloc (.cells (madeCells (Value.int .u8 0).cells ((bytesI bs).length * i0.size)) 5)) := by
    have := run_make (P := Tryz.prog) W2 47 5 i0 (.int .u8 0) Tryz.underlying47 hi0 hz0 .i64 .i64 ((bytesI bs).length : Int) ((bytesI bs).length : Int) (by omega) (by omega) (by rw [hby0, bytesI_length]; omega) (by rw [bytesI_length]; omega)
    simpa using this
  obtain ⟨W3, hW3⟩ : ∃ W3, W2.alloc (.cells (madeCells (Value.int .u8 0).cells ((bytesI bs).length * i0.size)) 5) = W3 := ⟨_, rfl⟩
  rw [hW3] at hmk
  have hb3 : Below w.heap.size w W3 := by rw [← hW3]; exact below_alloc hb2 _
  have hb23 : Below W2.heap.size W2 W3 := by rw [← hW3]; exact below_alloc (Below.refl _ _) _
  have hs3 : W3.heap.size = w.heap.size + 3 := by rw [← hW3]; simp [World.alloc, -World.alloc_eq, hs2]
  have hy1 : W3.cell? ⟨w.heap.size + 1, 0, none⟩ = some (.slice A0 (bytesI bs).length c0) := by rw [← hW3, World.cell?_alloc_lt _ _ _ (by rw [hs2]; exact Nat.lt_succ_self _)]; exact hx1
  obtain ⟨W4, hmk4, hown0, hg0⟩ := run_make_own (P := Tryz.prog) W3 W3.heap.size 47 5 i0 _ 1 Tryz.underlying47 hi0 hz0 hsz0 .i64 .i64 (bytesI bs).length (by rw [hby0, bytesI_length]; omega) (by rw [bytesI_length]; unfold maxLen; omega) (Nat.le_refl _)
  have hy4 : W4.cell? ⟨w.heap.size + 1, 0, none⟩ = some (.slice A0 (bytesI bs).length c0) := by rw [(((Below.refl W3.heap.size W3).grown hg0 (Nat.le_refl _) (fun k hk => by cases hk))).cell (by show w.heap.size + 1 < _; omega)]; exact hy1
  have HG := Aside0.mk ((Below.refl W3.heap.size W3).grown hg0 (Nat.le_refl _) (fun k hk => by cases hk))
  have HO0 := Aside0.mk hown0
  have HR0 := Aside0.mk hr0
  have HR3 := Aside0.mk (Kd.C_below hr0 hb3)
  have HC0 := Aside0.mk hc0
  have H3 := Aside0.mk h300
  have HQ := Aside0.mk hq
  have HB3 := Aside0.mk (And.intro hb3 hs3)
  clear hr0 hc0 h300 hq hb2 hs2 hb23 hb3 hs3 hcv hg0 hown0 hmd
  go_enter Tryz.func483, Tryz.ntmps483
  go_wp2
  go_loopg [7] bs.length (fun gf v7 wx => ∃ (i : Nat), v7 = .int .i64 (i : Int) ∧ wx = W3 ∧ Aside0 (i ≤ bs.length ∧ bs.length - i ≤ gf))
  case atStart => exact ⟨0, rfl, rfl, ⟨Nat.zero_le _, by omega⟩⟩
  case round =>
    obtain ⟨i, rfl, hwx, HP⟩ := hrel
    subst hwx
    by_cases hlt : (i : Int) < ((bytesI bs).length : Int)
    · have hib : i < bs.length := by rw [bytesI_length] at hlt; omega
      obtain ⟨g', rfl⟩ : ∃ g', gk = g' + 1 := ⟨gk - 1, by have := HP.out; omega⟩
      have hw1 : wrap64 ((i : Int) + 1) = ((i + 1 : Nat) : Int) := by have := H3.out; unfold wrap64; omega
      obtain ⟨ad, ead, hxa⟩ := Kd.at_int HR3.out (i : Int) (by omega) hlt
      cases ead
      simp only [Int.toNat_natCast] at hxa
      have c4b := decide_eq_true hlt
      have q1 := eq_true hlt
      have hrd : rd (bytesI bs) (i : Int) = (bs[i].toNat : Int) := by simp [rd, bytesI, hib]
      have d0b : (rd (bytesI bs) (i : Int) == 7) = false := beq_eq_false_iff_ne.mpr (by rw [hrd]; have := HQ.out i hib; omega)
      have d0c : (rd (bytesI bs) (i : Int) != 7) = true := by simp [bne, d0b]
      have q146 : i < (bytesI bs).length := by rw [bytesI_length]; exact hib
      clear hrd
      go_wp2
      go_roundg g'
      case measure => omega
      case rel => exact ⟨i + 1, by rw [hw1], rfl, ⟨by omega, by have := HP.out; omega⟩⟩
    · have hi : i = bs.length := by have := HP.out; rw [bytesI_length] at hlt; omega
      have c4b := decide_eq_false hlt
      have c4n : (i < (bytesI bs).length) = False := eq_false (by omega)
      go_wp2
      have HG4 : Aside0 (Below w.heap.size w W4) := ⟨HB3.out.1.trans (HG.out.mono (by have := HB3.out.2; omega))⟩
      have HO4 : Aside0 (W4.ownsRow w.heap.size 5 1 (.slice (some ⟨wr.heap.size, 0, none⟩) 0 (bytesI bs).length) 0 []) := ⟨own_weaken HO0.out (by have := HB3.out.2; omega)⟩
      clear HG HO0
      go_loopg [9, 56] bs.length (fun gf v9 v56 wx => ∃ (i : Nat), v56 = .int .i64 (i : Int) ∧ Aside0 (wx.ownsRow w.heap.size 5 1 v9 (bytesI (bs.take i)).length (nums .u8 (bytesI (bs.take i)))) ∧ Aside0 (Below w.heap.size w wx) ∧ Aside0 (i ≤ bs.length ∧ bs.length - i ≤ gf))
      case atStart => exact ⟨0, rfl, HO4, HG4, ⟨Nat.zero_le _, by omega⟩⟩
      case round =>
        obtain ⟨i, rfl, HO, HB, HP⟩ := hrel
        by_cases hlt : (i : Int) < ((bytesI bs).length : Int)
        · have hib : i < bs.length := by rw [bytesI_length] at hlt; omega
          obtain ⟨g', rfl⟩ : ∃ g', gk = g' + 1 := ⟨gk - 1, by have := HP.out; omega⟩
          have hw1 : wrap64 ((i : Int) + 1) = ((i + 1 : Nat) : Int) := by have := H3.out; unfold wrap64; omega
          obtain ⟨ad, ead, hxa⟩ := Kd.at_int (Kd.C_below HR0.out HB.out) (i : Int) (by omega) hlt
          cases ead
          simp only [Int.toNat_natCast] at hxa
          have c4b := decide_eq_true hlt
          have q1 := eq_true hlt
          have hrd : rd (bytesI bs) (i : Int) = (bs[i].toNat : Int) := by simp [rd, bytesI, hib]
          have d0b : (rd (bytesI bs) (i : Int) == 7) = false := beq_eq_false_iff_ne.mpr (by rw [hrd]; have := HQ.out i hib; omega)
          have d0c : (rd (bytesI bs) (i : Int) != 7) = true := by simp [bne, d0b]
          have q146 : i < (bytesI bs).length := by rw [bytesI_length]; exact hib
          obtain ⟨acc, hacc⟩ : ∃ acc, bytesI (bs.take i) = acc := ⟨_, rfl⟩
          rw [hacc] at HO
          have HACC := Aside0.mk hacc
          have HL := Aside0.mk (show acc.length ≤ 1000 by rw [← hacc, bytesI_length, List.length_take]; have := H3.out; omega)
          clear hacc hrd
          go_wp2_with (first | (at_builtin; refine Kd.R_append (Kd.int .u8) (w0 := w) w.heap.size rfl (.tmp 63) (.tmp 65) 47 5 (.int .u8 0) 1 rfl Tryz.underlying47 info5 rfl (by decide) (by omega) u9 acc (rd (bytesI bs) (i : Int)) [.int .u8 (rd (bytesI bs) (i : Int))] (fun _ => True) (fun _ => False) rfl rfl ?aP (fun _ hk => hk.elim) ?aF ?aO ?aB ?aS ?aL ?_; (case aP => exact rfl); (case aB => exact HB.out); (case aF => exact (fun _ _ => trivial)); (case aO => exact Kd.R_of_own (h1 := fun _ => rfl) HO.out (fun _ _ => trivial)); (case aS => exact (below_size HB.out)); (case aL => have := HL.out; omega); intro v1 w1 ho hb hg hat))
          go_roundg g'
          case measure => omega
          case rel =>
            refine ⟨i + 1, by rw [hw1], ⟨?_⟩, ⟨hb⟩, ⟨by omega, by have := HP.out; omega⟩⟩
            rw [bytesI_snocL bs i hib, HACC.out]
            exact Kd.own_of_R ho
        · have hi : i = bs.length := by have := HP.out; rw [bytesI_length] at hlt; omega
          have c4b := decide_eq_false hlt
          have hall : bytesI (bs.take i) = bytesI bs := by rw [hi, List.take_of_length_le (Nat.le_refl _)]
          rw [hall, bytesI_length] at HO
          obtain ⟨A, c1, hv, hr⟩ := own_reads HO.out
          subst hv
          have c4n : (i < (bytesI bs).length) = False := eq_false (by omega)
          clear hlt hall hr hi
          go_wp2
          go_ret
          exact ⟨⟨_, rfl, HO.out⟩, HB.out⟩
end Go.Proofs.YtonagpnnfhilgaaGreat.Hand

namespace Go.Proofs.YtonagpnnfhilgaaGreat.Hand
open Go.RowKit Go.Proofs.YtonagpnnfhilgaaGreatW.PrintWords Go.Proofs.YtonagpnnfhilgaaGreatW.PrintLast Go.Proofs.YtonagpnnfhilgaaGreatW.PrintMore
attribute [local go_sem] max2_int min2_int max_two min_two max_three min_three max_four min_four
set_option linter.unusedVariables false
set_option linter.unusedSimpArgs false

/-- How many line feeds since the last byte that is neither that nor a blank. -/
def nlc : List UInt8 → Nat → Nat
  | [], k => k
  | b :: bs, k => nlc bs (if b.toNat = 10 then k + 1 else if b.toNat = 32 then k else 0)

theorem nlc_snoc : ∀ (bs : List UInt8) (b : UInt8) (k : Nat), nlc (bs ++ [b]) k = (if b.toNat = 10 then nlc bs k + 1 else if b.toNat = 32 then nlc bs k else 0)
  | [], _, _ => rfl
  | _ :: bs, b, _ => nlc_snoc bs b _

/-- Two rows apart. -/
def Twain (v u : Value) : Prop := ∀ k, v.ownBlock = some k → u.ownBlock ≠ some k

theorem twain_symm {v u : Value} (h : Twain v u) : Twain u v := fun k hu hv => h k hv hu

theorem twain_append {W w1 : World} {base e n : Nat} {v v1 u : Value} {xs : List Value} (ho : W.ownsRow base e 1 u n xs) (hap : Twain v u) (hg : W.grownBy w1 v.ownBlock)
    (hat : v1.ownBlock = v.ownBlock ∨ ∃ b, v1.ownBlock = some b ∧ W.heap.size ≤ b) : w1.ownsRow base e 1 u n xs ∧ Twain v1 u := by
  have hlt := own_lt ho
  refine ⟨own_move ho fun k hk => hg.block k (hlt k hk) (fun e => hap k e.symm hk), fun k hk hu => ?_⟩
  rcases hat with hat | ⟨b, hb, hle⟩
  · exact hap k (hat ▸ hk) hu
  · have := hlt k hu
    rw [hb] at hk
    injection hk with hk
    omega

theorem read_own {W : World} {base c : Nat} {A : Option Addr} {s : List Int} (h : W.ownsRow base 5 1 (.slice A s.length c) s.length (nums .u8 s)) : Kd.C (Kd.int .u8) W A s.length s :=
  (Kd.R_reads' (Kd.R_of_own (h1 := fun _ => rfl) (ok := fun _ => True) h (fun _ _ => trivial))).2.2

theorem read_one {W : World} {ad : Addr} {c i : Nat} {xs : List Int} (h : Kd.C (Kd.int .u8) W (some ad) xs.length xs) (hc : xs.length ≤ c) (hi : i < xs.length) (hci : (c = i) = False) : Kd.C (Kd.int .u8) W (some (ad.add i)) 1 [rd xs (i : Int)] := by
  have h1 := Kd.C_mid (lo := i) (hi := i + 1) (c := c) h (by omega) hi hc
  have e : (xs.take (i + 1)).drop i = [rd xs (i : Int)] := by
    rw [List.take_succ_eq_append_getElem hi, List.drop_left' (by simp; omega)]
    simp [rd, hi]
  rw [e] at h1
  simpa [hci, show (Kd.int .u8).sz = 1 from rfl] using h1

set_option maxHeartbeats 8000000 in
set_option maxRecDepth 100000 in
theorem trimConsecutive_calls (w : World) (A0 : Option Addr) (c0 : Nat) (bs : List UInt8) (hr0 : Kd.C (Kd.int .u8) w A0 (bytesI bs).length (bytesI bs)) (hc0 : (bytesI bs).length ≤ c0) (h300 : bs.length ≤ 300) (hq : ∀ (i : Nat) (h : i < bs.length), bs[i].toNat < 128) (hn : ∀ i, i ≤ bs.length → nlc (bs.take i) 0 ≤ 2) :
    Calls Tryz.prog 160 #[.slice A0 (bytesI bs).length c0] w fun e w' => (∃ v, e = .returned v ∧ w'.ownsRow w.heap.size 5 1 v bs.length (nums .u8 (bytesI bs))) ∧ Below w.heap.size w w' := by
  have HR0 := Aside0.mk hr0
  have HC0 := Aside0.mk hc0
  have H3 := Aside0.mk h300
  have HQ := Aside0.mk hq
  have HN := Aside0.mk hn
  clear hr0 hc0 h300 hq hn
  go_enter Tryz.func160, Tryz.ntmps160
  go_wp2
  go_loopg [3, 4, 5, 6] bs.length (fun gf v3 v4 v5 v6 wx => ∃ (i : Nat) (r s : List Int) (g c : Nat), v6 = .int .i64 (i : Int) ∧ v4 = .int .i64 (nlc (bs.take i) 0 : Int) ∧ v5 = .slice (some ⟨g, 0, none⟩) s.length c ∧ Aside0 (wx.ownsRow w.heap.size 5 1 v3 r.length (nums .u8 r)) ∧ Aside0 (wx.ownsRow w.heap.size 5 1 v5 s.length (nums .u8 s)) ∧ Aside0 (Twain v3 v5) ∧ Aside0 (r ++ s = bytesI (bs.take i)) ∧ Aside0 (s.length ≤ c) ∧ Aside0 (Below w.heap.size w wx) ∧ Aside0 (i ≤ bs.length ∧ bs.length - i ≤ gf))
  case atStart => 
    refine ⟨0, [], [], w.heap.size, 0, rfl, rfl, rfl, ⟨⟨rfl, .inl ⟨rfl, rfl⟩⟩⟩, ⟨⟨rfl, .inr ⟨w.heap.size, 0, #[], rfl, Nat.le_refl _, by simp [World.alloc, -World.alloc_eq], Nat.le_refl _, by decide, rfl, rfl⟩⟩⟩, ⟨fun k hk => by simp [Value.ownBlock] at hk⟩, ⟨by simp [bytesI]⟩, ⟨Nat.le_refl _⟩, ⟨below_alloc (Below.refl _ _) _⟩, ⟨Nat.zero_le _, by omega⟩⟩
  case round =>
    obtain ⟨i, r, s, g, c, rfl, rfl, rfl, HO3, HO5, HT, HS, HC, HB, HP⟩ := hrel
    by_cases hlt : (i : Int) < ((bytesI bs).length : Int)
    · have hib : i < bs.length := by rw [bytesI_length] at hlt; omega
      obtain ⟨g', rfl⟩ : ∃ g', gk = g' + 1 := ⟨gk - 1, by have := HP.out; omega⟩
      have hw1 : wrap64 ((i : Int) + 1) = ((i + 1 : Nat) : Int) := by have := H3.out; unfold wrap64; omega
      obtain ⟨ad, ead, hxa⟩ := Kd.at_int (Kd.C_below HR0.out HB.out) (i : Int) (by omega) hlt
      cases ead
      simp only [Int.toNat_natCast] at hxa
      have c4b := decide_eq_true hlt
      have q1 := eq_true hlt
      have hq3 := HQ.out i hib
      have hrd : rd (bytesI bs) (i : Int) = (bs[i].toNat : Int) := by simp [rd, bytesI, hib]
      have q146 : i < (bytesI bs).length := by rw [bytesI_length]; exact hib
      have q147 : i ≤ (bytesI bs).length := Nat.le_of_lt q146
      have q148 : (bytesI bs).length ≤ c0 := HC0.out
      have hci : (c0 = i) = False := eq_false (by omega)
      have CD := Aside0.mk (decode_ascii (ad.add i) ((bytesI bs).length - i) (c0 - i) (rd (bytesI bs) (i : Int)) wr (by omega) hxa (by rw [hrd]; omega) (by rw [hrd]; omega))
      have HL := Aside0.mk (show r.length + s.length ≤ 1000 by have := congrArg List.length HS.out; rw [bytesI_length, List.length_take, List.length_append] at this; have := H3.out; omega)
      have HRR := Aside0.mk (read_one (Kd.C_below HR0.out HB.out) HC0.out q146 hci)
      go_wp2_with (go_at_call 170; fail)
      refine CD.out.mono ?_
      rintro e w1 ⟨rfl, h2⟩
      rw [h2]
      clear h2
      by_cases h10 : rd (bytesI bs) (i : Int) = 10
      · have hb10 : bs[i].toNat = 10 := by omega
        have hnl : nlc (bs.take (i + 1)) 0 = nlc (bs.take i) 0 + 1 := by rw [List.take_succ_eq_append_getElem hib, nlc_snoc, if_pos hb10]
        have hn2 := HN.out (i + 1) (by omega)
        rw [hnl] at hn2
        have hw2 : wrap64 ((nlc (bs.take i) 0 : Nat) + 1 : Int) = ((nlc (bs.take (i + 1)) 0 : Nat) : Int) := by rw [hnl]; unfold wrap64; omega
        have hle : decide (((nlc (bs.take (i + 1)) 0 : Nat) : Int) ≤ 2) = true := decide_eq_true (by rw [hnl]; omega)
        have d0b : (rd (bytesI bs) (i : Int) == 10) = true := by rw [h10]; rfl
        have hleb := eq_true (of_decide_eq_true hle)
        clear hnl hn2 hrd
        go_wp2_with (first | (at_builtin; refine Kd.R_append_rows (Kd.int .u8) (Rr := (Kd.int .u8).K wr) (w0 := w) w.heap.size rfl (.tmp 27) (.tmp 28) 47 5 (.int .u8 0) 1 rfl Tryz.underlying47 info5 rfl (by decide) (by omega) u3 r s (some ⟨g, 0, none⟩) s.length c (fun _ => True) (fun _ => False) rfl rfl (Kd.R_of_own (h1 := fun _ => rfl) HO3.out (fun _ _ => trivial)) (read_own HO5.out) (fun _ _ h => h) (fun _ hk => hk.elim) (fun _ _ => trivial) HB.out (below_size HB.out) (by have := HL.out; (try simp only [List.length_append, List.length_cons, List.length_nil]); omega) ?_; intro v1 w1 ho1 hb1 hg1 hat1; have HO3a := Aside0.mk (Kd.own_of_R ho1); have HB1 := Aside0.mk hb1; have HT1 := Aside0.mk (twain_append HO5.out HT.out hg1 hat1); clear ho1 hb1 hg1 hat1) | (at_builtin; refine Kd.R_append (Kd.int .u8) (w0 := w) w.heap.size rfl (.tmp 30) (.tmp 31) 47 5 (.int .u8 0) 1 rfl Tryz.underlying47 info5 rfl (by decide) (by omega) v1 (r ++ s) 10 [.int .u8 10] (fun _ => True) (fun _ => False) rfl rfl rfl (fun _ hk => hk.elim) (fun _ _ => trivial) (Kd.R_of_own (h1 := fun _ => rfl) HO3a.out (fun _ _ => trivial)) HB1.out (below_size HB1.out) (by have := HL.out; (try simp only [List.length_append, List.length_cons, List.length_nil]); omega) ?_; intro v2 w2 ho2 hb2 hg2 hat2; have HO3b := Aside0.mk (Kd.own_of_R ho2); have HB2 := Aside0.mk hb2; have HT2 := Aside0.mk (twain_append HT1.out.1 HT1.out.2 hg2 hat2); clear ho2 hb2 hg2 hat2))
        go_roundg g'
        case measure => omega
        case rel =>
          refine ⟨i + 1, r ++ s ++ [10], [], g, c, by rw [hw1], rfl, rfl, HO3b, ⟨own_take (m := 0) HT2.out.1 (Nat.zero_le _)⟩, ⟨fun k h1 h2 => HT2.out.2 k h1 h2⟩, ⟨?_⟩, ⟨Nat.zero_le _⟩, HB2, ⟨by omega, by have := HP.out; omega⟩⟩
          rw [bytesI_snocL bs i hib, ← HS.out, List.append_nil]; rw [h10]
      · have hb10 : bs[i].toNat ≠ 10 := by omega
        have d0b : (rd (bytesI bs) (i : Int) == 10) = false := beq_eq_false_iff_ne.mpr h10
        by_cases h32 : rd (bytesI bs) (i : Int) = 32
        · have hb32 : bs[i].toNat = 32 := by omega
          have hnl : nlc (bs.take (i + 1)) 0 = nlc (bs.take i) 0 := by rw [List.take_succ_eq_append_getElem hib, nlc_snoc, if_neg hb10, if_pos hb32]
          have d1b : (rd (bytesI bs) (i : Int) == 32) = true := by rw [h32]; rfl
          clear hrd
          go_wp2_with (first | (at_builtin; refine Kd.R_append_rows (Kd.int .u8) (Rr := (Kd.int .u8).K wr) (w0 := w) w.heap.size rfl (.tmp _) (.tmp _) 47 5 (.int .u8 0) 1 rfl Tryz.underlying47 info5 rfl (by decide) (by omega) (.slice (some ⟨g, 0, none⟩) s.length c) s [rd (bytesI bs) (i : Int)] (some (ad.add i)) 1 _ (fun _ => True) (fun _ => False) rfl rfl (Kd.R_of_own (h1 := fun _ => rfl) HO5.out (fun _ _ => trivial)) HRR.out (fun _ _ h => h) (fun _ hk => hk.elim) (fun _ _ => trivial) HB.out (below_size HB.out) (by have := HL.out; (try simp only [List.length_append, List.length_cons, List.length_nil]); omega) ?_; intro v1 w1 ho1 hb1 hg1 hat1; have HO5a := Aside0.mk (Kd.own_of_R ho1); have HB1 := Aside0.mk hb1; have HT1 := Aside0.mk (twain_append HO3.out (twain_symm HT.out) hg1 hat1); clear ho1 hb1 hg1 hat1))
          go_roundg g'
          case measure => omega
          case rel =>
            obtain ⟨g1, c1, hv1, hc1⟩ : ∃ g1 c1, v1 = .slice (some ⟨g1, 0, none⟩) (s ++ [rd (bytesI bs) (i : Int)]).length c1 ∧ (s ++ [rd (bytesI bs) (i : Int)]).length ≤ c1 := by
              rcases HO5a.out.2 with ⟨_, h0⟩ | ⟨g1, c1, cur, hv, _, _, hle, _⟩
              · simp at h0
              · exact ⟨g1, c1, hv, hle⟩
            refine ⟨i + 1, r, s ++ [rd (bytesI bs) (i : Int)], g1, c1, by rw [hw1], by rw [hnl], hv1, ⟨HT1.out.1⟩, HO5a, ⟨twain_symm HT1.out.2⟩, ⟨?_⟩, ⟨hc1⟩, HB1, ⟨by omega, by have := HP.out; omega⟩⟩
            rw [bytesI_snocL bs i hib, ← HS.out, List.append_assoc]
        · have hb32 : bs[i].toNat ≠ 32 := by omega
          have hnl : nlc (bs.take (i + 1)) 0 = 0 := by rw [List.take_succ_eq_append_getElem hib, nlc_snoc, if_neg hb10, if_neg hb32]
          have d1b : (rd (bytesI bs) (i : Int) == 32) = false := beq_eq_false_iff_ne.mpr h32
          clear hrd
          go_wp2_with (first | (at_builtin; refine Kd.R_append_rows (Kd.int .u8) (Rr := (Kd.int .u8).K wr) (w0 := w) w.heap.size rfl (.tmp _) (.tmp _) 47 5 (.int .u8 0) 1 rfl Tryz.underlying47 info5 rfl (by decide) (by omega) u3 r s (some ⟨g, 0, none⟩) s.length c (fun _ => True) (fun _ => False) rfl rfl (Kd.R_of_own (h1 := fun _ => rfl) HO3.out (fun _ _ => trivial)) (read_own HO5.out) (fun _ _ h => h) (fun _ hk => hk.elim) (fun _ _ => trivial) HB.out (below_size HB.out) (by have := HL.out; (try simp only [List.length_append, List.length_cons, List.length_nil]); omega) ?_; intro v1 w1 ho1 hb1 hg1 hat1; have HO3a := Aside0.mk (Kd.own_of_R ho1); have HB1 := Aside0.mk hb1; have HT1 := Aside0.mk (twain_append HO5.out HT.out hg1 hat1); clear ho1 hb1 hg1 hat1) | (at_builtin; refine Kd.R_append_rows (Kd.int .u8) (Rr := (Kd.int .u8).K w1) (w0 := w) w.heap.size rfl (.tmp _) (.tmp _) 47 5 (.int .u8 0) 1 rfl Tryz.underlying47 info5 rfl (by decide) (by omega) v1 (r ++ s) [rd (bytesI bs) (i : Int)] (some (ad.add i)) 1 _ (fun _ => True) (fun _ => False) rfl rfl (Kd.R_of_own (h1 := fun _ => rfl) HO3a.out (fun _ _ => trivial)) (read_one (Kd.C_below HR0.out HB1.out) HC0.out q146 hci) (fun _ _ h => h) (fun _ hk => hk.elim) (fun _ _ => trivial) HB1.out (below_size HB1.out) (by have := HL.out; (try simp only [List.length_append, List.length_cons, List.length_nil]); omega) ?_; intro v2 w2 ho2 hb2 hg2 hat2; have HO3b := Aside0.mk (Kd.own_of_R ho2); have HB2 := Aside0.mk hb2; have HT2 := Aside0.mk (twain_append HT1.out.1 HT1.out.2 hg2 hat2); clear ho2 hb2 hg2 hat2))
          go_roundg g'
          case measure => omega
          case rel =>
            refine ⟨i + 1, r ++ s ++ [rd (bytesI bs) (i : Int)], [], g, c, by rw [hw1], by rw [hnl]; rfl, rfl, HO3b, ⟨own_take (m := 0) HT2.out.1 (Nat.zero_le _)⟩, ⟨fun k h1 h2 => HT2.out.2 k h1 h2⟩, ⟨?_⟩, ⟨Nat.zero_le _⟩, HB2, ⟨by omega, by have := HP.out; omega⟩⟩
            rw [bytesI_snocL bs i hib, ← HS.out, List.append_nil]
    · have hi : i = bs.length := by have := HP.out; rw [bytesI_length] at hlt; omega
      have c4b := decide_eq_false hlt
      have hall : bytesI (bs.take i) = bytesI bs := by rw [hi, List.take_of_length_le (Nat.le_refl _)]
      rw [hall] at HS
      have c4n : (i < (bytesI bs).length) = False := eq_false (by omega)
      have HL := Aside0.mk (show r.length + s.length ≤ 1000 by have := congrArg List.length HS.out; rw [bytesI_length, List.length_append] at this; have := H3.out; omega)
      clear hlt hall hi
      go_wp2_with (first | (at_builtin; refine Kd.R_append_rows (Kd.int .u8) (Rr := (Kd.int .u8).K wr) (w0 := w) w.heap.size rfl (.tmp _) (.tmp _) 47 5 (.int .u8 0) 1 rfl Tryz.underlying47 info5 rfl (by decide) (by omega) u3 r s (some ⟨g, 0, none⟩) s.length c (fun _ => True) (fun _ => False) rfl rfl (Kd.R_of_own (h1 := fun _ => rfl) HO3.out (fun _ _ => trivial)) (read_own HO5.out) (fun _ _ h => h) (fun _ hk => hk.elim) (fun _ _ => trivial) HB.out (below_size HB.out) (by have := HL.out; (try simp only [List.length_append, List.length_cons, List.length_nil]); omega) ?_; intro v1 w1 ho1 hb1 hg1 hat1; have HO3a := Aside0.mk (Kd.own_of_R ho1); have HB1 := Aside0.mk hb1; have HT1 := Aside0.mk (twain_append HO5.out HT.out hg1 hat1); clear ho1 hb1 hg1 hat1))
      have HO := HO3a.out
      rw [HS.out, bytesI_length] at HO
      go_ret
      exact ⟨⟨_, rfl, HO⟩, HB1.out⟩
end Go.Proofs.YtonagpnnfhilgaaGreat.Hand
