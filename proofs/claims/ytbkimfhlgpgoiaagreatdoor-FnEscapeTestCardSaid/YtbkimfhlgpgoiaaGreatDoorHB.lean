/- The guarded test, inlineCut, Quoted: what they return. Conditions: those in each statement. -/
import Derived.Test.YtbkimfhlgpgoiaaGreatDoorHA
import Derived.Defers
import Derived.Recover
import Derived.Lib.ConvBytes
import Derived.Lib.OthersKept
import Derived.Lib.FieldsU
import Derived.Test.YtbkimfhlgpgoiaaGreatDoorVxY
namespace Go.Proofs.YtbkimfhlgpgoiaaGreatDoor.Hand
open Go.RowKit Go.Proofs.YtbkimfhlgpgoiaaGreatDoorW.PrintWords Go.Proofs.YtbkimfhlgpgoiaaGreatDoorW.PrintLast Go.Proofs.YtbkimfhlgpgoiaaGreatDoorW.PrintMore
open Go.Proofs.YtbkimfhlgpgoiaaGreatDoor.Ptested
set_option linter.unusedVariables false
set_option linter.unusedSimpArgs false

/-- The deferred closure where nothing panics: recover finds nothing. -/
theorem catch_idle (p : Addr) (w : World) :
    CallsD Tryz.prog 39 #[.pointer (some p)] .returning w fun e u' w' => e = .returned (.tuple #[]) ∧ u' = .returning ∧ w' = w := by
  refine callsD_of_wpS Tryz.func39 rfl fun c₀ cs hu => ?_
  apply wpS_seq
  apply wpS_region
  simp [wpOpsS, go_sem, recoverD, hu, Tryz.ntmps39, Exit.thenS]
  refine wpS_cond (t := false) (by simp [Act.eval, Array.replicate]) ?_
  simp only [Bool.false_eq_true, if_false]
  refine wpS_of_wp (wp_skip ?_)
  cases c₀
  simp_all [bodyPostS, results, Tryz.results39]

set_option maxHeartbeats 8000000 in
set_option maxRecDepth 100000 in
theorem guarded_calls (g : FuncId) (first cap : Array Value) (w : World) (R : World → Prop) (hg : (callFunc g (first ++ cap)).run Tryz.prog (w.alloc (.cells #[.bool false] 4)) = .ok (.enter g (first ++ cap)) (w.alloc (.cells #[.bool false] 4)))
    (h : Calls Tryz.prog g (first ++ cap) (w.alloc (.cells #[.bool false] 4)) (fun e w' => (∃ x, e = .returned x) ∧ w'.heap[w.heap.size]? = some (.cells #[.bool false] 4 (0, 0)) ∧ R w')) :
    Calls Tryz.prog 23 #[.func (.func g) first cap] w fun e w' => e = .returned (.bool false) ∧ ∃ w2, R w2 ∧ Below w2.heap.size w2 w' := by
  have hmf : ∀ (fn : Fn) (first cap : Array Value) (w : World), (Instr.makeFunc fn first cap).run Tryz.prog w = .ok (.func fn first cap) w := fun _ _ _ _ => rfl
  have H := Aside0.mk h
  clear h
  go_enter_defers Tryz.func23, Tryz.ntmps23
  go_wp2
  refine H.out.mono ?_
  rintro e w2 ⟨⟨x, rfl⟩, h0, hR⟩
  have hc0 : w2.cell? ⟨w.heap.size, 0, none⟩ = some (.bool false) := by simp [World.cell?, h0]
  have hf0 : w2.frozen? ⟨w.heap.size, 0, none⟩ = false := by simp [World.frozen?, h0]
  have H0 := Aside0.mk h0
  clear h0
  go_wp2
  have hs : w2.setCell ⟨w.heap.size, 0, none⟩ (.bool false) = w2 := by
    rw [setCell_eq_setRow w2 w.heap.size 0 _ _ _ _ H0.out]
    exact setRow_self w2 w.heap.size _ _ _ H0.out
  rw [hs]
  refine leaves_cons (f := 39) (args := #[.pointer (some ⟨w.heap.size, 0, none⟩)]) (by simp) (by simp [go_sem]) ?_
  refine (catch_idle ⟨w.heap.size, 0, none⟩ _).mono ?_
  rintro e u' w'' ⟨rfl, rfl, rfl⟩
  have hB : ∃ w2', R w2' ∧ Below w2'.heap.size w2' w'' := ⟨w'', hR, Below.refl _ _⟩
  have HB := Aside0.mk hB
  clear hB hR
  simp [Leaves, settle, results, Tryz.results23, go_sem, hc0]
  exact HB.out
end Go.Proofs.YtbkimfhlgpgoiaaGreatDoor.Hand

namespace Go.Proofs.YtbkimfhlgpgoiaaGreatDoor.Hand
open Go.RowKit Go.Proofs.YtbkimfhlgpgoiaaGreatDoorW.PrintWords Go.Proofs.YtbkimfhlgpgoiaaGreatDoorW.PrintLast Go.Proofs.YtbkimfhlgpgoiaaGreatDoorW.PrintMore
open Go.Proofs.YtbkimfhlgpgoiaaGreatDoor.Ptested
set_option linter.unusedVariables false
set_option linter.unusedSimpArgs false

theorem C_mk {w : World} {b o : Nat} {bs : List UInt8} (h63 : bs.length ≤ 9223372036854775806) (h : ∀ j (hj : j < bs.length), w.cell? ⟨b, o + j, none⟩ = some (.int .u8 (bs[j].toNat : Int))) :
    Kd.C (Kd.int .u8) w (some ⟨b, o, none⟩) (bytesI bs).length (bytesI bs) := by
  refine ⟨rfl, by rw [bytesI_length]; omega, fun _ => ⟨_, rfl, fun j p hp => ?_⟩⟩
  have hj : j < bs.length := by
    have := (List.getElem?_eq_some_iff.1 hp).1
    rw [bytesI_length] at this; exact this
  have hv : p = (bs[j].toNat : Int) := by
    simp [bytesI, hj] at hp
    exact hp.symm
  refine ⟨[.int .u8 p], rfl, rfl, fun i u hi => ?_⟩
  cases i with
  | zero =>
    simp at hi
    subst hi
    change w.cell? ((⟨b, o, none⟩ : Addr).add (j * 1 + 0)) = _
    rw [Addr.add_lit, Nat.mul_one, Nat.add_zero, h j hj, hv]
  | succ i => simp at hi

/-- The bytes of a text, laid for a test. -/
theorem bytes_C (w : World) (s : ByteArray) (h63 : s.size ≤ 9223372036854775806) : Kd.C (Kd.int .u8) (Lib.bytesWorld w 5 s) (some ⟨w.heap.size, 0, none⟩) (bytesI s.data.toList).length (bytesI s.data.toList) := by
  have hl : s.data.toList.length = s.size := by rw [Array.length_toList]; rfl
  refine C_mk (by rw [hl]; exact h63) fun j hj => ?_
  rw [Nat.zero_add, Lib.bytesWorld_cell w 5 s j (by omega)]
  congr 3
  rw [List.getD_eq_getElem?_getD, List.getElem?_eq_getElem hj]; rfl

theorem bytesWorld_below (w : World) (s : ByteArray) : Below w.heap.size w (Lib.bytesWorld w 5 s) := by
  exact ⟨rfl, rfl, rfl, by rw [Lib.bytesWorld_size]; omega, fun k hk => Lib.bytesWorld_at_old w 5 s k hk⟩

set_option maxHeartbeats 8000000 in
set_option maxRecDepth 100000 in
/-- The test behind its closure. -/
theorem closure_calls (b0 b1 b2 b3 : Nat) (kind a1 n0 : Int) (s : ByteArray) (w : World) (h0 : w.cell? ⟨b0, 0, none⟩ = some (.int .i64 kind)) (h1 : w.cell? ⟨b1, 0, none⟩ = some (.string s)) (h2 : w.cell? ⟨b2, 0, none⟩ = some (.int .i64 a1))
    (h3 : w.heap[b3]? = some (.cells #[.int .i64 n0] 3 (0, 0))) (hk0 : 0 ≤ kind) (hk : kind ≤ 10)
    (hT : Lib.Utf8Tabs 2 3 w) (hW : Lib.WhiteTab 0 w) (hD : DigitOk w) (h63 : s.size ≤ 9223372036854775806) (ha0 : 0 ≤ a1) (ha : a1 < s.size) :
    Calls Tryz.prog 24 #[.pointer (some ⟨b0, 0, none⟩), .pointer (some ⟨b1, 0, none⟩), .pointer (some ⟨b2, 0, none⟩), .pointer (some ⟨b3, 0, none⟩)] w fun e w' =>
      e = .returned (.tuple #[]) ∧ ∃ r w2, Tested s.data.toList a1 r ∧ Below w.heap.size w w2 ∧ w' = w2.setCell ⟨b3, 0, none⟩ (.int .i64 r) := by
  have hl : s.data.toList.length = s.size := by rw [Array.length_toList]; rfl
  have hsz : (bytesI s.data.toList).length = s.size := by rw [bytesI_length, hl]
  have hB := bytesWorld_below w s
  have hlt : ∀ {b : Nat} {v : Value}, w.cell? ⟨b, 0, none⟩ = some v → b < w.heap.size := by
    intro b v h
    simp only [World.cell?] at h
    split at h
    · rename_i h'; exact (Array.getElem?_eq_some_iff.1 h').1
    · cases h
  have CT := tested_calls kind hk0 hk (some ⟨w.heap.size, 0, none⟩) (grownCap w s.size 0 5) s.data.toList a1 (Lib.bytesWorld w 5 s) (bytes_C w s h63) (by rw [hsz]; exact grownCap_ge _ _ _ _)
    (Utf8Tabs_below hT hB) (WhiteTab_below hW hB) (fun r w1 g1 g2 g3 => hD r w1 g1 g2 (below_step hB g3)) (by rw [hl]; exact h63) ha0 (by rw [hl]; exact ha)
  rw [hsz] at CT
  have CT := Aside0.mk CT
  have hcv : (convert 9 22 (.string s)).run Tryz.prog w = .ok (.slice (some ⟨w.heap.size, 0, none⟩) s.size (grownCap w s.size 0 5)) (Lib.bytesWorld w 5 s) :=
    Lib.run_convert_string_bytes w 9 22 5 s Tryz.underlying9 Tryz.underlying22 Tryz.underlying5
  have h2' : (Lib.bytesWorld w 5 s).cell? ⟨b2, 0, none⟩ = some (.int .i64 a1) := by rw [Lib.bytesWorld_old _ _ _ _ (hlt h2)]; exact h2
  have h3lt : b3 < w.heap.size := (Array.getElem?_eq_some_iff.1 h3).1
  have H3 := Aside0.mk h3
  have HB := Aside0.mk hB
  have H3L := Aside0.mk h3lt
  clear hT hW hD h63 ha0 ha hk0 hk hsz hB hlt hl h3 h3lt
  go_enter Tryz.func24, Tryz.ntmps24
  go_wp2_with (go_at_call 25; refine CT.out.mono ?_; rintro e w2 ⟨⟨r, rfl, ht⟩, hb⟩
               have hb2 := below_step HB.out hb
               have h3' : w2.heap[b3]? = some (.cells #[.int .i64 n0] 3 (0, 0)) := by rw [hb2.block _ H3L.out]; exact H3.out
               have hc3 : w2.cell? ⟨b3, 0, none⟩ = some (.int .i64 n0) := by simp [World.cell?, h3']
               have hf3 : w2.frozen? ⟨b3, 0, none⟩ = false := by simp [World.frozen?, h3']
               have HZ := Aside0.mk (And.intro ht hb2)
               clear ht hb2 hb h3')
  refine bodyPost_end (results_none rfl _ _ _) rfl ?_
  exact ⟨rfl, r, w2, HZ.out.1, HZ.out.2, rfl⟩
end Go.Proofs.YtbkimfhlgpgoiaaGreatDoor.Hand

namespace Go.Proofs.YtbkimfhlgpgoiaaGreatDoor.Hand
open Go.RowKit Go.Proofs.YtbkimfhlgpgoiaaGreatDoorW.PrintWords Go.Proofs.YtbkimfhlgpgoiaaGreatDoorW.PrintLast Go.Proofs.YtbkimfhlgpgoiaaGreatDoorW.PrintMore
open Go.Proofs.YtbkimfhlgpgoiaaGreatDoor.Ptested
set_option linter.unusedVariables false
set_option linter.unusedSimpArgs false

/-- The world in which the test is called: its arguments, its answer's variable. -/
def testW (kind a1 : Int) (s : ByteArray) (w : World) : World :=
  (((w.alloc (.cells #[.int .i64 kind] 3)).alloc (.cells #[.string s] 9)).alloc (.cells #[.int .i64 a1] 3)).alloc (.cells #[.int .i64 (-1)] 3)

theorem testW_size (kind a1 : Int) (s : ByteArray) (w : World) : (testW kind a1 s w).heap.size = w.heap.size + 4 := by
  simp [testW, World.alloc, -World.alloc_eq]

theorem testW_below (kind a1 : Int) (s : ByteArray) (w : World) : Below w.heap.size w (testW kind a1 s w) :=
  below_alloc (below_alloc (below_alloc (below_alloc (Below.refl _ _) _) _) _) _

theorem test_guarded (kind a1 : Int) (s : ByteArray) (w : World) (hk0 : 0 ≤ kind) (hk : kind ≤ 10)
    (hT : Lib.Utf8Tabs 2 3 w) (hW : Lib.WhiteTab 0 w) (hD : DigitOk w) (h63 : s.size ≤ 9223372036854775806) (ha0 : 0 ≤ a1) (ha : a1 < s.size) :
    Calls Tryz.prog 23 #[.func (.func 24) #[] #[.pointer (some ⟨w.heap.size, 0, none⟩), .pointer (some ⟨w.heap.size + 1, 0, none⟩), .pointer (some ⟨w.heap.size + 1 + 1, 0, none⟩), .pointer (some ⟨w.heap.size + 1 + 1 + 1, 0, none⟩)]] (testW kind a1 s w) fun e w' =>
      e = .returned (.bool false) ∧ ∃ r, Tested s.data.toList a1 r ∧ w'.cell? ⟨w.heap.size + 1 + 1 + 1, 0, none⟩ = some (.int .i64 r) ∧ Below w.heap.size w w' := by
  let W5 := (testW kind a1 s w).alloc (.cells #[.bool false] 4)
  have hB5 : Below w.heap.size w W5 := below_alloc (testW_below kind a1 s w) _
  have hs5 : W5.heap.size = w.heap.size + 5 := by
    have := testW_size kind a1 s w
    simp only [W5, World.alloc, Array.size_push, this]
  have at5 : ∀ j, j < 5 → W5.heap[w.heap.size + j]? = (#[Obj.cells #[.int .i64 kind] 3, .cells #[.string s] 9, .cells #[.int .i64 a1] 3, .cells #[.int .i64 (-1)] 3, .cells #[.bool false] 4] : Array Obj)[j]? := by
    intro j hj
    simp only [W5, testW, World.alloc, Array.getElem?_push, Array.size_push]
    have hjj : j = 0 ∨ j = 1 ∨ j = 2 ∨ j = 3 ∨ j = 4 := by omega
    rcases hjj with rfl | rfl | rfl | rfl | rfl
    · rw [if_neg (by omega), if_neg (by omega), if_neg (by omega), if_neg (by omega), if_pos (by omega)]; rfl
    · rw [if_neg (by omega), if_neg (by omega), if_neg (by omega), if_pos (by omega)]; rfl
    · rw [if_neg (by omega), if_neg (by omega), if_pos (by omega)]; rfl
    · rw [if_neg (by omega), if_pos (by omega)]; rfl
    · rw [if_pos (by omega)]; rfl
  have b0 : W5.cell? ⟨w.heap.size, 0, none⟩ = some (.int .i64 kind) := by have := at5 0 (by decide); simp at this; simp [World.cell?, this]
  have b1 : W5.cell? ⟨w.heap.size + 1, 0, none⟩ = some (.string s) := by have := at5 1 (by decide); simp at this; simp [World.cell?, this]
  have b2 : W5.cell? ⟨w.heap.size + 1 + 1, 0, none⟩ = some (.int .i64 a1) := by have := at5 2 (by decide); simp at this; simp [World.cell?, Nat.add_assoc, this]
  have b3 : W5.heap[w.heap.size + 1 + 1 + 1]? = some (.cells #[.int .i64 (-1)] 3 (0, 0)) := by have := at5 3 (by decide); simp at this; simpa [Nat.add_assoc] using this
  have b4 : W5.heap[w.heap.size + 4]? = some (.cells #[.bool false] 4 (0, 0)) := by have := at5 4 (by decide); simpa using this
  have hc := closure_calls w.heap.size (w.heap.size + 1) (w.heap.size + 1 + 1) (w.heap.size + 1 + 1 + 1) kind a1 (-1) s W5 b0 b1 b2 b3 hk0 hk (Utf8Tabs_below hT hB5) (WhiteTab_below hW hB5)
    (fun r w1 g1 g2 g3 => hD r w1 g1 g2 (below_step hB5 g3)) h63 ha0 ha
  have hent : ∀ args (u : World), (callFunc 24 args).run Tryz.prog u = .ok (.enter 24 args) u := enters_of Tryz.func24 (by kernel_rfl) rfl
  refine (guarded_calls 24 #[] _ (testW kind a1 s w) (fun w' => ∃ r, Tested s.data.toList a1 r ∧ w'.cell? ⟨w.heap.size + 1 + 1 + 1, 0, none⟩ = some (.int .i64 r) ∧ Below w.heap.size w w' ∧ w.heap.size + 4 ≤ w'.heap.size) (hent _ _) ?_).mono ?_
  · refine hc.mono ?_
    rintro e w' ⟨rfl, r, w2, ht, hb, rfl⟩
    have hb3 : w2.heap[w.heap.size + 1 + 1 + 1]? = some (.cells #[.int .i64 (-1)] 3 (0, 0)) := by rw [hb.block _ (by omega)]; exact b3
    rw [setCell_eq_setRow w2 _ 0 _ _ _ _ hb3]
    refine ⟨⟨_, rfl⟩, ?_, r, ht, ?_, ?_, ?_⟩
    · rw [testW_size, setRow_other _ _ _ _ (by omega), hb.block _ (by omega)]
      exact b4
    · have := setRow_heap w2 _ _ (#[Value.int .i64 (-1)].setIfInBounds 0 (.int .i64 r)) _ _ hb3
      simp only [World.cell?]
      rw [this]
      simp
    · have hbw : Below w.heap.size w w2 := Below.trans hB5 (Below.mono hb (by omega))
      exact ⟨hbw.os, hbw.tape, hbw.output, by rw [setRow_size]; exact hbw.size, fun k hk => by rw [setRow_other _ _ _ _ (by omega)]; exact hbw.block k hk⟩
    · rw [setRow_size]; have := hb.size; omega
  · rintro e w' ⟨rfl, w2, ⟨r, ht, h1, h2, h3⟩, hb⟩
    refine ⟨rfl, r, ht, ?_, below_step h2 hb⟩
    rw [← h1]
    simp only [World.cell?]
    rw [hb.block _ (by omega)]

set_option maxHeartbeats 8000000 in
set_option maxRecDepth 100000 in
theorem test_calls (kind a1 : Int) (s : ByteArray) (w : World) (hk0 : 0 ≤ kind) (hk : kind ≤ 10)
    (hT : Lib.Utf8Tabs 2 3 w) (hW : Lib.WhiteTab 0 w) (hD : DigitOk w) (h63 : s.size ≤ 9223372036854775806) (ha0 : 0 ≤ a1) (ha : a1 < s.size) :
    Calls Tryz.prog 11 #[.int .i64 kind, .string s, .int .i64 a1] w fun e w' => (∃ r, e = .returned (.int .i64 r) ∧ Tested s.data.toList a1 r) ∧ Below w.heap.size w w' := by
  have hmf : ∀ (fn : Fn) (first cap : Array Value) (w : World), (Instr.makeFunc fn first cap).run Tryz.prog w = .ok (.func fn first cap) w := fun _ _ _ _ => rfl
  have CG := Aside0.mk (test_guarded kind a1 s w hk0 hk hT hW hD h63 ha0 ha)
  clear hT hW hD h63 ha0 ha hk0 hk
  go_enter Tryz.func11, Tryz.ntmps11
  go_wp2_with (go_at_call 23; refine CG.out.mono ?_; rintro e w2 ⟨rfl, r, ht, hc, hb⟩
               have HZ := Aside0.mk (And.intro ht hb)
               clear ht hb)
  go_ret
  exact ⟨⟨r, rfl, HZ.out.1⟩, HZ.out.2⟩
end Go.Proofs.YtbkimfhlgpgoiaaGreatDoor.Hand

namespace Go.Proofs.YtbkimfhlgpgoiaaGreatDoor.Hand
open Go.RowKit Go.Proofs.YtbkimfhlgpgoiaaGreatDoorW.PrintWords Go.Proofs.YtbkimfhlgpgoiaaGreatDoorW.PrintLast Go.Proofs.YtbkimfhlgpgoiaaGreatDoorW.PrintMore
open Go.Proofs.YtbkimfhlgpgoiaaGreatDoor.Ptested
attribute [local go_sem] max2_int min2_int max_two min_two max_three min_three max_four min_four
set_option linter.unusedVariables false
set_option linter.unusedSimpArgs false

theorem own_moved {w : World} {B e size n : Nat} {v : Value} {xs : List Value} {k : Nat} {s : ByteArray} {pos : Nat} (h : w.ownsRow B e size v n xs) (hk : w.heap[k]? = some (.stringIter s pos)) (pos' : Nat) : (w.iterAt k s pos').ownsRow B e size v n xs :=
  own_move h fun g hg => Lib.iterAt_other _ _ _ _ _ (fun e => by
    obtain ⟨cells, hc⟩ := own_typed h g hg
    rw [e, hk] at hc
    cases hc)

theorem own_ne {w : World} {B e size n : Nat} {v : Value} {xs : List Value} {k : Nat} {s : ByteArray} {pos : Nat} (h : w.ownsRow B e size v n xs) (hk : w.heap[k]? = some (.stringIter s pos)) : some k ≠ v.ownBlock := by
  intro e
  obtain ⟨cells, hc⟩ := own_typed h k e.symm
  rw [hk] at hc
  cases hc

theorem info5 : (Tryz.prog.info? 5).map (fun i => (i.zero, i.size, i.bytes)) = some (some (.int .u8 0), 1, 1) := by kernel_rfl

theorem cut_start (w : World) (t : ByteArray) : ((w.alloc (.cells #[] 5)).iter t 0).ownsRow w.heap.size 5 1 (.slice (some ⟨w.heap.size, 0, none⟩) 0 0) ([] : List Int).length (nums .u8 []) := by
  refine ⟨rfl, .inr ⟨w.heap.size, 0, #[], rfl, Nat.le_refl _, ?_, Nat.le_refl _, Nat.zero_le _, rfl, rfl⟩⟩
  simp [World.iter, World.alloc, -World.alloc_eq, Array.getElem?_push]

theorem cut_iter (w : World) (t : ByteArray) : ((w.alloc (.cells #[] 5)).iter t 0).heap[w.heap.size + 1]? = some (.stringIter t 0) := by
  have := World.iter_heap (w.alloc (.cells #[] 5)) t 0
  simpa using this

theorem cut_below (w : World) (t : ByteArray) : Below w.heap.size w ((w.alloc (.cells #[] 5)).iter t 0) :=
  below_alloc (below_alloc (Below.refl _ _) _) _

set_option maxHeartbeats 8000000 in
set_option maxRecDepth 100000 in
theorem cut_calls (s : ByteArray) (w : World) (h63 : s.size ≤ 2147483647) :
    Calls Tryz.prog 6 #[.string s] w fun e w' => (∃ t : ByteArray, e = .returned (.string t) ∧ t.size ≤ 300) ∧ Below w.heap.size w w' := by
  by_cases hm : 300 < (s.size : Int)
  · have hmb : decide (300 < (s.size : Int)) = true := decide_eq_true hm
    have hTs : (s.extract 0 300).size = 300 := by simp; omega
    have HTS := Aside0.mk hTs
    have HM := Aside0.mk hm
    clear hTs
    go_enter Tryz.func6, Tryz.ntmps6
    go_wp2
    go_loopg [3] (s.extract 0 300).size (fun gf v3 wx => ∃ (pos : Nat) (acc : List Int), Aside0 (wx.ownsRow w.heap.size 5 1 v3 acc.length (nums .u8 acc)) ∧ Aside0 (wx.heap[w.heap.size + 1]? = some (.stringIter (s.extract 0 300) pos)) ∧ Aside0 (Below w.heap.size w wx) ∧ Aside0 (acc.length ≤ pos ∧ pos ≤ (s.extract 0 300).size ∧ (s.extract 0 300).size - pos ≤ gf))
    case atStart => exact ⟨0, [], ⟨cut_start w _⟩, ⟨cut_iter w _⟩, ⟨cut_below w _⟩, ⟨Nat.le_refl _, Nat.zero_le _, by omega⟩⟩
    case round =>
      obtain ⟨pos, acc, HO, HI, HB, HP⟩ := hrel
      by_cases hlt : pos < (s.extract 0 300).size
      · obtain ⟨g', rfl⟩ : ∃ g', gk = g' + 1 := ⟨gk - 1, by have := HP.out; omega⟩
        have hTs := HTS.out
        have hps : pos < s.size := by have := HM.out; omega
        obtain ⟨R, hR⟩ : ∃ R, (Utf8.decode (s.extract 0 300) pos).1 = R := ⟨_, rfl⟩
        obtain ⟨K, hK⟩ : ∃ K, (Utf8.decode (s.extract 0 300) pos).2 = K := ⟨_, rfl⟩
        have hwd := Lib.width_pos (s.extract 0 300) pos
        have hwn : pos + (Utf8.decode (s.extract 0 300) pos).2 ≤ (s.extract 0 300).size := by
          have := Lib.decodeN_le_n' ((s.extract 0 300).size - pos) ((s.extract 0 300).get! pos).toNat ((s.extract 0 300).get! (pos + 1)).toNat ((s.extract 0 300).get! (pos + 2)).toNat ((s.extract 0 300).get! (pos + 3)).toNat (by omega)
          rw [← Lib.decode_at] at this
          omega
        rw [hK] at hwd hwn
        have hnx : ∀ ty, (Instr.next (.pointer (some ⟨w.heap.size + 1, 0, none⟩)) true ty).run Tryz.prog wr = .ok (.tuple #[.bool true, .int .i64 pos, .int .i32 R]) (wr.iterAt (w.heap.size + 1) (s.extract 0 300) (pos + K)) := fun ty => by
          rw [Lib.run_next_any_at wr (w.heap.size + 1) (s.extract 0 300) pos ty HI.out hlt, hR, hK]
        have hit2 := Lib.iterAt_heap wr (w.heap.size + 1) (s.extract 0 300) pos (pos + K) HI.out
        have hbw2 := Lib.below_iterAt HB.out (k := w.heap.size + 1) (by omega) (s.extract 0 300) (pos + K)
        have hown2 := own_moved HO.out HI.out (pos + K)
        obtain ⟨W, hWd⟩ : ∃ W, wr.iterAt (w.heap.size + 1) (s.extract 0 300) (pos + K) = W := ⟨_, rfl⟩
        rw [hWd] at hnx hit2 hbw2 hown2
        have HI2 := Aside0.mk hit2
        have HB2 := Aside0.mk hbw2
        have HO2 := Aside0.mk hown2
        have hfin : acc.length + 1 ≤ pos + K ∧ pos + K ≤ (s.extract 0 300).size ∧ (s.extract 0 300).size - (pos + K) ≤ g' := by have := HP.out; omega
        have HF := Aside0.mk hfin
        have HACC := Aside0.mk (show acc.length ≤ 300 by have := HP.out; omega)
        have hpp := eq_true hps
        clear HO HI HB hWd hit2 hbw2 hown2 hfin hwd hwn hlt hTs hR hK
        by_cases d1 : ((s[pos]'hps).toNat : Int) = 7
        · have d1b : (((s[pos]'hps).toNat : Int) == 7) = true := beq_iff_eq.mpr d1
          have d1c : (((s[pos]'hps).toNat : Int) != 7) = false := bne_eq_false_iff_eq.mpr d1
          clear d1
          go_wp2
          go_roundg g'
          case measure => omega
          case rel => exact ⟨pos + K, acc, HO2, HI2, HB2, ⟨by have := HF.out; omega⟩⟩
        · have d1b : (((s[pos]'hps).toNat : Int) == 7) = false := beq_eq_false_iff_ne.mpr d1
          have d1c : (((s[pos]'hps).toNat : Int) != 7) = true := bne_iff_ne.mpr d1
          clear d1
          by_cases d2 : ((s[pos]'hps).toNat : Int) = 0
          · have d2b : (((s[pos]'hps).toNat : Int) == 0) = true := beq_iff_eq.mpr d2
            have d2c : (((s[pos]'hps).toNat : Int) != 0) = false := bne_eq_false_iff_eq.mpr d2
            clear d2
            go_wp2
            go_roundg g'
            case measure => omega
            case rel => exact ⟨pos + K, acc, HO2, HI2, HB2, ⟨by have := HF.out; omega⟩⟩
          · have d2b : (((s[pos]'hps).toNat : Int) == 0) = false := beq_eq_false_iff_ne.mpr d2
            have d2c : (((s[pos]'hps).toNat : Int) != 0) = true := bne_iff_ne.mpr d2
            clear d2
            go_wp2_with (first | (at_builtin; refine Kd.R_append (Kd.int .u8) (w0 := w) w.heap.size rfl (.tmp 25) (.tmp 29) 22 5 (.int .u8 0) 1 rfl Tryz.underlying22 info5 rfl (by decide) (by omega) u3 acc ((s[pos]'hps).toNat : Int) [.int .u8 ((s[pos]'hps).toNat : Int)] (fun _ => True) (fun _ => False) rfl rfl ?aP (fun _ hk => hk.elim) ?aF ?aO ?aB ?aS ?aL ?_; (case aP => exact rfl); (case aB => exact HB2.out); (case aF => exact (fun _ _ => trivial)); (case aO => exact Kd.R_of_own (h1 := fun _ => rfl) HO2.out (fun _ _ => trivial)); (case aS => exact (below_size HB2.out)); (case aL => have := HACC.out; omega); intro v1 w1 ho hb hg hat))
            go_roundg g'
            case measure => omega
            case rel =>
              have hIT : w.heap.size + 1 < W.heap.size := (Array.getElem?_eq_some_iff.1 HI2.out).1
              refine ⟨pos + K, acc ++ [((s[pos]'hps).toNat : Int)], ⟨Kd.own_of_R ho⟩, ⟨?_⟩, ⟨hb⟩, ⟨by have := HF.out; rw [List.length_append, List.length_singleton]; omega⟩⟩
              rw [hg.block _ hIT (own_ne HO2.out HI2.out)]
              exact HI2.out
      · have hnx : ∀ ty, (Instr.next (.pointer (some ⟨w.heap.size + 1, 0, none⟩)) true ty).run Tryz.prog wr = .ok (.tuple #[.bool false]) wr := fun ty => Lib.run_next_end_at wr (w.heap.size + 1) (s.extract 0 300) pos ty HI.out hlt
        obtain ⟨A, c1, hv, hr⟩ := own_reads HO.out
        subst hv
        have hcv := string_of_reads (P := Tryz.prog) (c := c1) Tryz.underlying22 Tryz.underlying5 Tryz.underlying9 hr
        have HB3 := HB
        have HS := Aside0.mk (show acc.length ≤ 300 by have := HP.out; have := HTS.out; omega)
        clear HO HI HB HP
        go_wp2
        go_ret
        exact ⟨⟨_, rfl, by rw [strOfNums_size]; exact HS.out⟩, HB3.out⟩
  · have hmb : decide (300 < (s.size : Int)) = false := decide_eq_false hm
    have hTs : s.size ≤ 300 := by omega
    have HTS := Aside0.mk hTs
    have HM := Aside0.mk hm
    clear hTs
    go_enter Tryz.func6, Tryz.ntmps6
    go_wp2
    go_loopg [3] s.size (fun gf v3 wx => ∃ (pos : Nat) (acc : List Int), Aside0 (wx.ownsRow w.heap.size 5 1 v3 acc.length (nums .u8 acc)) ∧ Aside0 (wx.heap[w.heap.size + 1]? = some (.stringIter s pos)) ∧ Aside0 (Below w.heap.size w wx) ∧ Aside0 (acc.length ≤ pos ∧ pos ≤ s.size ∧ s.size - pos ≤ gf))
    case atStart => exact ⟨0, [], ⟨cut_start w _⟩, ⟨cut_iter w _⟩, ⟨cut_below w _⟩, ⟨Nat.le_refl _, Nat.zero_le _, by omega⟩⟩
    case round =>
      obtain ⟨pos, acc, HO, HI, HB, HP⟩ := hrel
      by_cases hlt : pos < s.size
      · obtain ⟨g', rfl⟩ : ∃ g', gk = g' + 1 := ⟨gk - 1, by have := HP.out; omega⟩
        have hTs := HTS.out
        have hps : pos < s.size := by have := HM.out; omega
        obtain ⟨R, hR⟩ : ∃ R, (Utf8.decode s pos).1 = R := ⟨_, rfl⟩
        obtain ⟨K, hK⟩ : ∃ K, (Utf8.decode s pos).2 = K := ⟨_, rfl⟩
        have hwd := Lib.width_pos s pos
        have hwn : pos + (Utf8.decode s pos).2 ≤ s.size := by
          have := Lib.decodeN_le_n' (s.size - pos) (s.get! pos).toNat (s.get! (pos + 1)).toNat (s.get! (pos + 2)).toNat (s.get! (pos + 3)).toNat (by omega)
          rw [← Lib.decode_at] at this
          omega
        rw [hK] at hwd hwn
        have hnx : ∀ ty, (Instr.next (.pointer (some ⟨w.heap.size + 1, 0, none⟩)) true ty).run Tryz.prog wr = .ok (.tuple #[.bool true, .int .i64 pos, .int .i32 R]) (wr.iterAt (w.heap.size + 1) s (pos + K)) := fun ty => by
          rw [Lib.run_next_any_at wr (w.heap.size + 1) s pos ty HI.out hlt, hR, hK]
        have hit2 := Lib.iterAt_heap wr (w.heap.size + 1) s pos (pos + K) HI.out
        have hbw2 := Lib.below_iterAt HB.out (k := w.heap.size + 1) (by omega) s (pos + K)
        have hown2 := own_moved HO.out HI.out (pos + K)
        obtain ⟨W, hWd⟩ : ∃ W, wr.iterAt (w.heap.size + 1) s (pos + K) = W := ⟨_, rfl⟩
        rw [hWd] at hnx hit2 hbw2 hown2
        have HI2 := Aside0.mk hit2
        have HB2 := Aside0.mk hbw2
        have HO2 := Aside0.mk hown2
        have hfin : acc.length + 1 ≤ pos + K ∧ pos + K ≤ s.size ∧ s.size - (pos + K) ≤ g' := by have := HP.out; omega
        have HF := Aside0.mk hfin
        have HACC := Aside0.mk (show acc.length ≤ 300 by have := HP.out; omega)
        have hpp := eq_true hps
        clear HO HI HB hWd hit2 hbw2 hown2 hfin hwd hwn hlt hTs hR hK
        by_cases d1 : ((s[pos]'hps).toNat : Int) = 7
        · have d1b : (((s[pos]'hps).toNat : Int) == 7) = true := beq_iff_eq.mpr d1
          have d1c : (((s[pos]'hps).toNat : Int) != 7) = false := bne_eq_false_iff_eq.mpr d1
          clear d1
          go_wp2
          go_roundg g'
          case measure => omega
          case rel => exact ⟨pos + K, acc, HO2, HI2, HB2, ⟨by have := HF.out; omega⟩⟩
        · have d1b : (((s[pos]'hps).toNat : Int) == 7) = false := beq_eq_false_iff_ne.mpr d1
          have d1c : (((s[pos]'hps).toNat : Int) != 7) = true := bne_iff_ne.mpr d1
          clear d1
          by_cases d2 : ((s[pos]'hps).toNat : Int) = 0
          · have d2b : (((s[pos]'hps).toNat : Int) == 0) = true := beq_iff_eq.mpr d2
            have d2c : (((s[pos]'hps).toNat : Int) != 0) = false := bne_eq_false_iff_eq.mpr d2
            clear d2
            go_wp2
            go_roundg g'
            case measure => omega
            case rel => exact ⟨pos + K, acc, HO2, HI2, HB2, ⟨by have := HF.out; omega⟩⟩
          · have d2b : (((s[pos]'hps).toNat : Int) == 0) = false := beq_eq_false_iff_ne.mpr d2
            have d2c : (((s[pos]'hps).toNat : Int) != 0) = true := bne_iff_ne.mpr d2
            clear d2
            go_wp2_with (first | (at_builtin; refine Kd.R_append (Kd.int .u8) (w0 := w) w.heap.size rfl (.tmp 25) (.tmp 29) 22 5 (.int .u8 0) 1 rfl Tryz.underlying22 info5 rfl (by decide) (by omega) u3 acc ((s[pos]'hps).toNat : Int) [.int .u8 ((s[pos]'hps).toNat : Int)] (fun _ => True) (fun _ => False) rfl rfl ?aP (fun _ hk => hk.elim) ?aF ?aO ?aB ?aS ?aL ?_; (case aP => exact rfl); (case aB => exact HB2.out); (case aF => exact (fun _ _ => trivial)); (case aO => exact Kd.R_of_own (h1 := fun _ => rfl) HO2.out (fun _ _ => trivial)); (case aS => exact (below_size HB2.out)); (case aL => have := HACC.out; omega); intro v1 w1 ho hb hg hat))
            go_roundg g'
            case measure => omega
            case rel =>
              have hIT : w.heap.size + 1 < W.heap.size := (Array.getElem?_eq_some_iff.1 HI2.out).1
              refine ⟨pos + K, acc ++ [((s[pos]'hps).toNat : Int)], ⟨Kd.own_of_R ho⟩, ⟨?_⟩, ⟨hb⟩, ⟨by have := HF.out; rw [List.length_append, List.length_singleton]; omega⟩⟩
              rw [hg.block _ hIT (own_ne HO2.out HI2.out)]
              exact HI2.out
      · have hnx : ∀ ty, (Instr.next (.pointer (some ⟨w.heap.size + 1, 0, none⟩)) true ty).run Tryz.prog wr = .ok (.tuple #[.bool false]) wr := fun ty => Lib.run_next_end_at wr (w.heap.size + 1) s pos ty HI.out hlt
        obtain ⟨A, c1, hv, hr⟩ := own_reads HO.out
        subst hv
        have hcv := string_of_reads (P := Tryz.prog) (c := c1) Tryz.underlying22 Tryz.underlying5 Tryz.underlying9 hr
        have HB3 := HB
        have HS := Aside0.mk (show acc.length ≤ 300 by have := HP.out; have := HTS.out; omega)
        clear HO HI HB HP
        go_wp2
        go_ret
        exact ⟨⟨_, rfl, by rw [strOfNums_size]; exact HS.out⟩, HB3.out⟩

end Go.Proofs.YtbkimfhlgpgoiaaGreatDoor.Hand

namespace Go.Proofs.YtbkimfhlgpgoiaaGreatDoor.Hand
open Go.RowKit Go.Proofs.YtbkimfhlgpgoiaaGreatDoorW.PrintWords Go.Proofs.YtbkimfhlgpgoiaaGreatDoorW.PrintLast Go.Proofs.YtbkimfhlgpgoiaaGreatDoorW.PrintMore
set_option linter.unusedVariables false
set_option linter.unusedSimpArgs false

/-- Bytes onto a row that may bear a mark behind its end. -/
theorem append_bytes (w : World) (B bh ch n m : Nat) (cur : Array Value) (fz : Nat × Nat) (hh : w.heap[bh]? = some (.cells cur 5 fz)) (hfz : fz = (0, 0) ∨ cur.size ≤ fz.1) (olds : List Value) (hn : olds.length = n)
    (hold : ∀ (j : Nat) (v : Value), olds[j]? = some v → cur[j]? = some v) (hle : n ≤ ch) (hch : ch ≤ cur.size) (x : Value) (news : List Value) (hs : Src Tryz.prog 1 22 x m news w) (hm0 : 0 < m) (hm : n + m ≤ 1000) (hB : B ≤ bh) (hBw : B ≤ w.heap.size) :
    ∃ b1 c1 cur1 fz1 w1, (Builtin.append_ #[22, 22] 22 #[.slice (some ⟨bh, 0, none⟩) n ch, x]).run Tryz.prog w = .ok (.slice (some ⟨b1, 0, none⟩) (n + m) c1) w1 ∧ w1.heap[b1]? = some (.cells cur1 5 fz1) ∧ (fz1 = (0, 0) ∨ cur1.size ≤ fz1.1) ∧
      (∀ (j : Nat) (v : Value), (olds ++ news)[j]? = some v → cur1[j]? = some v) ∧ n + m ≤ c1 ∧ c1 ≤ cur1.size ∧ B ≤ b1 ∧ Below B w w1 ∧ (∃ cur2 fz2, w1.heap[bh]? = some (.cells cur2 5 fz2) ∧ ∀ (j : Nat) (v : Value), olds[j]? = some v → cur2[j]? = some v) := by
  obtain ⟨i0, hi0, hz0, hsz0, hby0⟩ := info_parts info5
  have hml : news.length = m := by have := hs.newsLen; omega
  have hbh : bh < w.heap.size := (Array.getElem?_eq_some_iff.1 hh).1
  by_cases hg : n + m ≤ ch
  · have hs' : Src Tryz.prog i0.size 22 x m news w := by rw [hsz0]; exact hs
    have hrun := Vx.append_room (P := Tryz.prog) w 22 22 22 5 i0 Tryz.underlying22 hi0 bh n ch cur fz hh hfz x m news hs' hg (by rw [hsz0]; omega)
    rw [hsz0, Nat.mul_one] at hrun
    refine ⟨bh, ch, _, fz, _, hrun, setRow_heap w bh _ _ 5 fz hh, ?_, ?_, hg, ?_, hB, ⟨rfl, rfl, rfl, by rw [setRow_size]; exact Nat.le_refl _, fun k hk => setRow_other _ _ _ _ (by omega)⟩, _, fz, setRow_heap w bh _ _ 5 fz hh, ?_⟩
    · rcases hfz with h | h
      · exact .inl h
      · right; simp; omega
    · intro j v hj
      rw [List.getElem?_toArray]
      by_cases hjn : j < n
      · rw [List.getElem?_append_left (by omega)] at hj
        rw [List.append_assoc, List.getElem?_append_left (by simp; omega), List.getElem?_take, if_pos hjn]
        simpa using hold j v hj
      · rw [List.getElem?_append_right (by omega), hn] at hj
        have hjm : j - n < news.length := (List.getElem?_eq_some_iff.1 hj).1
        have htl : (cur.toList.take n).length = n := by simp; omega
        rw [List.getElem?_append_left (by rw [List.length_append, htl]; omega), List.getElem?_append_right (by omega), htl]
        exact hj
    · simp; omega
    · intro j v hj
      have hjn : j < n := by have := (List.getElem?_eq_some_iff.1 hj).1; omega
      rw [List.getElem?_toArray, List.append_assoc, List.getElem?_append_left (by simp; omega), List.getElem?_take, if_pos hjn]
      simpa using hold j v hj
  · have hs' : Src Tryz.prog i0.size 22 x m news w := by rw [hsz0]; exact hs
    have hcell : ∀ j v, olds[j]? = some v → w.drew.cell? ((⟨bh, 0, none⟩ : Addr).add j) = some v := by
      intro j v hj
      have := hold j v hj
      rw [Addr.add_lit, Nat.zero_add]
      simp [World.cell?, World.drew, -World.drew_eq, hh, this]
    have hfo := run_firstCells_some (P := Tryz.prog) w.drew i0.size n ⟨bh, 0, none⟩ n ch olds (by rw [hsz0]; omega) hcell
    have hfit := growslice_fits (need := n + m) (old := ch) (bytes := i0.bytes) (by omega) (by rw [hby0]; omega)
    have hrun := run_append_grow_src (P := Tryz.prog) w 22 22 22 5 i0 (.int .u8 0) Tryz.underlying22 hi0 hz0 (some ⟨bh, 0, none⟩) n ch olds hfo x m news hs' (by omega) (by omega) hfit
    have hge := grownCap_ge w (n + m) ch 5
    have hheap : ∀ o, (w.drew.alloc o).heap[w.heap.size]? = some o := by intro o; simp [World.alloc, World.drew, -World.alloc_eq, -World.drew_eq]
    refine ⟨w.heap.size, _, _, (0, 0), _, hrun, hheap _, .inl rfl, ?_, hge, ?_, hBw, ⟨rfl, rfl, rfl, by simp, fun k hk => Below.heap_alloc _ _ _ (by simp; omega)⟩, cur, fz, ?_, hold⟩
    · intro j v hj
      have hjl : j < (olds ++ news).toArray.size := by simpa using (List.getElem?_eq_some_iff.1 hj).1
      rw [Array.getElem?_append_left hjl]
      simpa using hj
    · rw [Array.size_append, size_zeroCells]
      simp [Value.cells]
      omega
    · rw [← hh]
      exact Below.heap_alloc _ _ _ (by simpa using hbh)

theorem wpList_append_run {ops : Array Oper} {rest : List Oper} {o : Oper} {a : Act} {Q : Exit → Act → World → Prop} (hgd : o.guard = none) (s x : Operand) (ho : o.op = .call { callee := .builtin .append, args := #[s, x], argTypes := #[22, 22] })
    {v u r : Value} {w w' : World} (hs : a.eval s = v) (hx : a.eval x = u) (hrun : (Builtin.append_ #[22, 22] o.type #[v, u]).run Tryz.prog w = .ok r w') (h : wpList Tryz.prog ops Q rest (a.put o.dst r) w') : wpList Tryz.prog ops Q (o :: rest) a w :=
  wpList_plain hgd fun K hK => by
    unfold Oper.wp
    have : (execOp a.eval o).run Tryz.prog w = .ok (.value r) w' := by simp [execOp, ho, resolve, invoke, builtin, hs, hx, hrun]
    rw [this]
    exact hK _ _ h

set_option maxHeartbeats 8000000 in
set_option maxRecDepth 100000 in
theorem surround_calls (w : World) (B bc bh cc ch : Nat) (cur : Array Value) (fz : Nat × Nat) (hc : w.cell? ⟨bc, 0, none⟩ = some (.int .u8 97)) (hh : w.heap[bh]? = some (.cells cur 5 fz)) (hfz : fz = (0, 0) ∨ cur.size ≤ fz.1) (h34 : cur[0]? = some (.int .u8 34))
    (h1 : 1 ≤ ch) (h2 : ch ≤ cur.size) (hB : B ≤ bh) (hBw : B ≤ w.heap.size) :
    Calls Tryz.prog 75 #[.slice (some ⟨bc, 0, none⟩) 1 cc, .slice (some ⟨bh, 0, none⟩) 1 ch] w fun e w' => (∃ b c, e = .returned (.slice (some ⟨b, 0, none⟩) 3 c) ∧
      ∀ (j : Nat) (v : Value), [Value.int .u8 34, .int .u8 97, .int .u8 34][j]? = some v → w'.cell? ⟨b, j, none⟩ = some v) ∧ Below B w w' := by
  have one : ∀ {b : Nat} {u : World} {v : Value}, u.cell? ⟨b, 0, none⟩ = some v → ∀ (j : Nat) (x : Value), [v][j]? = some x → u.cell? ((⟨b, 0, none⟩ : Addr).add j) = some x := by
    intro b u v h j x hj
    cases j with
    | zero => simp at hj; subst hj; exact h
    | succ j => simp at hj
  obtain ⟨b1, c1, cur1, fz1, w1, r1, p1, p2, p3, p4, p5, p6, p7, cur2, fz2, p8, p9⟩ := append_bytes w B bh ch 1 1 cur fz hh hfz [.int .u8 34] rfl (fun j v hj => by
      cases j with
      | zero => simp at hj; subst hj; exact h34
      | succ j => simp at hj) h1 h2 (.slice (some ⟨bc, 0, none⟩) 1 cc) [.int .u8 97] (Src.ofSlice w Tryz.underlying22 ⟨bc, 0, none⟩ 1 cc _ rfl (one hc) (fun u hu => by simp at hu; subst hu; rfl)) (by omega) (by omega) hB hBw
  have hc2 : w1.cell? ⟨bh, 0, none⟩ = some (.int .u8 34) := by
    simp only [World.cell?, p8]
    exact p9 0 _ rfl
  have hsz1 : B ≤ w1.heap.size := Nat.le_trans hBw p7.size
  obtain ⟨b3, c3, cur3, fz3, w3, r3, q1, q2, q3, q4, q5, q6, q7, _⟩ := append_bytes w1 B b1 c1 2 1 cur1 fz1 p1 p2 [.int .u8 34, .int .u8 97] rfl p3 p4 p5 (.slice (some ⟨bh, 0, none⟩) 1 ch) [.int .u8 34] (Src.ofSlice w1 Tryz.underlying22 ⟨bh, 0, none⟩ 1 ch _ rfl (one hc2) (fun u hu => by simp at hu; subst hu; rfl)) (by omega) (by omega) p6 hsz1
  have R1 := Aside0.mk r1
  have R3 := Aside0.mk r3
  have HB := Aside0.mk (Below.trans p7 q7)
  have HC := Aside0.mk (show ∀ (j : Nat) (v : Value), [Value.int .u8 34, .int .u8 97, .int .u8 34][j]? = some v → w3.cell? ⟨b3, j, none⟩ = some v from fun j v hj => by simp only [World.cell?, q1]; exact q3 j v hj)
  clear r1 r3 p1 p2 p3 p4 p5 p6 p7 p8 p9 q1 q2 q3 q4 q5 q6 q7 hc hh hfz h34 h1 h2 hB hBw hc2 hsz1
  go_enter Tryz.func75, Tryz.ntmps75
  go_wp2_with (first
    | (at_builtin; refine wpList_append_run rfl (.tmp 5) (.tmp 6) rfl rfl rfl R1.out ?_)
    | (at_builtin; refine wpList_append_run rfl (.tmp 8) (.tmp 9) rfl rfl rfl R3.out ?_))
  go_ret
  exact ⟨⟨b3, c3, rfl, HC.out⟩, HB.out⟩
end Go.Proofs.YtbkimfhlgpgoiaaGreatDoor.Hand

namespace Go.Proofs.YtbkimfhlgpgoiaaGreatDoor.Hand
open Go.RowKit Go.Proofs.YtbkimfhlgpgoiaaGreatDoorW.PrintWords Go.Proofs.YtbkimfhlgpgoiaaGreatDoorW.PrintLast Go.Proofs.YtbkimfhlgpgoiaaGreatDoorW.PrintMore
attribute [local go_sem] max2_int min2_int max_two min_two max_three min_three max_four min_four
set_option linter.unusedVariables false
set_option linter.unusedSimpArgs false

/-! ### textutils_zzHas: function 73 -/
def textutils_zzHas.l0 : Nat → List Int → Int → Int → Option (Bool)
  | 0, _, _, _ => none
  | k + 1, x0, x1, x5 => if x5 < (x0.length : Int) then (if 0 ≤ x5 then (if (rd x0 x5) = x1 then (some true) else (textutils_zzHas.l0 k x0 x1 (wrap64 (x5 + 1)))) else (none)) else (some false)
def textutils_zzHas.f (k : Nat) (l0 : List Int) (a1 : Int) : Option (Bool) := textutils_zzHas.l0 k l0 a1 0
theorem textutils_zzHas.mono_l : ∀ k, (∀ y0 y1 y2, LeO (textutils_zzHas.l0 k y0 y1 y2) (textutils_zzHas.l0 (k + 1) y0 y1 y2))
  | 0 => fun _ _ _ r h => by simp [textutils_zzHas.l0] at h
  | k + 1 => by
    have ih0 := textutils_zzHas.mono_l k
    · intro y0 y1 y2
      unfold textutils_zzHas.l0
      repeat' first
      | (with_reducible exact ih0 _ _ _)
      | (with_reducible exact LeO.refl _)
      | (with_reducible exact LeO.none _)
      | (with_reducible refine LeO.ite ?_ ?_)
      | (with_reducible refine LeO.bind ?_ (fun _ => ?_))
      | exact ih0 _ _ _
      | exact LeO.none _
      | refine LeO.ite ?_ ?_
      | refine LeO.bind ?_ (fun _ => ?_)
theorem textutils_zzHas.mono : ∀ a0 a1 k, LeO (textutils_zzHas.f k a0 a1) (textutils_zzHas.f (k + 1) a0 a1) := by
  intro a0 a1 k
  have ih0 := textutils_zzHas.mono_l k
  unfold textutils_zzHas.f
  repeat' first
      | (with_reducible exact ih0 _ _ _)
      | (with_reducible exact LeO.refl _)
      | (with_reducible exact LeO.none _)
      | (with_reducible refine LeO.ite ?_ ?_)
      | (with_reducible refine LeO.bind ?_ (fun _ => ?_))
      | exact ih0 _ _ _
      | exact LeO.none _
      | refine LeO.ite ?_ ?_
      | refine LeO.bind ?_ (fun _ => ?_)
set_option maxHeartbeats 8000000 in
set_option maxRecDepth 100000 in
theorem textutils_zzHas.calls (k : Nat) (A0 : Option Addr) (c0 : Nat) (l0 : List Int) (a1 : Int) (r : Bool) (w : World) (hr0 : Kd.C (Kd.int .u8) w A0 l0.length l0) (hc0 : l0.length ≤ c0) (h : textutils_zzHas.f k l0 a1 = some r) :
    Calls Tryz.prog 73 #[.slice A0 l0.length c0, .int .u8 a1] w fun e w' => e = .returned (.bool r) ∧ Drawn0 w w' := by
  have HR0 := Aside0.mk hr0
  have HC0 := Aside0.mk hc0
  clear hr0 hc0
  have H : (textutils_zzHas.l0 k l0 a1 0) = some r := h
  clear h
  have H' := Aside0.mk H
  clear H
  go_enter Tryz.func73, Tryz.ntmps73
  go_wp2
  go_loopg [5] k (fun kq v5 w' => ∃ (x5_1 : Int), v5 = .int .i64 x5_1 ∧ Aside0 (textutils_zzHas.l0 kq l0 a1 x5_1 = some r) ∧ Aside0 (kq ≤ k) ∧ Drawn0 w w')
  case atStart => exact ⟨(0), (by first | rfl | (simp; done) | (simp [*]; done)), H', ⟨Nat.le_refl _⟩, by repeat (first | exact Drawn0.refl _ | apply Drawn0.step)⟩
  case round =>
    clear H'
    try clear p2
    obtain ⟨x5_1, rfl, HA, HK1, ⟨m1, rfl⟩⟩ := hrel
    cases gk with
    | zero => exact absurd HA.out (by simp [textutils_zzHas.l0])
    | succ k1 =>
      have H := HA.out
      clear HA
      simp only [textutils_zzHas.l0] at H
      by_cases c3 : x5_1 < (l0.length : Int)
      · rw [if_pos c3] at H
        have c3b0 : decide (x5_1 < (l0.length : Int)) = true := decide_eq_true c3
        clear c3
        by_cases c4 : 0 ≤ x5_1
        · rw [if_pos c4] at H
          have c4b0 : decide (0 ≤ x5_1) = true := decide_eq_true c4
          clear c4
          by_cases c5 : (rd l0 x5_1) = a1
          · rw [if_pos c5] at H
            have c5b0 : ((rd l0 x5_1) == a1) = true := beq_iff_eq.mpr c5
            have c5b1 : ((rd l0 x5_1) != a1) = false := bne_eq_false_iff_eq.mpr c5
            clear c5
            obtain rfl := Option.some.inj H
            have p107 : 0 ≤ (x5_1 : Int) := of_decide_eq_true (by first | (with_reducible assumption) | assumption)
            have q107 : x5_1 < (l0.length : Int) := of_decide_eq_true (by first | (with_reducible assumption) | assumption)
            obtain ⟨ad107, e107, hx107_0⟩ := Kd.at_int HR0.out x5_1 p107 q107
            cases e107
            replace p107 := eq_true p107
            replace q107 := eq_true q107
            go_wp2
            go_ret
            exact ⟨by first | rfl | (simp; done) | (simp [*]; done), by repeat (first | exact Drawn0.refl _ | apply Drawn0.step)⟩
          · rw [if_neg c5] at H
            have c5b0 : ((rd l0 x5_1) == a1) = false := beq_eq_false_iff_ne.mpr c5
            have c5b1 : ((rd l0 x5_1) != a1) = true := bne_iff_ne.mpr c5
            have H' := Aside0.mk H
            clear H
            have p107 : 0 ≤ (x5_1 : Int) := of_decide_eq_true (by first | (with_reducible assumption) | assumption)
            have q107 : x5_1 < (l0.length : Int) := of_decide_eq_true (by first | (with_reducible assumption) | assumption)
            obtain ⟨ad107, e107, hx107_0⟩ := Kd.at_int HR0.out x5_1 p107 q107
            cases e107
            replace p107 := eq_true p107
            replace q107 := eq_true q107
            go_wp2
            go_roundg k1
            case measure => have := HK1.out; omega
            case rel => exact ⟨(wrap64 (x5_1 + 1)), (by first | rfl | (simp; done) | (simp [*]; done)), H', ⟨by have := HK1.out; omega⟩, by repeat (first | exact Drawn0.refl _ | apply Drawn0.step)⟩
        · rw [if_neg c4] at H
          exact absurd H (by simp)
      · rw [if_neg c3] at H
        have c3b0 : decide (x5_1 < (l0.length : Int)) = false := decide_eq_false c3
        clear c3
        obtain rfl := Option.some.inj H
        go_wp2
        go_ret
        exact ⟨by first | rfl | (simp; done) | (simp [*]; done), by repeat (first | exact Drawn0.refl _ | apply Drawn0.step)⟩


theorem has_a (c : Int) (h : textutils_zzHas.f 3 [97] c = some false) (b cc : Nat) (w : World) (hc : w.cell? ⟨b, 0, none⟩ = some (.int .u8 97)) (h1 : 1 ≤ cc) : Calls Tryz.prog 73 #[.slice (some ⟨b, 0, none⟩) 1 cc, .int .u8 c] w fun e w' => e = .returned (.bool false) ∧ Drawn0 w w' := by
  have hC : Kd.C (Kd.int .u8) w (some ⟨b, 0, none⟩) (bytesI [97]).length (bytesI [97]) := C_mk (by decide) fun j hj => by
    have : j = 0 := by simp at hj; exact hj
    subst this; exact hc
  exact textutils_zzHas.calls 3 (some ⟨b, 0, none⟩) cc [97] c false w hC h1 h

theorem has34 : textutils_zzHas.f 3 [97] 34 = some false := by kernel_rfl
theorem has39 : textutils_zzHas.f 3 [97] 39 = some false := by kernel_rfl

/-- The quotation mark's own row, marked as a string's. -/
def markW (w : World) : World := (w.alloc (.cells #[.int .u8 34] 5)).freeze ⟨w.heap.size, 1, none⟩ 1

theorem mark_run (w : World) : (convert 22 22 (.slice (some ⟨w.heap.size, 0, none⟩) 1 1)).run Tryz.prog (w.alloc (.cells #[.int .u8 34] 5)) = .ok (.slice (some ⟨w.heap.size, 0, none⟩) 1 1) (markW w) := by
  have hsh : (w.alloc (.cells #[.int .u8 34] 5)).shape? w.heap.size = some (5, 1) := by simp [World.shape?, World.alloc, -World.alloc_eq]
  simp [convert, run_underlying Tryz.underlying22, run_underlying Tryz.underlying5, markStringish, hsh, markW]

theorem mark_row (w : World) : (markW w).heap[w.heap.size]? = some (.cells #[.int .u8 34] 5 (1, 2)) := by
  have h0 : (w.alloc (.cells #[.int .u8 34] 5)).heap[w.heap.size]? = some (.cells #[.int .u8 34] 5 (0, 0)) := by simp [World.alloc, -World.alloc_eq]
  unfold markW World.freeze
  rw [if_neg (by decide)]
  simp only [Array.getElem?_modify, if_true, h0, Option.map_some]
  rfl

theorem mark_below (w : World) : Below w.heap.size w (markW w) :=
  ⟨rfl, rfl, rfl, by simp [markW, World.freeze], fun k hk => by
    have : w.heap.size ≠ k := by omega
    simp [markW, World.freeze, World.alloc, -World.alloc_eq, Array.getElem?_modify, Array.getElem?_push, this, Ne.symm this]⟩

set_option maxHeartbeats 8000000 in
set_option maxRecDepth 100000 in
theorem quotes_calls (w : World) (bc cc : Nat) (hc : w.cell? ⟨bc, 0, none⟩ = some (.int .u8 97)) (h1 : 1 ≤ cc) : Calls Tryz.prog 38 #[.slice (some ⟨bc, 0, none⟩) 1 cc] w fun e w' => (∃ b c, e = .returned (.slice (some ⟨b, 0, none⟩) 3 c) ∧
      ∀ (j : Nat) (v : Value), [Value.int .u8 34, .int .u8 97, .int .u8 34][j]? = some v → w'.cell? ⟨b, j, none⟩ = some v) ∧ Below w.heap.size w w' := by
  have HC := Aside0.mk hc
  have H1 := Aside0.mk h1
  clear hc h1
  go_enter Tryz.func38, Tryz.ntmps38
  go_wp2_with (go_at_call 73; fail)
  refine (has_a 34 has34 bc cc _ HC.out H1.out).mono ?_
  rintro e w1 ⟨rfl, hd⟩
  have hcc1 : w1.cell? ⟨bc, 0, none⟩ = some (.int .u8 97) := by obtain ⟨n, rfl⟩ := hd.out; exact HC.out
  have HB1 := Aside0.mk hd.below
  have HC1 := Aside0.mk hcc1
  clear hd hcc1
  go_wp2_with (go_at_call 73; fail)
  refine (has_a 39 has39 bc cc _ HC1.out H1.out).mono ?_
  rintro e w2 ⟨rfl, hd⟩
  have hcc2 : w2.cell? ⟨bc, 0, none⟩ = some (.int .u8 97) := by obtain ⟨n, rfl⟩ := hd.out; exact HC1.out
  have HB2 := Aside0.mk (below_step HB1.out hd.below)
  have HC2 := Aside0.mk hcc2
  clear hd hcc2
  have hcl : bc < w2.heap.size := by
    have h := HC2.out
    simp only [World.cell?] at h
    split at h
    · rename_i h'; exact (Array.getElem?_eq_some_iff.1 h').1
    · cases h
  have hcm : (markW w2).cell? ⟨bc, 0, none⟩ = some (.int .u8 97) := by
    have h := HC2.out
    simp only [World.cell?] at h ⊢
    rw [(mark_below w2).block _ hcl]; exact h
  have CS := Aside0.mk (surround_calls (markW w2) w.heap.size bc w2.heap.size cc 1 #[.int .u8 34] (1, 2) hcm (mark_row w2) (.inr (Nat.le_refl _)) rfl (Nat.le_refl _) (Nat.le_refl _) HB2.out.size (Nat.le_trans HB2.out.size (mark_below w2).size))
  have HM := Aside0.mk (below_step HB2.out (mark_below w2))
  have hcv := mark_run w2
  clear hcl hcm
  go_wp2_with (go_at_call 75; fail)
  refine CS.out.mono ?_
  rintro e w4 ⟨⟨b, c, rfl, h3⟩, hb⟩
  have H3 := Aside0.mk h3
  clear h3
  go_wp2
  go_ret
  exact ⟨⟨b, c, rfl, H3.out⟩, Below.trans HM.out hb⟩

set_option maxHeartbeats 8000000 in
set_option maxRecDepth 100000 in
theorem quoted_calls (w : World) : Calls Tryz.prog 22 #[.string ⟨#[97]⟩] w fun e w' => e = .returned (.string ⟨#[34, 97, 34]⟩) ∧ Below w.heap.size w w' := by
  have hB := bytesWorld_below w ⟨#[97]⟩
  have hcell : (Lib.bytesWorld w 5 ⟨#[97]⟩).cell? ⟨w.heap.size, 0, none⟩ = some (.int .u8 97) := Lib.bytesWorld_cell w 5 ⟨#[97]⟩ 0 (by decide)
  have CQ := Aside0.mk (quotes_calls (Lib.bytesWorld w 5 ⟨#[97]⟩) w.heap.size (grownCap w 1 0 5) hcell (grownCap_ge _ _ _ _))
  have HB := Aside0.mk hB
  have hcv : (convert 9 22 (.string ⟨#[97]⟩)).run Tryz.prog w = .ok (.slice (some ⟨w.heap.size, 0, none⟩) 1 (grownCap w 1 0 5)) (Lib.bytesWorld w 5 ⟨#[97]⟩) :=
    Lib.run_convert_string_bytes w 9 22 5 ⟨#[97]⟩ Tryz.underlying9 Tryz.underlying22 Tryz.underlying5
  clear hB hcell
  go_enter Tryz.func22, Tryz.ntmps22
  go_wp2_with (go_at_call 38; fail)
  refine CQ.out.mono ?_
  rintro e w2 ⟨⟨b, c, rfl, h3⟩, hb⟩
  have hcb : (convert 22 9 (.slice (some ⟨b, 0, none⟩) 3 c)).run Tryz.prog w2 = .ok (.string ⟨#[34, 97, 34]⟩) w2 :=
    Kd.C_string (P := Tryz.prog) (xs := bytesI [34, 97, 34]) Tryz.underlying22 Tryz.underlying5 Tryz.underlying9 (C_mk (o := 0) (by decide) fun j hj => by
      rw [Nat.zero_add]
      have hjj : j = 0 ∨ j = 1 ∨ j = 2 := by simp at hj; omega
      rcases hjj with rfl | rfl | rfl
      · exact h3 0 _ rfl
      · exact h3 1 _ rfl
      · exact h3 2 _ rfl)
  have HZ := Aside0.mk (below_step HB.out hb)
  clear h3 hb
  go_wp2
  go_ret
  exact ⟨rfl, HZ.out⟩
end Go.Proofs.YtbkimfhlgpgoiaaGreatDoor.Hand
