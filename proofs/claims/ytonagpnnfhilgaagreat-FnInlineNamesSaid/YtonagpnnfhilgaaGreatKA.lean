/- Walks: guarded, Quoted, bytes.Buffer. Conditions: those in each statement. -/
import Derived.Test.YtonagpnnfhilgaaGreatWMore
import Derived.Test.YtonagpnnfhilgaaGreatVxZ
import Derived.Defers
import Derived.Recover
import Derived.Lib.ConvBytes
import Derived.Lib.OthersKept
import Derived.Lib.FieldsU
import Derived.WalkKit
import Derived.Test.YtonagpnnfhilgaaGreatProg
import Derived.Test.YtonagpnnfhilgaaGreatShelfN
import Derived.Shelf.RegionOpenPlain
import Derived.Lib.BufferOwn
import Derived.Lib.BufferMore
import Derived.Lib.BufferGrow
import Derived.RegionTactic
import Derived.Deep.RegionWith
import Derived.Deep.Draws
import Derived.BigCall
import Derived.BigGuard
import Derived.Laws.Cover3
import Derived.Lib.BufferWrite
import Derived.Laws.MakeOwn
import Derived.Laws.CopyRow
namespace Go.Proofs.YtonagpnnfhilgaaGreat.Hand
open Go.RowKit Go.Proofs.YtonagpnnfhilgaaGreatW.PrintWords Go.Proofs.YtonagpnnfhilgaaGreatW.PrintLast Go.Proofs.YtonagpnnfhilgaaGreatW.PrintMore
attribute [local go_sem] max2_int min2_int max_two min_two max_three min_three max_four min_four
set_option linter.unusedVariables false
set_option linter.unusedSimpArgs false

def bytesI (bs : List UInt8) : List Int := bs.map fun c => (c.toNat : Int)

theorem bytesI_length (bs : List UInt8) : (bytesI bs).length = bs.length := List.length_map ..

/-- The deferred closure where nothing panics: recover finds nothing. -/
theorem catch_idle (p : Addr) (w : World) :
    CallsD Tryz.prog 21 #[.pointer (some p)] .returning w fun e u' w' => e = .returned (.tuple #[]) ∧ u' = .returning ∧ w' = w := by
  refine callsD_of_wpS Tryz.func21 rfl fun c₀ cs hu => ?_
  apply wpS_seq
  apply wpS_region
  simp [wpOpsS, go_sem, recoverD, hu, Tryz.ntmps21, Exit.thenS]
  refine wpS_cond (t := false) (by simp [Act.eval, Array.replicate]) ?_
  simp only [Bool.false_eq_true, if_false]
  refine wpS_of_wp (wp_skip ?_)
  cases c₀
  simp_all [bodyPostS, results, Tryz.results21]

set_option maxHeartbeats 8000000 in
set_option maxRecDepth 100000 in
theorem guarded_calls (g : FuncId) (first cap : Array Value) (w : World) (R : World → Prop) (hg : (callFunc g (first ++ cap)).run Tryz.prog (w.alloc (.cells #[.bool false] 4)) = .ok (.enter g (first ++ cap)) (w.alloc (.cells #[.bool false] 4)))
    (h : Calls Tryz.prog g (first ++ cap) (w.alloc (.cells #[.bool false] 4)) (fun e w' => (∃ x, e = .returned x) ∧ w'.heap[w.heap.size]? = some (.cells #[.bool false] 4 (0, 0)) ∧ R w')) :
    Calls Tryz.prog 11 #[.func (.func g) first cap] w fun e w' => e = .returned (.bool false) ∧ ∃ w2, R w2 ∧ Below w2.heap.size w2 w' := by
  have hmf : ∀ (fn : Fn) (first cap : Array Value) (w : World), (Instr.makeFunc fn first cap).run Tryz.prog w = .ok (.func fn first cap) w := fun _ _ _ _ => rfl
  have H := Aside0.mk h
  clear h
  go_enter_defers Tryz.func11, Tryz.ntmps11
  go_wp2
  refine H.out.mono ?_
  rintro e w2 ⟨⟨x, rfl⟩, h0, hR⟩
  have hc0 : w2.cell? ⟨w.heap.size, 0, none⟩ = some (.bool false) := by simp [World.cell?, h0]
  have hf0 : w2.frozen? ⟨w.heap.size, 0, none⟩ = false := by simp [World.frozen?, h0]
  have H0 := Aside0.mk h0
  clear h0
  go_wp2
  have hs : w2.setCell ⟨w.heap.size, 0, none⟩ (.bool false) = w2 := by
    rw [setCell_eq_setRow w2 w.heap.size 0 _ _ _ _ H0.out]
    exact setRow_self w2 w.heap.size _ _ _ H0.out
  rw [hs]
  refine leaves_cons (f := 21) (args := #[.pointer (some ⟨w.heap.size, 0, none⟩)]) (by simp) (by simp [go_sem]) ?_
  refine (catch_idle ⟨w.heap.size, 0, none⟩ _).mono ?_
  rintro e u' w'' ⟨rfl, rfl, rfl⟩
  have hB : ∃ w2', R w2' ∧ Below w2'.heap.size w2' w'' := ⟨w'', hR, Below.refl _ _⟩
  have HB := Aside0.mk hB
  clear hB hR
  simp [Leaves, settle, results, Tryz.results11, go_sem, hc0]
  exact HB.out
theorem C_mk {w : World} {b o : Nat} {bs : List UInt8} (h63 : bs.length ≤ 9223372036854775806) (h : ∀ j (hj : j < bs.length), w.cell? ⟨b, o + j, none⟩ = some (.int .u8 (bs[j].toNat : Int))) :
    Kd.C (Kd.int .u8) w (some ⟨b, o, none⟩) (bytesI bs).length (bytesI bs) := by
  refine ⟨rfl, by rw [bytesI_length]; omega, fun _ => ⟨_, rfl, fun j p hp => ?_⟩⟩
  have hj : j < bs.length := by
    have := (List.getElem?_eq_some_iff.1 hp).1
    rw [bytesI_length] at this; exact this
  have hv : p = (bs[j].toNat : Int) := by
    simp [bytesI, hj] at hp
    exact hp.symm
  refine ⟨[.int .u8 p], rfl, rfl, fun i u hi => ?_⟩
  cases i with
  | zero =>
    simp at hi
    subst hi
    change w.cell? ((⟨b, o, none⟩ : Addr).add (j * 1 + 0)) = _
    rw [Addr.add_lit, Nat.mul_one, Nat.add_zero, h j hj, hv]
  | succ i => simp at hi

/-- The bytes of a text, laid for a test. -/
theorem bytes_C (w : World) (s : ByteArray) (h63 : s.size ≤ 9223372036854775806) : Kd.C (Kd.int .u8) (Lib.bytesWorld w 5 s) (some ⟨w.heap.size, 0, none⟩) (bytesI s.data.toList).length (bytesI s.data.toList) := by
  have hl : s.data.toList.length = s.size := by rw [Array.length_toList]; rfl
  refine C_mk (by rw [hl]; exact h63) fun j hj => ?_
  rw [Nat.zero_add, Lib.bytesWorld_cell w 5 s j (by omega)]
  congr 3
  rw [List.getD_eq_getElem?_getD, List.getElem?_eq_getElem hj]; rfl

theorem bytesWorld_below (w : World) (s : ByteArray) : Below w.heap.size w (Lib.bytesWorld w 5 s) := by
  exact ⟨rfl, rfl, rfl, by rw [Lib.bytesWorld_size]; omega, fun k hk => Lib.bytesWorld_at_old w 5 s k hk⟩

theorem own_moved {w : World} {B e size n : Nat} {v : Value} {xs : List Value} {k : Nat} {s : ByteArray} {pos : Nat} (h : w.ownsRow B e size v n xs) (hk : w.heap[k]? = some (.stringIter s pos)) (pos' : Nat) : (w.iterAt k s pos').ownsRow B e size v n xs :=
  own_move h fun g hg => Lib.iterAt_other _ _ _ _ _ (fun e => by
    obtain ⟨cells, hc⟩ := own_typed h g hg
    rw [e, hk] at hc
    cases hc)

theorem own_ne {w : World} {B e size n : Nat} {v : Value} {xs : List Value} {k : Nat} {s : ByteArray} {pos : Nat} (h : w.ownsRow B e size v n xs) (hk : w.heap[k]? = some (.stringIter s pos)) : some k ≠ v.ownBlock := by
  intro e
  obtain ⟨cells, hc⟩ := own_typed h k e.symm
  rw [hk] at hc
  cases hc

theorem info5 : (Tryz.prog.info? 5).map (fun i => (i.zero, i.size, i.bytes)) = some (some (.int .u8 0), 1, 1) := by kernel_rfl

/-- Bytes onto a row that may bear a mark behind its end. -/
theorem append_bytes (w : World) (B bh ch n m : Nat) (cur : Array Value) (fz : Nat × Nat) (hh : w.heap[bh]? = some (.cells cur 5 fz)) (hfz : fz = (0, 0) ∨ cur.size ≤ fz.1) (olds : List Value) (hn : olds.length = n)
    (hold : ∀ (j : Nat) (v : Value), olds[j]? = some v → cur[j]? = some v) (hle : n ≤ ch) (hch : ch ≤ cur.size) (x : Value) (news : List Value) (hs : Src Tryz.prog 1 47 x m news w) (hm0 : 0 < m) (hm : n + m ≤ 1000) (hB : B ≤ bh) (hBw : B ≤ w.heap.size) :
    ∃ b1 c1 cur1 fz1 w1, (Builtin.append_ #[47, 47] 47 #[.slice (some ⟨bh, 0, none⟩) n ch, x]).run Tryz.prog w = .ok (.slice (some ⟨b1, 0, none⟩) (n + m) c1) w1 ∧ w1.heap[b1]? = some (.cells cur1 5 fz1) ∧ (fz1 = (0, 0) ∨ cur1.size ≤ fz1.1) ∧
      (∀ (j : Nat) (v : Value), (olds ++ news)[j]? = some v → cur1[j]? = some v) ∧ n + m ≤ c1 ∧ c1 ≤ cur1.size ∧ B ≤ b1 ∧ Below B w w1 ∧ (∃ cur2 fz2, w1.heap[bh]? = some (.cells cur2 5 fz2) ∧ ∀ (j : Nat) (v : Value), olds[j]? = some v → cur2[j]? = some v) := by
  obtain ⟨i0, hi0, hz0, hsz0, hby0⟩ := info_parts info5
  have hml : news.length = m := by have := hs.newsLen; omega
  have hbh : bh < w.heap.size := (Array.getElem?_eq_some_iff.1 hh).1
  by_cases hg : n + m ≤ ch
  · have hs' : Src Tryz.prog i0.size 47 x m news w := by rw [hsz0]; exact hs
    have hrun := Vx.append_room (P := Tryz.prog) w 47 47 47 5 i0 Tryz.underlying47 hi0 bh n ch cur fz hh hfz x m news hs' hg (by rw [hsz0]; omega)
    rw [hsz0, Nat.mul_one] at hrun
    refine ⟨bh, ch, _, fz, _, hrun, setRow_heap w bh _ _ 5 fz hh, ?_, ?_, hg, ?_, hB, ⟨rfl, rfl, rfl, by rw [setRow_size]; exact Nat.le_refl _, fun k hk => setRow_other _ _ _ _ (by omega)⟩, _, fz, setRow_heap w bh _ _ 5 fz hh, ?_⟩
    · rcases hfz with h | h
      · exact .inl h
      · right; simp; omega
    · intro j v hj
      rw [List.getElem?_toArray]
      by_cases hjn : j < n
      · rw [List.getElem?_append_left (by omega)] at hj
        rw [List.append_assoc, List.getElem?_append_left (by simp; omega), List.getElem?_take, if_pos hjn]
        simpa using hold j v hj
      · rw [List.getElem?_append_right (by omega), hn] at hj
        have hjm : j - n < news.length := (List.getElem?_eq_some_iff.1 hj).1
        have htl : (cur.toList.take n).length = n := by simp; omega
        rw [List.getElem?_append_left (by rw [List.length_append, htl]; omega), List.getElem?_append_right (by omega), htl]
        exact hj
    · simp; omega
    · intro j v hj
      have hjn : j < n := by have := (List.getElem?_eq_some_iff.1 hj).1; omega
      rw [List.getElem?_toArray, List.append_assoc, List.getElem?_append_left (by simp; omega), List.getElem?_take, if_pos hjn]
      simpa using hold j v hj
  · have hs' : Src Tryz.prog i0.size 47 x m news w := by rw [hsz0]; exact hs
    have hcell : ∀ j v, olds[j]? = some v → w.drew.cell? ((⟨bh, 0, none⟩ : Addr).add j) = some v := by
      intro j v hj
      have := hold j v hj
      rw [Addr.add_lit, Nat.zero_add]
      simp [World.cell?, World.drew, -World.drew_eq, hh, this]
    have hfo := run_firstCells_some (P := Tryz.prog) w.drew i0.size n ⟨bh, 0, none⟩ n ch olds (by rw [hsz0]; omega) hcell
    have hfit := growslice_fits (need := n + m) (old := ch) (bytes := i0.bytes) (by omega) (by rw [hby0]; omega)
    have hrun := run_append_grow_src (P := Tryz.prog) w 47 47 47 5 i0 (.int .u8 0) Tryz.underlying47 hi0 hz0 (some ⟨bh, 0, none⟩) n ch olds hfo x m news hs' (by omega) (by omega) hfit
    have hge := grownCap_ge w (n + m) ch 5
    have hheap : ∀ o, (w.drew.alloc o).heap[w.heap.size]? = some o := by intro o; simp [World.alloc, World.drew, -World.alloc_eq, -World.drew_eq]
    refine ⟨w.heap.size, _, _, (0, 0), _, hrun, hheap _, .inl rfl, ?_, hge, ?_, hBw, ⟨rfl, rfl, rfl, by simp, fun k hk => Below.heap_alloc _ _ _ (by simp; omega)⟩, cur, fz, ?_, hold⟩
    · intro j v hj
      have hjl : j < (olds ++ news).toArray.size := by simpa using (List.getElem?_eq_some_iff.1 hj).1
      rw [Array.getElem?_append_left hjl]
      simpa using hj
    · rw [Array.size_append, size_zeroCells]
      simp [Value.cells]
      omega
    · rw [← hh]
      exact Below.heap_alloc _ _ _ (by simpa using hbh)

theorem wpList_append_run {ops : Array Oper} {rest : List Oper} {o : Oper} {a : Act} {Q : Exit → Act → World → Prop} (hgd : o.guard = none) (s x : Operand) (ho : o.op = .call { callee := .builtin .append, args := #[s, x], argTypes := #[47, 47] })
    {v u r : Value} {w w' : World} (hs : a.eval s = v) (hx : a.eval x = u) (hrun : (Builtin.append_ #[47, 47] o.type #[v, u]).run Tryz.prog w = .ok r w') (h : wpList Tryz.prog ops Q rest (a.put o.dst r) w') : wpList Tryz.prog ops Q (o :: rest) a w :=
  wpList_plain hgd fun K hK => by
    unfold Oper.wp
    have : (execOp a.eval o).run Tryz.prog w = .ok (.value r) w' := by simp [execOp, ho, resolve, invoke, builtin, hs, hx, hrun]
    rw [this]
    exact hK _ _ h

set_option maxHeartbeats 8000000 in
set_option maxRecDepth 100000 in
theorem surround_calls (w : World) (B bc bh cc ch : Nat) (cur : Array Value) (fz : Nat × Nat) (hc : w.cell? ⟨bc, 0, none⟩ = some (.int .u8 97)) (hh : w.heap[bh]? = some (.cells cur 5 fz)) (hfz : fz = (0, 0) ∨ cur.size ≤ fz.1) (h34 : cur[0]? = some (.int .u8 34))
    (h1 : 1 ≤ ch) (h2 : ch ≤ cur.size) (hB : B ≤ bh) (hBw : B ≤ w.heap.size) :
    Calls Tryz.prog 72 #[.slice (some ⟨bc, 0, none⟩) 1 cc, .slice (some ⟨bh, 0, none⟩) 1 ch] w fun e w' => (∃ b c, e = .returned (.slice (some ⟨b, 0, none⟩) 3 c) ∧
      ∀ (j : Nat) (v : Value), [Value.int .u8 34, .int .u8 97, .int .u8 34][j]? = some v → w'.cell? ⟨b, j, none⟩ = some v) ∧ Below B w w' := by
  have one : ∀ {b : Nat} {u : World} {v : Value}, u.cell? ⟨b, 0, none⟩ = some v → ∀ (j : Nat) (x : Value), [v][j]? = some x → u.cell? ((⟨b, 0, none⟩ : Addr).add j) = some x := by
    intro b u v h j x hj
    cases j with
    | zero => simp at hj; subst hj; exact h
    | succ j => simp at hj
  obtain ⟨b1, c1, cur1, fz1, w1, r1, p1, p2, p3, p4, p5, p6, p7, cur2, fz2, p8, p9⟩ := append_bytes w B bh ch 1 1 cur fz hh hfz [.int .u8 34] rfl (fun j v hj => by
      cases j with
      | zero => simp at hj; subst hj; exact h34
      | succ j => simp at hj) h1 h2 (.slice (some ⟨bc, 0, none⟩) 1 cc) [.int .u8 97] (Src.ofSlice w Tryz.underlying47 ⟨bc, 0, none⟩ 1 cc _ rfl (one hc) (fun u hu => by simp at hu; subst hu; rfl)) (by omega) (by omega) hB hBw
  have hc2 : w1.cell? ⟨bh, 0, none⟩ = some (.int .u8 34) := by
    simp only [World.cell?, p8]
    exact p9 0 _ rfl
  have hsz1 : B ≤ w1.heap.size := Nat.le_trans hBw p7.size
  obtain ⟨b3, c3, cur3, fz3, w3, r3, q1, q2, q3, q4, q5, q6, q7, _⟩ := append_bytes w1 B b1 c1 2 1 cur1 fz1 p1 p2 [.int .u8 34, .int .u8 97] rfl p3 p4 p5 (.slice (some ⟨bh, 0, none⟩) 1 ch) [.int .u8 34] (Src.ofSlice w1 Tryz.underlying47 ⟨bh, 0, none⟩ 1 ch _ rfl (one hc2) (fun u hu => by simp at hu; subst hu; rfl)) (by omega) (by omega) p6 hsz1
  have R1 := Aside0.mk r1
  have R3 := Aside0.mk r3
  have HB := Aside0.mk (Below.trans p7 q7)
  have HC := Aside0.mk (show ∀ (j : Nat) (v : Value), [Value.int .u8 34, .int .u8 97, .int .u8 34][j]? = some v → w3.cell? ⟨b3, j, none⟩ = some v from fun j v hj => by simp only [World.cell?, q1]; exact q3 j v hj)
  clear r1 r3 p1 p2 p3 p4 p5 p6 p7 p8 p9 q1 q2 q3 q4 q5 q6 q7 hc hh hfz h34 h1 h2 hB hBw hc2 hsz1
  go_enter Tryz.func72, Tryz.ntmps72
  go_wp2_with (first
    | (at_builtin; refine wpList_append_run rfl (.tmp 5) (.tmp 6) rfl rfl rfl R1.out ?_)
    | (at_builtin; refine wpList_append_run rfl (.tmp 8) (.tmp 9) rfl rfl rfl R3.out ?_))
  go_ret
  exact ⟨⟨b3, c3, rfl, HC.out⟩, HB.out⟩
/-! ### textutils_zzHas: function 73 -/
def textutils_zzHas.l0 : Nat → List Int → Int → Int → Option (Bool)
  | 0, _, _, _ => none
  | k + 1, x0, x1, x5 => if x5 < (x0.length : Int) then (if 0 ≤ x5 then (if (rd x0 x5) = x1 then (some true) else (textutils_zzHas.l0 k x0 x1 (wrap64 (x5 + 1)))) else (none)) else (some false)
def textutils_zzHas.f (k : Nat) (l0 : List Int) (a1 : Int) : Option (Bool) := textutils_zzHas.l0 k l0 a1 0
theorem textutils_zzHas.mono_l : ∀ k, (∀ y0 y1 y2, LeO (textutils_zzHas.l0 k y0 y1 y2) (textutils_zzHas.l0 (k + 1) y0 y1 y2))
  | 0 => fun _ _ _ r h => by simp [textutils_zzHas.l0] at h
  | k + 1 => by
    have ih0 := textutils_zzHas.mono_l k
    · intro y0 y1 y2
      unfold textutils_zzHas.l0
      repeat' first
      | (with_reducible exact ih0 _ _ _)
      | (with_reducible exact LeO.refl _)
      | (with_reducible exact LeO.none _)
      | (with_reducible refine LeO.ite ?_ ?_)
      | (with_reducible refine LeO.bind ?_ (fun _ => ?_))
      | exact ih0 _ _ _
      | exact LeO.none _
      | refine LeO.ite ?_ ?_
      | refine LeO.bind ?_ (fun _ => ?_)
theorem textutils_zzHas.mono : ∀ a0 a1 k, LeO (textutils_zzHas.f k a0 a1) (textutils_zzHas.f (k + 1) a0 a1) := by
  intro a0 a1 k
  have ih0 := textutils_zzHas.mono_l k
  unfold textutils_zzHas.f
  repeat' first
      | (with_reducible exact ih0 _ _ _)
      | (with_reducible exact LeO.refl _)
      | (with_reducible exact LeO.none _)
      | (with_reducible refine LeO.ite ?_ ?_)
      | (with_reducible refine LeO.bind ?_ (fun _ => ?_))
      | exact ih0 _ _ _
      | exact LeO.none _
      | refine LeO.ite ?_ ?_
      | refine LeO.bind ?_ (fun _ => ?_)
set_option maxHeartbeats 8000000 in
set_option maxRecDepth 100000 in
theorem textutils_zzHas.calls (k : Nat) (A0 : Option Addr) (c0 : Nat) (l0 : List Int) (a1 : Int) (r : Bool) (w : World) (hr0 : Kd.C (Kd.int .u8) w A0 l0.length l0) (hc0 : l0.length ≤ c0) (h : textutils_zzHas.f k l0 a1 = some r) :
    Calls Tryz.prog 70 #[.slice A0 l0.length c0, .int .u8 a1] w fun e w' => e = .returned (.bool r) ∧ Drawn0 w w' := by
  have HR0 := Aside0.mk hr0
  have HC0 := Aside0.mk hc0
  clear hr0 hc0
  have H : (textutils_zzHas.l0 k l0 a1 0) = some r := h
  clear h
  have H' := Aside0.mk H
  clear H
  go_enter Tryz.func70, Tryz.ntmps70
  go_wp2
  go_loopg [5] k (fun kq v5 w' => ∃ (x5_1 : Int), v5 = .int .i64 x5_1 ∧ Aside0 (textutils_zzHas.l0 kq l0 a1 x5_1 = some r) ∧ Aside0 (kq ≤ k) ∧ Drawn0 w w')
  case atStart => exact ⟨(0), (by first | rfl | (simp; done) | (simp [*]; done)), H', ⟨Nat.le_refl _⟩, by repeat (first | exact Drawn0.refl _ | apply Drawn0.step)⟩
  case round =>
    clear H'
    try clear p2
    obtain ⟨x5_1, rfl, HA, HK1, ⟨m1, rfl⟩⟩ := hrel
    cases gk with
    | zero => exact absurd HA.out (by simp [textutils_zzHas.l0])
    | succ k1 =>
      have H := HA.out
      clear HA
      simp only [textutils_zzHas.l0] at H
      by_cases c3 : x5_1 < (l0.length : Int)
      · rw [if_pos c3] at H
        have c3b0 : decide (x5_1 < (l0.length : Int)) = true := decide_eq_true c3
        clear c3
        by_cases c4 : 0 ≤ x5_1
        · rw [if_pos c4] at H
          have c4b0 : decide (0 ≤ x5_1) = true := decide_eq_true c4
          clear c4
          by_cases c5 : (rd l0 x5_1) = a1
          · rw [if_pos c5] at H
            have c5b0 : ((rd l0 x5_1) == a1) = true := beq_iff_eq.mpr c5
            have c5b1 : ((rd l0 x5_1) != a1) = false := bne_eq_false_iff_eq.mpr c5
            clear c5
            obtain rfl := Option.some.inj H
            have p107 : 0 ≤ (x5_1 : Int) := of_decide_eq_true (by first | (with_reducible assumption) | assumption)
            have q107 : x5_1 < (l0.length : Int) := of_decide_eq_true (by first | (with_reducible assumption) | assumption)
            obtain ⟨ad107, e107, hx107_0⟩ := Kd.at_int HR0.out x5_1 p107 q107
            cases e107
            replace p107 := eq_true p107
            replace q107 := eq_true q107
            go_wp2
            go_ret
            exact ⟨by first | rfl | (simp; done) | (simp [*]; done), by repeat (first | exact Drawn0.refl _ | apply Drawn0.step)⟩
          · rw [if_neg c5] at H
            have c5b0 : ((rd l0 x5_1) == a1) = false := beq_eq_false_iff_ne.mpr c5
            have c5b1 : ((rd l0 x5_1) != a1) = true := bne_iff_ne.mpr c5
            have H' := Aside0.mk H
            clear H
            have p107 : 0 ≤ (x5_1 : Int) := of_decide_eq_true (by first | (with_reducible assumption) | assumption)
            have q107 : x5_1 < (l0.length : Int) := of_decide_eq_true (by first | (with_reducible assumption) | assumption)
            obtain ⟨ad107, e107, hx107_0⟩ := Kd.at_int HR0.out x5_1 p107 q107
            cases e107
            replace p107 := eq_true p107
            replace q107 := eq_true q107
            go_wp2
            go_roundg k1
            case measure => have := HK1.out; omega
            case rel => exact ⟨(wrap64 (x5_1 + 1)), (by first | rfl | (simp; done) | (simp [*]; done)), H', ⟨by have := HK1.out; omega⟩, by repeat (first | exact Drawn0.refl _ | apply Drawn0.step)⟩
        · rw [if_neg c4] at H
          exact absurd H (by simp)
      · rw [if_neg c3] at H
        have c3b0 : decide (x5_1 < (l0.length : Int)) = false := decide_eq_false c3
        clear c3
        obtain rfl := Option.some.inj H
        go_wp2
        go_ret
        exact ⟨by first | rfl | (simp; done) | (simp [*]; done), by repeat (first | exact Drawn0.refl _ | apply Drawn0.step)⟩


theorem has_a (c : Int) (h : textutils_zzHas.f 3 [97] c = some false) (b cc : Nat) (w : World) (hc : w.cell? ⟨b, 0, none⟩ = some (.int .u8 97)) (h1 : 1 ≤ cc) : Calls Tryz.prog 70 #[.slice (some ⟨b, 0, none⟩) 1 cc, .int .u8 c] w fun e w' => e = .returned (.bool false) ∧ Drawn0 w w' := by
  have hC : Kd.C (Kd.int .u8) w (some ⟨b, 0, none⟩) (bytesI [97]).length (bytesI [97]) := C_mk (by decide) fun j hj => by
    have : j = 0 := by simp at hj; exact hj
    subst this; exact hc
  exact textutils_zzHas.calls 3 (some ⟨b, 0, none⟩) cc [97] c false w hC h1 h

theorem has34 : textutils_zzHas.f 3 [97] 34 = some false := by kernel_rfl
theorem has39 : textutils_zzHas.f 3 [97] 39 = some false := by kernel_rfl

/-- The quotation mark's own row, marked as a string's. -/
def markW (w : World) : World := (w.alloc (.cells #[.int .u8 34] 5)).freeze ⟨w.heap.size, 1, none⟩ 1

theorem mark_run (w : World) : (convert 47 47 (.slice (some ⟨w.heap.size, 0, none⟩) 1 1)).run Tryz.prog (w.alloc (.cells #[.int .u8 34] 5)) = .ok (.slice (some ⟨w.heap.size, 0, none⟩) 1 1) (markW w) := by
  have hsh : (w.alloc (.cells #[.int .u8 34] 5)).shape? w.heap.size = some (5, 1) := by simp [World.shape?, World.alloc, -World.alloc_eq]
  simp [convert, run_underlying Tryz.underlying47, run_underlying Tryz.underlying5, markStringish, hsh, markW]

theorem mark_row (w : World) : (markW w).heap[w.heap.size]? = some (.cells #[.int .u8 34] 5 (1, 2)) := by
  have h0 : (w.alloc (.cells #[.int .u8 34] 5)).heap[w.heap.size]? = some (.cells #[.int .u8 34] 5 (0, 0)) := by simp [World.alloc, -World.alloc_eq]
  unfold markW World.freeze
  rw [if_neg (by decide)]
  simp only [Array.getElem?_modify, if_true, h0, Option.map_some]
  rfl

theorem mark_below (w : World) : Below w.heap.size w (markW w) :=
  ⟨rfl, rfl, rfl, by simp [markW, World.freeze], fun k hk => by
    have : w.heap.size ≠ k := by omega
    simp [markW, World.freeze, World.alloc, -World.alloc_eq, Array.getElem?_modify, Array.getElem?_push, this, Ne.symm this]⟩

set_option maxHeartbeats 8000000 in
set_option maxRecDepth 100000 in
theorem quotes_calls (w : World) (bc cc : Nat) (hc : w.cell? ⟨bc, 0, none⟩ = some (.int .u8 97)) (h1 : 1 ≤ cc) : Calls Tryz.prog 39 #[.slice (some ⟨bc, 0, none⟩) 1 cc] w fun e w' => (∃ b c, e = .returned (.slice (some ⟨b, 0, none⟩) 3 c) ∧
      ∀ (j : Nat) (v : Value), [Value.int .u8 34, .int .u8 97, .int .u8 34][j]? = some v → w'.cell? ⟨b, j, none⟩ = some v) ∧ Below w.heap.size w w' := by
  have HC := Aside0.mk hc
  have H1 := Aside0.mk h1
  clear hc h1
  go_enter Tryz.func39, Tryz.ntmps39
  go_wp2_with (go_at_call 70; fail)
  refine (has_a 34 has34 bc cc _ HC.out H1.out).mono ?_
  rintro e w1 ⟨rfl, hd⟩
  have hcc1 : w1.cell? ⟨bc, 0, none⟩ = some (.int .u8 97) := by obtain ⟨n, rfl⟩ := hd.out; exact HC.out
  have HB1 := Aside0.mk hd.below
  have HC1 := Aside0.mk hcc1
  clear hd hcc1
  go_wp2_with (go_at_call 70; fail)
  refine (has_a 39 has39 bc cc _ HC1.out H1.out).mono ?_
  rintro e w2 ⟨rfl, hd⟩
  have hcc2 : w2.cell? ⟨bc, 0, none⟩ = some (.int .u8 97) := by obtain ⟨n, rfl⟩ := hd.out; exact HC1.out
  have HB2 := Aside0.mk (below_step HB1.out hd.below)
  have HC2 := Aside0.mk hcc2
  clear hd hcc2
  have hcl : bc < w2.heap.size := by
    have h := HC2.out
    simp only [World.cell?] at h
    split at h
    · rename_i h'; exact (Array.getElem?_eq_some_iff.1 h').1
    · cases h
  have hcm : (markW w2).cell? ⟨bc, 0, none⟩ = some (.int .u8 97) := by
    have h := HC2.out
    simp only [World.cell?] at h ⊢
    rw [(mark_below w2).block _ hcl]; exact h
  have CS := Aside0.mk (surround_calls (markW w2) w.heap.size bc w2.heap.size cc 1 #[.int .u8 34] (1, 2) hcm (mark_row w2) (.inr (Nat.le_refl _)) rfl (Nat.le_refl _) (Nat.le_refl _) HB2.out.size (Nat.le_trans HB2.out.size (mark_below w2).size))
  have HM := Aside0.mk (below_step HB2.out (mark_below w2))
  have hcv := mark_run w2
  clear hcl hcm
  go_wp2_with (go_at_call 72; fail)
  refine CS.out.mono ?_
  rintro e w4 ⟨⟨b, c, rfl, h3⟩, hb⟩
  have H3 := Aside0.mk h3
  clear h3
  go_wp2
  go_ret
  exact ⟨⟨b, c, rfl, H3.out⟩, Below.trans HM.out hb⟩

set_option maxHeartbeats 8000000 in
set_option maxRecDepth 100000 in
theorem quoted_calls (w : World) : Calls Tryz.prog 20 #[.string ⟨#[97]⟩] w fun e w' => e = .returned (.string ⟨#[34, 97, 34]⟩) ∧ Below w.heap.size w w' := by
  have hB := bytesWorld_below w ⟨#[97]⟩
  have hcell : (Lib.bytesWorld w 5 ⟨#[97]⟩).cell? ⟨w.heap.size, 0, none⟩ = some (.int .u8 97) := Lib.bytesWorld_cell w 5 ⟨#[97]⟩ 0 (by decide)
  have CQ := Aside0.mk (quotes_calls (Lib.bytesWorld w 5 ⟨#[97]⟩) w.heap.size (grownCap w 1 0 5) hcell (grownCap_ge _ _ _ _))
  have HB := Aside0.mk hB
  have hcv : (convert 9 47 (.string ⟨#[97]⟩)).run Tryz.prog w = .ok (.slice (some ⟨w.heap.size, 0, none⟩) 1 (grownCap w 1 0 5)) (Lib.bytesWorld w 5 ⟨#[97]⟩) :=
    Lib.run_convert_string_bytes w 9 47 5 ⟨#[97]⟩ Tryz.underlying9 Tryz.underlying47 Tryz.underlying5
  clear hB hcell
  go_enter Tryz.func20, Tryz.ntmps20
  go_wp2_with (go_at_call 39; fail)
  refine CQ.out.mono ?_
  rintro e w2 ⟨⟨b, c, rfl, h3⟩, hb⟩
  have hcb : (convert 47 9 (.slice (some ⟨b, 0, none⟩) 3 c)).run Tryz.prog w2 = .ok (.string ⟨#[34, 97, 34]⟩) w2 :=
    Kd.C_string (P := Tryz.prog) (xs := bytesI [34, 97, 34]) Tryz.underlying47 Tryz.underlying5 Tryz.underlying9 (C_mk (o := 0) (by decide) fun j hj => by
      rw [Nat.zero_add]
      have hjj : j = 0 ∨ j = 1 ∨ j = 2 := by simp at hj; omega
      rcases hjj with rfl | rfl | rfl
      · exact h3 0 _ rfl
      · exact h3 1 _ rfl
      · exact h3 2 _ rfl)
  have HZ := Aside0.mk (below_step HB.out hb)
  clear h3 hb
  go_wp2
  go_ret
  exact ⟨rfl, HZ.out⟩

end Go.Proofs.YtonagpnnfhilgaaGreat.Hand

namespace Go.Proofs.YtonagpnnfhilgaaGreat.Hand
open Go.RowKit Go.Proofs.YtonagpnnfhilgaaGreatW.PrintWords Go.Proofs.YtonagpnnfhilgaaGreatW.PrintLast Go.Proofs.YtonagpnnfhilgaaGreatW.PrintMore
attribute [local go_sem] max2_int min2_int max_two min_two max_three min_three max_four min_four
set_option linter.unusedVariables false
set_option linter.unusedSimpArgs false

set_option maxHeartbeats 8000000 in
set_option maxRecDepth 100000 in
theorem tryGrow_fits (w : World) (b : Nat) (A : Option Addr) (n c m : Nat) (hc : w.cell? ⟨b, 0, none⟩ = some (.slice A n c)) (hf : w.frozen? ⟨b, 0, none⟩ = false) (hn : n + m ≤ c) (hm : c ≤ maxLen) :
    Calls Tryz.prog 357 #[.pointer (some ⟨b, 0, none⟩), .int .i64 m] w fun e w' => e = .returned (.tuple #[.int .i64 n, .bool true]) ∧ w' = w.setCell ⟨b, 0, none⟩ (.slice A (n + m) c) := by
  unfold maxLen at hm
  have h1 : wrap64 ((c : Int) - (n : Int)) = (c : Int) - (n : Int) := by unfold wrap64; omega
  have h2 : decide ((m : Int) ≤ (c : Int) - (n : Int)) = true := decide_eq_true (by omega)
  have h3 : wrap64 ((n : Int) + (m : Int)) = ((n + m : Nat) : Int) := by unfold wrap64; omega
  go_enter Tryz.func357, Tryz.ntmps357
  go_wp2
  go_ret2
  exact ⟨rfl, rfl⟩

set_option maxHeartbeats 8000000 in
set_option maxRecDepth 100000 in
theorem tryGrow_not (w : World) (b : Nat) (A : Option Addr) (n c m : Nat) (hc : w.cell? ⟨b, 0, none⟩ = some (.slice A n c)) (hn : c < n + m) (hnc : n ≤ c) (hm : c ≤ maxLen) (hm2 : m ≤ 1000000000000) :
    Calls Tryz.prog 357 #[.pointer (some ⟨b, 0, none⟩), .int .i64 m] w fun e w' => e = .returned (.tuple #[.int .i64 0, .bool false]) ∧ w' = w := by
  unfold maxLen at hm
  have h1 : wrap64 ((c : Int) - (n : Int)) = (c : Int) - (n : Int) := by unfold wrap64; omega
  have h2 : decide ((m : Int) ≤ (c : Int) - (n : Int)) = false := decide_eq_false (by omega)
  go_enter Tryz.func357, Tryz.ntmps357
  go_wp2
  go_ret2
  exact ⟨rfl, rfl⟩

theorem eql_nil (a : Option Addr) (l c : Nat) (w : World) : (binOp .eql 47 (.slice a l c) (.slice none 0 0)).run Tryz.prog w = .ok (.bool a.isNone) w := by
  simp only [binOp]
  simp [Go.run_equal_slice_nil w 47 5 a l c Tryz.underlying47]

/-- What grow leaves behind: a new row with room, the old bytes ahead. -/
def Grown (w w' : World) (b T : Nat) (lr : Int) (l n : Nat) (old : Array Value) : Prop :=
  ∃ cap cells, w'.heap[b]? = some (.cells #[.slice (some ⟨w.heap.size, 0, none⟩) (l + n) cap, .int .i64 0, .int .i8 lr] T (0, 0)) ∧ w'.heap[w.heap.size]? = some (.cells cells 5 (0, 0)) ∧ cells.size = cap ∧
    cells.toList.take l = old.toList.take l ∧ l + n ≤ cap ∧ cap ≤ maxLen ∧ w.grownBy w' (some b)

theorem cell_at {w : World} {b T : Nat} {x y z : Value} (h : w.heap[b]? = some (.cells #[x, y, z] T (0, 0))) : w.cell? ⟨b, 0, none⟩ = some x ∧ w.cell? ⟨b, 1, none⟩ = some y ∧ w.cell? ⟨b, 2, none⟩ = some z ∧ w.frozen? ⟨b, 0, none⟩ = false ∧ w.frozen? ⟨b, 1, none⟩ = false ∧ w.frozen? ⟨b, 2, none⟩ = false := by
  refine ⟨?_, ?_, ?_, ?_, ?_, ?_⟩ <;> simp [World.cell?, World.frozen?, h]

theorem grown_end {w w2 : World} {b T l n cap2 : Nat} {lr : Int} {v0 v1 : Value} {cells old : Array Value} (hbk2 : w2.heap[b]? = some (.cells #[v0, .int .i64 0, .int .i8 lr] T (0, 0))) (hN : w2.heap[w.heap.size]? = some (.cells cells 5 (0, 0))) (hbN : b ≠ w.heap.size)
    (hcsz : cells.size = cap2) (htk : cells.toList.take l = old.toList.take l) (hcap2 : l + n ≤ cap2) (hcm2 : cap2 ≤ maxLen) (hgr : w.grownBy w2 (some b)) :
    Grown w (((w2.setCell ⟨b, 0, none⟩ v1).setCell ⟨b, 1, none⟩ (.int .i64 0)).setCell ⟨b, 0, none⟩ (.slice (some ⟨w.heap.size, 0, none⟩) (l + n) cap2)) b T lr l n old := by
  have h1 := Lib.heap_setCell_same (i := 0) hbk2 v1
  have h2 := Lib.heap_setCell_same (i := 1) h1 (.int .i64 0)
  have h3 := Lib.heap_setCell_same (i := 0) h2 (.slice (some ⟨w.heap.size, 0, none⟩) (l + n) cap2)
  refine ⟨cap2, cells, ?_, ?_, hcsz, htk, hcap2, hcm2, Lib.grownBy_setB (Lib.grownBy_setB (Lib.grownBy_setB hgr 0 _) 1 _) 0 _⟩
  · simpa using h3
  · rw [Below.heap_setCell _ _ _ _ (fun e => hbN e.symm), Below.heap_setCell _ _ _ _ (fun e => hbN e.symm), Below.heap_setCell _ _ _ _ (fun e => hbN e.symm)]
    exact hN

set_option maxHeartbeats 8000000 in
set_option maxRecDepth 100000 in
theorem len_calls (w : World) (b : Nat) (A : Option Addr) (n c : Nat) (hc : w.cell? ⟨b, 0, none⟩ = some (.slice A n c)) (h1 : w.cell? ⟨b, 1, none⟩ = some (.int .i64 0)) (hn : n ≤ 1000000000) :
    Calls Tryz.prog 372 #[.pointer (some ⟨b, 0, none⟩)] w fun e w' => e = .returned (.int .i64 n) ∧ ∃ k, w' = w.drewN k := by
  have mixed : Tryz.prog.follows .mixedOrders = true := by kernel_rfl
  have k1 : IntKind.i64.wrap (n : Int) = n := by rw [IntKind.wrap_i64]; omega
  have k2 : wrap64 (n : Int) = (n : Int) := by unfold wrap64; omega
  go_enter Tryz.func372, Tryz.ntmps372
  go_wp2
  go_region_o
  all_goals (go_wp2; go_ret; exact ⟨by simp [k1, k2], 1, rfl⟩)

set_option maxHeartbeats 8000000 in
set_option maxRecDepth 100000 in
theorem grow_row (w : World) (b T g l c n : Nat) (lr : Int) (cur : Array Value) (hb : w.heap[b]? = some (.cells #[.slice (some ⟨g, 0, none⟩) l c, .int .i64 0, .int .i8 lr] T (0, 0))) (hg : w.heap[g]? = some (.cells cur 5 (0, 0)))
    (hcs : cur.size = c) (hl1 : 1 ≤ l) (hlc : l ≤ c) (hn : 1 ≤ n) (hno : c < l + n) (hlim : l + n ≤ 1000000000) (h1 : ∀ v ∈ cur.toList.take l, v.oneCell' = true) :
    Calls Tryz.prog 358 #[.pointer (some ⟨b, 0, none⟩), .int .i64 n] w fun e w' => e = .returned (.int .i64 l) ∧ Grown w w' b T lr l n cur := by
  have mixed : Tryz.prog.follows .mixedOrders = true := by kernel_rfl
  obtain ⟨c0, c1, c2, f0, f1, f2⟩ := cell_at hb
  have hcm : c ≤ maxLen := by unfold maxLen; omega
  have CL := Aside0.mk (len_calls w b _ l c c0 c1 (by omega))
  have HB := Aside0.mk hb
  have HG := Aside0.mk hg
  have H1 := Aside0.mk h1
  have HCS := Aside0.mk hcs
  have HL1 := Aside0.mk hl1
  have HH := Aside0.mk (And.intro hlc (And.intro hn (And.intro hno hlim)))
  have q0 : ¬ ((n : Int) ≤ wrap64 (wrap64 ((c : Int) / 2) - (l : Int))) := by unfold wrap64; omega
  have q1 : decide ((n : Int) ≤ wrap64 (wrap64 ((c : Int) / 2) - (l : Int))) = false := decide_eq_false q0
  have q1b := eq_false q0
  clear q0
  have qe : ∀ w, (binOp .eql 47 (.slice (some ⟨g, 0, none⟩) l c) (.slice none 0 0)).run Tryz.prog w = .ok (.bool false) w := fun w => eql_nil (some ⟨g, 0, none⟩) l c w
  have q2 : wrap64 (wrap64 (9223372036854775807 - (c : Int)) - (n : Int)) = 9223372036854775807 - (c : Int) - (n : Int) := by unfold wrap64; omega
  have q3 : decide ((c : Int) > 9223372036854775807 - (c : Int) - (n : Int)) = false := decide_eq_false (by omega)
  have q4 : decide (9223372036854775807 - (c : Int) - (n : Int) < (c : Int)) = false := decide_eq_false (by omega)
  have q7 : wrap64 ((l : Int) + (n : Int)) = ((l + n : Nat) : Int) := by unfold wrap64; omega
  have hwn : IntKind.i64.wrap (n : Int) = n := by rw [IntKind.wrap_i64]; omega
  clear hg h1 hb hl1 hlc hn hno hlim hcs hcm c0 c1 c2 f0 f1 f2
  go_enter Tryz.func358, Tryz.ntmps358
  go_wp2_with (go_at_call 372; fail)
  refine CL.out.mono ?_
  rintro e W0 ⟨rfl, k, hW0⟩
  have hbk0 : W0.heap[b]? = some (.cells #[.slice (some ⟨g, 0, none⟩) l c, .int .i64 0, .int .i8 lr] T (0, 0)) := by rw [hW0]; exact HB.out
  have hg0 : W0.heap[g]? = some (.cells cur 5 (0, 0)) := by rw [hW0]; exact HG.out
  obtain ⟨c0, c1, c2, f0, f1, f2⟩ := cell_at hbk0
  have CT := Aside0.mk (tryGrow_not W0 b _ l c n c0 HH.out.2.2.1 HH.out.1 (by have := HH.out; unfold maxLen; omega) (by have := HH.out; omega))
  have HW0 := Aside0.mk hW0
  have HB0 := Aside0.mk hbk0
  have HG0 := Aside0.mk hg0
  clear hW0 hbk0 hg0
  have hl0 : ¬ (l : Int) = 0 := by have := HH.out; have := HL1.out; omega
  have hl1 : ((l : Int) == 0) = false := beq_eq_false_iff_ne.mpr hl0
  go_wp2_with (go_at_call 357; fail)
  refine CT.out.mono ?_
  rintro e w1 ⟨rfl, h2⟩
  rw [h2]
  clear h2
  go_wp2
  have hn1 := HH.out.2.1
  have hlim1 := HH.out.2.2.2
  have hlc1 := HH.out.1
  go_region_with_o (
    go_at_call 374
    refine (Tryz.growSlice_row g l c n cur _ ?_ HCS.out HH.out.1 HH.out.2.1 (by have := HH.out; omega) (by have := HH.out; omega) H1.out).mono ?_
    exact HG0.out
    rintro e w2 ⟨cap2, cells, rfl, hN, hcsz, htk, hcap2, hcm2, hbel⟩
    have hbk2 : w2.heap[b]? = some (.cells #[.slice (some ⟨g, 0, none⟩) l c, .int .i64 0, .int .i8 lr] T (0, 0)) := (hbel.block b (Lib.lt_of_heap HB0.out)).trans HB0.out
    obtain ⟨d0, d1, d2, e0, e1, e2⟩ := cell_at hbk2)
  all_goals (
    go_wp2
    go_ret
    have hsz : W0.heap.size = w.heap.size := by rw [HW0.out]; rfl
    refine ⟨by first | rfl | (simp [hl0]; done), ?_⟩
    have hbel' : Below w.heap.size w w2 := by
      have hb0 : Below w.heap.size w W0.drew := by rw [HW0.out]; exact ⟨rfl, rfl, rfl, Nat.le_refl _, fun _ _ => rfl⟩
      exact Below.trans hb0 (hbel.mono (by show w.heap.size ≤ W0.heap.size; omega))
    have hN' : w2.heap[w.heap.size]? = some (.cells cells 5 (0, 0)) := by rw [← hsz]; exact hN
    rw [hsz]
    exact grown_end hbk2 hN' (by have := Lib.lt_of_heap HB.out; omega) hcsz htk hcap2 hcm2 ⟨hbel'.os, hbel'.tape, hbel'.output, hbel'.size, fun k hk _ => hbel'.block k hk⟩)

theorem nil_none (l c : Nat) (w : World) : (binOp .eql 47 (.slice none l c) (.slice none 0 0)).run Tryz.prog w = .ok (.bool true) w := eql_nil none l c w

end Go.Proofs.YtonagpnnfhilgaaGreat.Hand

namespace Go.Proofs.YtonagpnnfhilgaaGreat.Hand
open Go.RowKit Go.Proofs.YtonagpnnfhilgaaGreatW.PrintWords Go.Proofs.YtonagpnnfhilgaaGreatW.PrintLast Go.Proofs.YtonagpnnfhilgaaGreatW.PrintMore
attribute [local go_sem] max2_int min2_int max_two min_two max_three min_three max_four min_four
set_option linter.unusedVariables false
set_option linter.unusedSimpArgs false

set_option maxHeartbeats 8000000 in
set_option maxRecDepth 100000 in
theorem grow_nil_small (w : World) (b T n : Nat) (lr : Int) (hb : w.heap[b]? = some (.cells #[.slice none 0 0, .int .i64 0, .int .i8 lr] T (0, 0))) (hn : 1 ≤ n) (h64 : n ≤ 64) :
    Calls Tryz.prog 358 #[.pointer (some ⟨b, 0, none⟩), .int .i64 n] w fun e w' => e = .returned (.int .i64 0) ∧ Grown w w' b T lr 0 n #[] := by
  have mixed : Tryz.prog.follows .mixedOrders = true := by kernel_rfl
  obtain ⟨c0, c1, c2, f0, f1, f2⟩ := cell_at hb
  have CL := Aside0.mk (len_calls w b none 0 0 c0 c1 (by omega))
  have HB := Aside0.mk hb
  have HH := Aside0.mk (And.intro hn h64)
  have qe : ∀ w, (binOp .eql 47 (.slice none 0 0) (.slice none 0 0)).run Tryz.prog w = .ok (.bool true) w := fun w => nil_none 0 0 w
  have q1 : decide ((n : Int) ≤ 64) = true := decide_eq_true (by omega)
  have q7 : wrap64 ((n : Int)) = (n : Int) := by unfold wrap64; omega
  obtain ⟨i0, hi0, hz0, hsz0, hby0⟩ := info_parts info5
  have hmk : ∀ w : World, (Instr.makeSlice 47 (.int .i64 (n : Int)) (.int .i64 64)).run Tryz.prog w = .ok (.slice (some ⟨w.heap.size, 0, none⟩) n 64) (w.alloc (.cells (madeCells (Value.int .u8 0).cells (64 * i0.size)) 5)) := fun w => by
    have := run_make (P := Tryz.prog) w 47 5 i0 (.int .u8 0) Tryz.underlying47 hi0 hz0 .i64 .i64 (n : Int) 64 (by omega) (by omega) (by rw [hby0]; omega) (by omega)
    simpa using this
  have hms : (madeCells (Value.int .u8 0).cells (64 * i0.size)).size = 64 := by rw [hsz0]; exact size_madeCells _ _
  obtain ⟨M, hM⟩ : ∃ M, madeCells (Value.int .u8 0).cells (64 * i0.size) = M := ⟨_, rfl⟩
  rw [hM] at hms
  simp only [hM] at hmk
  clear hb hn h64 c0 c1 c2 f0 f1 f2 hi0 hz0 hsz0 hby0 hM
  go_enter Tryz.func358, Tryz.ntmps358
  go_wp2_with (go_at_call 372; fail)
  refine CL.out.mono ?_
  rintro e W0 ⟨rfl, k, hW0⟩
  have hbk0 : W0.heap[b]? = some (.cells #[.slice none 0 0, .int .i64 0, .int .i8 lr] T (0, 0)) := by rw [hW0]; exact HB.out
  obtain ⟨c0, c1, c2, f0, f1, f2⟩ := cell_at hbk0
  have CT := Aside0.mk (tryGrow_not W0 b none 0 0 n c0 (by have := HH.out; omega) (Nat.le_refl _) (by unfold maxLen; omega) (by have := HH.out; omega))
  have HW0 := Aside0.mk hW0
  have HB0 := Aside0.mk hbk0
  clear hW0 hbk0
  go_wp2_with (go_at_call 357; fail)
  refine CT.out.mono ?_
  rintro e w1 ⟨rfl, h2⟩
  rw [h2]
  clear h2
  have hlt := Lib.lt_of_heap HB0.out
  have hca : (W0.alloc (.cells M 5)).cell? ⟨b, 0, none⟩ = some (.slice none 0 0) := by rw [World.cell?_alloc_lt _ _ _ hlt]; exact c0
  have hfa : (W0.alloc (.cells M 5)).frozen? ⟨b, 0, none⟩ = false := by
    have h := HB0.out
    simp only [World.frozen?, Below.heap_alloc W0 (.cells M 5) b hlt, h]; rfl
  go_wp2
  go_ret
  have hsz : W0.heap.size = w.heap.size := by rw [HW0.out]; rfl
  refine ⟨rfl, ?_⟩
  have h1 := Lib.heap_setCell_same (i := 0) HB0.out (.slice (some ⟨W0.heap.size, 0, none⟩) n 64)
  have hss : (W0.setCell ⟨b, 0, none⟩ (.slice (some ⟨W0.heap.size, 0, none⟩) n 64)).heap.size = W0.heap.size := by simp [World.setCell]
  have g0 : w.grownBy W0 (some b) := by rw [HW0.out]; exact ⟨rfl, rfl, rfl, Nat.le_refl _, fun _ _ _ => rfl⟩
  refine ⟨64, M, ?_, ?_, hms, by simp, by have := HH.out; omega, by unfold maxLen; omega, Lib.grownBy_allocR (Lib.grownBy_setB g0 0 _) _⟩
  · refine (Below.heap_alloc _ _ b (by rw [hss]; exact hlt)).trans ?_
    rw [← hsz, Nat.zero_add]
    exact h1
  · have : ∀ (V : World) (o : Obj), (V.alloc o).heap[V.heap.size]? = some o := fun V o => by simp [World.alloc, -World.alloc_eq]
    have h2 := this (W0.setCell ⟨b, 0, none⟩ (.slice (some ⟨W0.heap.size, 0, none⟩) n 64)) (.cells M 5)
    rw [hss, hsz] at h2
    rw [hsz]
    exact h2
end Go.Proofs.YtonagpnnfhilgaaGreat.Hand

namespace Go.Proofs.YtonagpnnfhilgaaGreat.Hand
open Go.RowKit Go.Proofs.YtonagpnnfhilgaaGreatW.PrintWords Go.Proofs.YtonagpnnfhilgaaGreatW.PrintLast Go.Proofs.YtonagpnnfhilgaaGreatW.PrintMore
attribute [local go_sem] max2_int min2_int max_two min_two max_three min_three max_four min_four
set_option linter.unusedVariables false
set_option linter.unusedSimpArgs false

def bc (bs : List UInt8) : List Value := bs.map fun c => .int .u8 (c.toNat : Int)

/-- A buffer that has only been written: nil, or a row of its own. -/
def BufAt (w : World) (b T : Nat) (bs : List UInt8) (v : Value) : Prop :=
  (∃ lr, w.heap[b]? = some (.cells #[v, .int .i64 0, .int .i8 lr] T (0, 0))) ∧
   ((bs = [] ∧ v = .slice none 0 0) ∨ (bs ≠ [] ∧ ∃ g cap cur, v = .slice (some ⟨g, 0, none⟩) bs.length cap ∧ g ≠ b ∧ w.heap[g]? = some (.cells cur 5 (0, 0)) ∧ cur.size = cap ∧ bs.length ≤ cap ∧ cap ≤ maxLen ∧ cur.toList.take bs.length = bc bs))

/-- What a write changes: the buffer, and its own row. -/
structure Wrote (w w' : World) (b T : Nat) (v : Value) (bs : List UInt8) : Prop where
  os : w'.os = w.os
  tape : w'.tape = w.tape
  output : w'.output = w.output
  size : w.heap.size ≤ w'.heap.size
  keep : ∀ k, k < w.heap.size → k ≠ b → v.ownBlock ≠ some k → w'.heap[k]? = w.heap[k]?
  last : ∃ v', w'.heap[b]? = some (.cells #[v', .int .i64 0, .int .i8 0] T (0, 0))
  buf : ∃ v', BufAt w' b T bs v' ∧ (v'.ownBlock = v.ownBlock ∨ ∃ g, v'.ownBlock = some g ∧ w.heap.size ≤ g)

/-- The world behind the copy. -/
theorem wrote_end {w w1 : World} {b T g l n cap : Nat} {v : Value} {cells : Array Value} {bs new : List UInt8} (hb : w1.heap[b]? = some (.cells #[.slice (some ⟨g, 0, none⟩) (l + n) cap, .int .i64 0, .int .i8 0] T (0, 0)))
    (hg : w1.heap[g]? = some (.cells cells 5 (0, 0))) (hl : bs.length = l) (hn : new.length = n) (h1n : 1 ≤ l + n) (hgb : g ≠ b) (hcs : cells.size = cap) (hle : l + n ≤ cap) (hcm : cap ≤ maxLen) (htk : cells.toList.take l = bc bs)
    (os : w1.os = w.os) (tape : w1.tape = w.tape) (output : w1.output = w.output) (size : w.heap.size ≤ w1.heap.size) (keep : ∀ k, k < w.heap.size → k ≠ b → v.ownBlock ≠ some k → w1.heap[k]? = w.heap[k]?)
    (hown : v.ownBlock = some g ∨ w.heap.size ≤ g) :
    Wrote w (w1.setRow g (cells.toList.take l ++ bc new ++ cells.toList.drop (l + n)).toArray) b T v (bs ++ new) := by
  have hlen : (bc new).length = n := by rw [bc, List.length_map, hn]
  have hcl : cells.toList.length = cap := by rw [Array.length_toList]; exact hcs
  refine { os := os, tape := tape, output := output, size := by rw [setRow_size]; exact size, keep := ?_, last := ⟨.slice (some ⟨g, 0, none⟩) (l + n) cap, ?_⟩, buf := ⟨.slice (some ⟨g, 0, none⟩) (l + n) cap, ⟨⟨0, ?_⟩, .inr ⟨?_, g, cap, _, ?_, hgb, setRow_heap w1 g _ _ 5 (0, 0) hg, ?_, ?_, hcm, ?_⟩⟩, ?_⟩ }
  · intro k hk hkb hkv
    rw [setRow_other _ _ _ _ ?_]
    · exact keep k hk hkb hkv
    · rintro rfl
      rcases hown with h | h
      · exact hkv h
      · omega
  · rw [setRow_other _ _ _ _ hgb.symm]; exact hb
  · rw [setRow_other _ _ _ _ hgb.symm]; exact hb
  · intro e
    have := congrArg List.length e
    rw [List.length_append, hl, hn] at this
    simp at this; omega
  · rw [List.length_append, hl, hn]
  · rw [List.size_toArray, List.length_append, List.length_append, List.length_take, List.length_drop, hlen, hcl]; omega
  · rw [List.length_append, hl, hn]; exact hle
  · rw [List.length_append, hl, hn]
    simp only [List.toList_toArray]
    rw [List.take_append_of_le_length (by rw [List.length_append, List.length_take, hlen, hcl]; omega), htk, List.take_of_length_le (by rw [List.length_append, hlen, bc, List.length_map]; omega)]
    simp [bc]
  · rcases hown with h | h
    · exact .inl h.symm
    · exact .inr ⟨g, rfl, h⟩
end Go.Proofs.YtonagpnnfhilgaaGreat.Hand

namespace Go.Proofs.YtonagpnnfhilgaaGreat.Hand
open Go.RowKit Go.Proofs.YtonagpnnfhilgaaGreatW.PrintWords Go.Proofs.YtonagpnnfhilgaaGreatW.PrintLast Go.Proofs.YtonagpnnfhilgaaGreatW.PrintMore
attribute [local go_sem] max2_int min2_int max_two min_two max_three min_three max_four min_four
set_option linter.unusedVariables false
set_option linter.unusedSimpArgs false

theorem size5 : (Tryz.prog.info? 5).map (·.size) = some 1 := by kernel_rfl

set_option maxHeartbeats 8000000 in
set_option maxRecDepth 100000 in
theorem writeString_grow (w : World) (b T g l c : Nat) (lr : Int) (cur : Array Value) (s : ByteArray) (bs : List UInt8) (hb : w.heap[b]? = some (.cells #[.slice (some ⟨g, 0, none⟩) l c, .int .i64 0, .int .i8 lr] T (0, 0))) (hg : w.heap[g]? = some (.cells cur 5 (0, 0)))
    (hbl : bs.length = l) (hgb : g ≠ b) (hcs : cur.size = c) (hl1 : 1 ≤ l) (hlc : l ≤ c) (hno : c < l + s.size) (hlim : l + s.size ≤ 1000000000) (htk : cur.toList.take l = bc bs) :
    Calls Tryz.prog 339 #[.pointer (some ⟨b, 0, none⟩), .string s] w fun e w' => e = .returned (.tuple #[.int .i64 s.size, .nilIface]) ∧ Wrote w w' b T (.slice (some ⟨g, 0, none⟩) l c) (bs ++ s.data.toList) := by
  obtain ⟨c0, c1, c2, f0, f1, f2⟩ := cell_at hb
  have h1 := Lib.heap_setCell_same (i := 2) hb (.int .i8 0)
  obtain ⟨w1, hw1⟩ : ∃ w1, w.setCell ⟨b, 2, none⟩ (.int .i8 0) = w1 := ⟨_, rfl⟩
  rw [hw1] at h1
  have hb1 : w1.heap[b]? = some (.cells #[.slice (some ⟨g, 0, none⟩) l c, .int .i64 0, .int .i8 0] T (0, 0)) := h1
  have hg1 : w1.heap[g]? = some (.cells cur 5 (0, 0)) := by rw [← hw1, Below.heap_setCell _ _ _ _ hgb]; exact hg
  have g1 : w.grownBy w1 (some b) := by rw [← hw1]; exact Lib.grownBy_setCell w b 2 _
  obtain ⟨d0, d1, d2, e0, e1, e2⟩ := cell_at hb1
  have CT := Aside0.mk (tryGrow_not w1 b _ l c s.size d0 hno hlc (by unfold maxLen; omega) (by omega))
  have CG := Aside0.mk (grow_row w1 b T g l c s.size 0 cur hb1 hg1 hcs hl1 hlc (by omega) hno hlim (by rw [htk]; intro v hv; simp [bc] at hv; obtain ⟨a, _, rfl⟩ := hv; rfl))
  have HB := Aside0.mk hb
  have HH := Aside0.mk (And.intro hbl (And.intro hlc (And.intro hlim htk)))
  have HG1 := Aside0.mk g1
  have HNO := Aside0.mk hno
  clear hb hg hbl hgb hcs hl1 hlc hno hlim htk hb1 hg1 g1 h1
  go_enter Tryz.func339, Tryz.ntmps339
  go_wp2_with (go_at_call 357; fail)
  refine CT.out.mono ?_
  rintro e w2 ⟨rfl, h2⟩
  rw [h2]
  clear h2
  go_wp2_with (go_at_call 358; fail)
  refine CG.out.mono ?_
  rintro e w3 ⟨rfl, cap, cells, hb3, hg3, hcs3, htk3, hle3, hcm3, hgr3⟩
  obtain ⟨x0, x1, x2, y0, y1, y2⟩ := cell_at hb3
  have HB3 := Aside0.mk hb3
  have HG3 := Aside0.mk hg3
  have HX := Aside0.mk (And.intro hcs3 (And.intro htk3 (And.intro hle3 (And.intro hcm3 hgr3))))
  have p1 : l ≤ l + s.size := Nat.le_add_right _ _
  have p2 : l ≤ cap := by omega
  have hcl : (cap = l) = False := eq_false (by have := HNO.out; have := HH.out; omega)
  have HSZ := Aside0.mk (show w1.heap.size = w.heap.size by rw [← hw1]; simp [World.setCell])
  have hcp : (Builtin.copy_ #[47, 9] 3 #[.slice (some ⟨w1.heap.size, l, none⟩) s.size (cap - l), .string s]).run Tryz.prog w3 = .ok (.int .i64 s.size) (w3.setRow w1.heap.size (cells.toList.take l ++ bc s.data.toList ++ cells.toList.drop (l + s.size)).toArray) :=
    Lib.run_copy_row_string (P := Tryz.prog) w3 47 9 3 5 w1.heap.size l s.size (cap - l) s cells 5 Tryz.underlying47 size5 HG3.out (Nat.le_refl _) (by rw [hcs3]; exact hle3)
  clear hb3 hg3 hcs3 htk3 hle3 hcm3 hgr3 c0 c1 c2 f0 f1 f2 d0 d1 d2 e0 e1 e2
  go_wp2
  go_ret2
  refine ⟨rfl, ?_⟩
  obtain ⟨hcs3, htk3, hle3, hcm3, hgr3⟩ := HX.out
  obtain ⟨hbl, hlc, hlim, htk⟩ := HH.out
  have hgr := Lib.grownBy_trans HG1.out hgr3
  have hfin := wrote_end (v := .slice (some ⟨g, 0, none⟩) l c) (new := s.data.toList) HB3.out HG3.out hbl rfl (by have := HNO.out; omega) (by have := Lib.lt_of_heap HB.out; have := HSZ.out; omega) hcs3 hle3 hcm3 (htk3.trans htk) hgr.os hgr.tape hgr.output hgr.size (fun k hk hkb _ => hgr.block k hk (fun e => hkb (by injection e))) (.inr (by rw [HSZ.out]; exact Nat.le_refl _))
  rw [List.append_assoc] at hfin
  exact hfin

set_option maxHeartbeats 8000000 in
set_option maxRecDepth 100000 in
theorem writeString_fits (w : World) (b T g l c : Nat) (lr : Int) (cells : Array Value) (s : ByteArray) (bs : List UInt8) (hb : w.heap[b]? = some (.cells #[.slice (some ⟨g, 0, none⟩) l c, .int .i64 0, .int .i8 lr] T (0, 0))) (hg : w.heap[g]? = some (.cells cells 5 (0, 0)))
    (hbl : bs.length = l) (hgb : g ≠ b) (hcs3 : cells.size = c) (hl1 : 1 ≤ l) (hn1 : 1 ≤ s.size) (hle3 : l + s.size ≤ c) (hcm : c ≤ maxLen) (htk : cells.toList.take l = bc bs) :
    Calls Tryz.prog 339 #[.pointer (some ⟨b, 0, none⟩), .string s] w fun e w' => e = .returned (.tuple #[.int .i64 s.size, .nilIface]) ∧ Wrote w w' b T (.slice (some ⟨g, 0, none⟩) l c) (bs ++ s.data.toList) := by
  obtain ⟨c0, c1, c2, f0, f1, f2⟩ := cell_at hb
  have h1 := Lib.heap_setCell_same (i := 2) hb (.int .i8 0)
  obtain ⟨w1, hw1⟩ : ∃ w1, w.setCell ⟨b, 2, none⟩ (.int .i8 0) = w1 := ⟨_, rfl⟩
  rw [hw1] at h1
  have hb1 : w1.heap[b]? = some (.cells #[.slice (some ⟨g, 0, none⟩) l c, .int .i64 0, .int .i8 0] T (0, 0)) := h1
  have hg1 : w1.heap[g]? = some (.cells cells 5 (0, 0)) := by rw [← hw1, Below.heap_setCell _ _ _ _ hgb]; exact hg
  have g1 : w.grownBy w1 (some b) := by rw [← hw1]; exact Lib.grownBy_setCell w b 2 _
  obtain ⟨d0, d1, d2, e0, e1, e2⟩ := cell_at hb1
  have CT := Aside0.mk (tryGrow_fits w1 b _ l c s.size d0 e0 hle3 hcm)
  have h2 := Lib.heap_setCell_same (i := 0) hb1 (.slice (some ⟨g, 0, none⟩) (l + s.size) c)
  obtain ⟨w3, hw3⟩ : ∃ w3, w1.setCell ⟨b, 0, none⟩ (.slice (some ⟨g, 0, none⟩) (l + s.size) c) = w3 := ⟨_, rfl⟩
  rw [hw3] at h2 CT
  have hb3 : w3.heap[b]? = some (.cells #[.slice (some ⟨g, 0, none⟩) (l + s.size) c, .int .i64 0, .int .i8 0] T (0, 0)) := h2
  have hg3 : w3.heap[g]? = some (.cells cells 5 (0, 0)) := by rw [← hw3, Below.heap_setCell _ _ _ _ hgb]; exact hg1
  have hgr : w.grownBy w3 (some b) := by rw [← hw3]; exact Lib.grownBy_setB g1 0 _
  obtain ⟨x0, x1, x2, y0, y1, y2⟩ := cell_at hb3
  have HB3 := Aside0.mk hb3
  have HG3 := Aside0.mk hg3
  have p1 : l ≤ l + s.size := Nat.le_add_right _ _
  have p2 : l ≤ c := by omega
  have hcl : (c = l) = False := eq_false (by omega)
  have hcp : (Builtin.copy_ #[47, 9] 3 #[.slice (some ⟨g, l, none⟩) s.size (c - l), .string s]).run Tryz.prog w3 = .ok (.int .i64 s.size) (w3.setRow g (cells.toList.take l ++ bc s.data.toList ++ cells.toList.drop (l + s.size)).toArray) :=
    Lib.run_copy_row_string (P := Tryz.prog) w3 47 9 3 5 g l s.size (c - l) s cells 5 Tryz.underlying47 size5 HG3.out (Nat.le_refl _) (by rw [hcs3]; exact hle3)
  have HX := Aside0.mk (And.intro hbl (And.intro hgb (And.intro hcs3 (And.intro hl1 (And.intro hle3 (And.intro hcm (And.intro htk hgr)))))))
  clear hb hg hbl hgb hcs3 hl1 hn1 hle3 hcm htk hb1 hg1 g1 h1 h2 hb3 hg3 hgr
  go_enter Tryz.func339, Tryz.ntmps339
  go_wp2_with (go_at_call 357; fail)
  refine CT.out.mono ?_
  rintro e w2 ⟨rfl, h2⟩
  rw [h2]
  clear h2
  go_wp2
  go_ret2
  refine ⟨rfl, ?_⟩
  obtain ⟨hbl, hgb, hcs3, hl1, hle3, hcm, htk, hgr⟩ := HX.out
  have hfin := wrote_end (v := .slice (some ⟨g, 0, none⟩) l c) (new := s.data.toList) HB3.out HG3.out hbl rfl (by omega) hgb hcs3 hle3 hcm htk hgr.os hgr.tape hgr.output hgr.size (fun k hk hkb _ => hgr.block k hk (fun e => hkb (by injection e))) (.inl rfl)
  rw [List.append_assoc] at hfin
  exact hfin

set_option maxHeartbeats 8000000 in
set_option maxRecDepth 100000 in
theorem writeString_nil (w : World) (b T : Nat) (lr : Int) (s : ByteArray) (hb : w.heap[b]? = some (.cells #[.slice none 0 0, .int .i64 0, .int .i8 lr] T (0, 0))) (hn1 : 1 ≤ s.size) (h64 : s.size ≤ 64) :
    Calls Tryz.prog 339 #[.pointer (some ⟨b, 0, none⟩), .string s] w fun e w' => e = .returned (.tuple #[.int .i64 s.size, .nilIface]) ∧ Wrote w w' b T (.slice none 0 0) (s.data.toList) := by
  obtain ⟨c0, c1, c2, f0, f1, f2⟩ := cell_at hb
  have h1 := Lib.heap_setCell_same (i := 2) hb (.int .i8 0)
  obtain ⟨w1, hw1⟩ : ∃ w1, w.setCell ⟨b, 2, none⟩ (.int .i8 0) = w1 := ⟨_, rfl⟩
  rw [hw1] at h1
  have hb1 : w1.heap[b]? = some (.cells #[.slice none 0 0, .int .i64 0, .int .i8 0] T (0, 0)) := h1
  have g1 : w.grownBy w1 (some b) := by rw [← hw1]; exact Lib.grownBy_setCell w b 2 _
  obtain ⟨d0, d1, d2, e0, e1, e2⟩ := cell_at hb1
  have CT := Aside0.mk (tryGrow_not w1 b none 0 0 s.size d0 (by omega) (Nat.le_refl _) (by unfold maxLen; omega) (by omega))
  have CG := Aside0.mk (grow_nil_small w1 b T s.size 0 hb1 hn1 h64)
  have HB := Aside0.mk hb
  have HG1 := Aside0.mk g1
  have HNO := Aside0.mk hn1
  clear hb hb1 g1 h1 hn1 h64
  go_enter Tryz.func339, Tryz.ntmps339
  go_wp2_with (go_at_call 357; fail)
  refine CT.out.mono ?_
  rintro e w2 ⟨rfl, h2⟩
  rw [h2]
  clear h2
  go_wp2_with (go_at_call 358; fail)
  refine CG.out.mono ?_
  rintro e w3 ⟨rfl, cap, cells, hb3, hg3, hcs3, htk3, hle3, hcm3, hgr3⟩
  rw [Nat.zero_add] at hb3
  obtain ⟨x0, x1, x2, y0, y1, y2⟩ := cell_at hb3
  have HB3 := Aside0.mk hb3
  have HG3 := Aside0.mk hg3
  have HX := Aside0.mk (And.intro hcs3 (And.intro hle3 (And.intro hcm3 hgr3)))
  have p2 : s.size ≤ cap := by omega
  have hcl : (cap = 0) = False := eq_false (by have := HNO.out; omega)
  have HSZ := Aside0.mk (show w1.heap.size = w.heap.size by rw [← hw1]; simp [World.setCell])
  have l0 : ∃ l, l = 0 := ⟨0, rfl⟩
  have hcp : (Builtin.copy_ #[47, 9] 3 #[.slice (some ⟨w1.heap.size, 0, none⟩) s.size cap, .string s]).run Tryz.prog w3 = .ok (.int .i64 s.size) (w3.setRow w1.heap.size (cells.toList.take 0 ++ bc s.data.toList ++ cells.toList.drop (0 + s.size)).toArray) :=
    Lib.run_copy_row_string (P := Tryz.prog) w3 47 9 3 5 w1.heap.size 0 s.size cap s cells 5 Tryz.underlying47 size5 HG3.out (Nat.le_refl _) (by rw [hcs3]; exact hle3)
  clear hb3 hg3 hcs3 htk3 hle3 hcm3 hgr3 c0 c1 c2 f0 f1 f2 d0 d1 d2 e0 e1 e2
  go_wp2
  go_ret2
  refine ⟨rfl, ?_⟩
  obtain ⟨hcs3, hle3, hcm3, hgr3⟩ := HX.out
  have hgr := Lib.grownBy_trans HG1.out hgr3
  have hfin := wrote_end (v := .slice none 0 0) (l := 0) (n := s.size) (bs := []) (new := s.data.toList) (by rw [Nat.zero_add]; exact HB3.out) HG3.out rfl rfl (by have := HNO.out; omega) (by have := Lib.lt_of_heap HB.out; have := HSZ.out; omega) hcs3 hle3 hcm3 rfl hgr.os hgr.tape hgr.output hgr.size (fun k hk hkb _ => hgr.block k hk (fun e => hkb (by injection e))) (.inr (by rw [HSZ.out]; exact Nat.le_refl _))
  simpa using hfin

set_option maxHeartbeats 8000000 in
set_option maxRecDepth 100000 in
theorem write_grow (w : World) (b T g l c : Nat) (lr : Int) (cur : Array Value) (ad : Addr) (sc m : Nat) (new : List UInt8) (HSRC : Aside0 ((∀ (j : Nat) (v : Value), (bc new)[j]? = some v → w.cell? (ad.add j) = some v) ∧ ad.block ≠ b ∧ new.length = m)) (bs : List UInt8) (hb : w.heap[b]? = some (.cells #[.slice (some ⟨g, 0, none⟩) l c, .int .i64 0, .int .i8 lr] T (0, 0))) (hg : w.heap[g]? = some (.cells cur 5 (0, 0)))
    (hbl : bs.length = l) (hgb : g ≠ b) (hcs : cur.size = c) (hl1 : 1 ≤ l) (hlc : l ≤ c) (hno : c < l + m) (hlim : l + m ≤ 1000000000) (htk : cur.toList.take l = bc bs) :
    Calls Tryz.prog 329 #[.pointer (some ⟨b, 0, none⟩), .slice (some ad) m sc] w fun e w' => e = .returned (.tuple #[.int .i64 m, .nilIface]) ∧ Wrote w w' b T (.slice (some ⟨g, 0, none⟩) l c) (bs ++ new) := by
  obtain ⟨c0, c1, c2, f0, f1, f2⟩ := cell_at hb
  have h1 := Lib.heap_setCell_same (i := 2) hb (.int .i8 0)
  obtain ⟨w1, hw1⟩ : ∃ w1, w.setCell ⟨b, 2, none⟩ (.int .i8 0) = w1 := ⟨_, rfl⟩
  rw [hw1] at h1
  have hb1 : w1.heap[b]? = some (.cells #[.slice (some ⟨g, 0, none⟩) l c, .int .i64 0, .int .i8 0] T (0, 0)) := h1
  have hg1 : w1.heap[g]? = some (.cells cur 5 (0, 0)) := by rw [← hw1, Below.heap_setCell _ _ _ _ hgb]; exact hg
  have g1 : w.grownBy w1 (some b) := by rw [← hw1]; exact Lib.grownBy_setCell w b 2 _
  obtain ⟨d0, d1, d2, e0, e1, e2⟩ := cell_at hb1
  have CT := Aside0.mk (tryGrow_not w1 b _ l c m d0 hno hlc (by unfold maxLen; omega) (by omega))
  have CG := Aside0.mk (grow_row w1 b T g l c m 0 cur hb1 hg1 hcs hl1 hlc (by omega) hno hlim (by rw [htk]; intro v hv; simp [bc] at hv; obtain ⟨a, _, rfl⟩ := hv; rfl))
  have HB := Aside0.mk hb
  have HH := Aside0.mk (And.intro hbl (And.intro hlc (And.intro hlim htk)))
  have HG1 := Aside0.mk g1
  have HNO := Aside0.mk hno
  clear hb hg hbl hgb hcs hl1 hlc hno hlim htk hb1 hg1 g1 h1
  go_enter Tryz.func329, Tryz.ntmps329
  go_wp2_with (go_at_call 357; fail)
  refine CT.out.mono ?_
  rintro e w2 ⟨rfl, h2⟩
  rw [h2]
  clear h2
  go_wp2_with (go_at_call 358; fail)
  refine CG.out.mono ?_
  rintro e w3 ⟨rfl, cap, cells, hb3, hg3, hcs3, htk3, hle3, hcm3, hgr3⟩
  obtain ⟨x0, x1, x2, y0, y1, y2⟩ := cell_at hb3
  have HB3 := Aside0.mk hb3
  have HG3 := Aside0.mk hg3
  have HX := Aside0.mk (And.intro hcs3 (And.intro htk3 (And.intro hle3 (And.intro hcm3 hgr3))))
  have p1 : l ≤ l + m := Nat.le_add_right _ _
  have p2 : l ≤ cap := by omega
  have hcl : (cap = l) = False := eq_false (by have := HNO.out; have := HH.out; omega)
  have HSZ := Aside0.mk (show w1.heap.size = w.heap.size by rw [← hw1]; simp [World.setCell])
  have hs3 : ∀ (j : Nat) (v : Value), (bc new)[j]? = some v → w3.cell? (ad.add j) = some v := fun j v hj => (Lib.grownBy_trans HG1.out hgr3).cell (HSRC.out.1 j v hj) (by intro e; injection e with e; apply HSRC.out.2.1; rw [← e]; unfold Addr.add; split <;> rfl)
  have hln : (bc new).length = m := by rw [bc, List.length_map]; exact HSRC.out.2.2
  have hcp : (Builtin.copy_ #[47, 47] 3 #[.slice (some ⟨w1.heap.size, l, none⟩) m (cap - l), .slice (some ad) m sc]).run Tryz.prog w3 = .ok (.int .i64 m) (w3.setRow w1.heap.size (cells.toList.take l ++ bc new ++ cells.toList.drop (l + m)).toArray) := by
    have := run_copy_row (P := Tryz.prog) w3 47 47 3 5 w1.heap.size l m (cap - l) ad m sc cells 5 (bc new) Tryz.underlying47 size5 HG3.out (by rw [hln]; exact (Nat.min_self m).symm) hs3 (by rw [hln, hcs3]; exact hle3) (by intro v hv; simp [bc] at hv; obtain ⟨a, _, rfl⟩ := hv; rfl)
    rw [hln] at this
    exact this
  clear hs3
  clear hb3 hg3 hcs3 htk3 hle3 hcm3 hgr3 c0 c1 c2 f0 f1 f2 d0 d1 d2 e0 e1 e2
  go_wp2
  go_ret2
  refine ⟨rfl, ?_⟩
  obtain ⟨hcs3, htk3, hle3, hcm3, hgr3⟩ := HX.out
  obtain ⟨hbl, hlc, hlim, htk⟩ := HH.out
  have hgr := Lib.grownBy_trans HG1.out hgr3
  have hfin := wrote_end (v := .slice (some ⟨g, 0, none⟩) l c) (new := new) HB3.out HG3.out hbl HSRC.out.2.2 (by have := HNO.out; omega) (by have := Lib.lt_of_heap HB.out; have := HSZ.out; omega) hcs3 hle3 hcm3 (htk3.trans htk) hgr.os hgr.tape hgr.output hgr.size (fun k hk hkb _ => hgr.block k hk (fun e => hkb (by injection e))) (.inr (by rw [HSZ.out]; exact Nat.le_refl _))
  rw [List.append_assoc] at hfin
  exact hfin

set_option maxHeartbeats 8000000 in
set_option maxRecDepth 100000 in
theorem write_fits (w : World) (b T g l c : Nat) (lr : Int) (cells : Array Value) (ad : Addr) (sc m : Nat) (new : List UInt8) (HSRC : Aside0 ((∀ (j : Nat) (v : Value), (bc new)[j]? = some v → w.cell? (ad.add j) = some v) ∧ ad.block ≠ b ∧ new.length = m)) (bs : List UInt8) (hb : w.heap[b]? = some (.cells #[.slice (some ⟨g, 0, none⟩) l c, .int .i64 0, .int .i8 lr] T (0, 0))) (hg : w.heap[g]? = some (.cells cells 5 (0, 0)))
    (hbl : bs.length = l) (hgb : g ≠ b) (hcs3 : cells.size = c) (hl1 : 1 ≤ l) (hn1 : 1 ≤ m) (hle3 : l + m ≤ c) (hcm : c ≤ maxLen) (htk : cells.toList.take l = bc bs) :
    Calls Tryz.prog 329 #[.pointer (some ⟨b, 0, none⟩), .slice (some ad) m sc] w fun e w' => e = .returned (.tuple #[.int .i64 m, .nilIface]) ∧ Wrote w w' b T (.slice (some ⟨g, 0, none⟩) l c) (bs ++ new) := by
  obtain ⟨c0, c1, c2, f0, f1, f2⟩ := cell_at hb
  have h1 := Lib.heap_setCell_same (i := 2) hb (.int .i8 0)
  obtain ⟨w1, hw1⟩ : ∃ w1, w.setCell ⟨b, 2, none⟩ (.int .i8 0) = w1 := ⟨_, rfl⟩
  rw [hw1] at h1
  have hb1 : w1.heap[b]? = some (.cells #[.slice (some ⟨g, 0, none⟩) l c, .int .i64 0, .int .i8 0] T (0, 0)) := h1
  have hg1 : w1.heap[g]? = some (.cells cells 5 (0, 0)) := by rw [← hw1, Below.heap_setCell _ _ _ _ hgb]; exact hg
  have g1 : w.grownBy w1 (some b) := by rw [← hw1]; exact Lib.grownBy_setCell w b 2 _
  obtain ⟨d0, d1, d2, e0, e1, e2⟩ := cell_at hb1
  have CT := Aside0.mk (tryGrow_fits w1 b _ l c m d0 e0 hle3 hcm)
  have h2 := Lib.heap_setCell_same (i := 0) hb1 (.slice (some ⟨g, 0, none⟩) (l + m) c)
  obtain ⟨w3, hw3⟩ : ∃ w3, w1.setCell ⟨b, 0, none⟩ (.slice (some ⟨g, 0, none⟩) (l + m) c) = w3 := ⟨_, rfl⟩
  rw [hw3] at h2 CT
  have hb3 : w3.heap[b]? = some (.cells #[.slice (some ⟨g, 0, none⟩) (l + m) c, .int .i64 0, .int .i8 0] T (0, 0)) := h2
  have hg3 : w3.heap[g]? = some (.cells cells 5 (0, 0)) := by rw [← hw3, Below.heap_setCell _ _ _ _ hgb]; exact hg1
  have hgr : w.grownBy w3 (some b) := by rw [← hw3]; exact Lib.grownBy_setB g1 0 _
  obtain ⟨x0, x1, x2, y0, y1, y2⟩ := cell_at hb3
  have HB3 := Aside0.mk hb3
  have HG3 := Aside0.mk hg3
  have p1 : l ≤ l + m := Nat.le_add_right _ _
  have p2 : l ≤ c := by omega
  have hcl : (c = l) = False := eq_false (by omega)
  have hs3 : ∀ (j : Nat) (v : Value), (bc new)[j]? = some v → w3.cell? (ad.add j) = some v := fun j v hj => (hgr).cell (HSRC.out.1 j v hj) (by intro e; injection e with e; apply HSRC.out.2.1; rw [← e]; unfold Addr.add; split <;> rfl)
  have hln : (bc new).length = m := by rw [bc, List.length_map]; exact HSRC.out.2.2
  have hcp : (Builtin.copy_ #[47, 47] 3 #[.slice (some ⟨g, l, none⟩) m (c - l), .slice (some ad) m sc]).run Tryz.prog w3 = .ok (.int .i64 m) (w3.setRow g (cells.toList.take l ++ bc new ++ cells.toList.drop (l + m)).toArray) := by
    have := run_copy_row (P := Tryz.prog) w3 47 47 3 5 g l m (c - l) ad m sc cells 5 (bc new) Tryz.underlying47 size5 HG3.out (by rw [hln]; exact (Nat.min_self m).symm) hs3 (by rw [hln, hcs3]; exact hle3) (by intro v hv; simp [bc] at hv; obtain ⟨a, _, rfl⟩ := hv; rfl)
    rw [hln] at this
    exact this
  clear hs3
  have HX := Aside0.mk (And.intro hbl (And.intro hgb (And.intro hcs3 (And.intro hl1 (And.intro hle3 (And.intro hcm (And.intro htk hgr)))))))
  clear hb hg hbl hgb hcs3 hl1 hn1 hle3 hcm htk hb1 hg1 g1 h1 h2 hb3 hg3 hgr
  go_enter Tryz.func329, Tryz.ntmps329
  go_wp2_with (go_at_call 357; fail)
  refine CT.out.mono ?_
  rintro e w2 ⟨rfl, h2⟩
  rw [h2]
  clear h2
  go_wp2
  go_ret2
  refine ⟨rfl, ?_⟩
  obtain ⟨hbl, hgb, hcs3, hl1, hle3, hcm, htk, hgr⟩ := HX.out
  have hfin := wrote_end (v := .slice (some ⟨g, 0, none⟩) l c) (new := new) HB3.out HG3.out hbl HSRC.out.2.2 (by omega) hgb hcs3 hle3 hcm htk hgr.os hgr.tape hgr.output hgr.size (fun k hk hkb _ => hgr.block k hk (fun e => hkb (by injection e))) (.inl rfl)
  rw [List.append_assoc] at hfin
  exact hfin

set_option maxHeartbeats 8000000 in
set_option maxRecDepth 100000 in
theorem write_nil (w : World) (b T : Nat) (lr : Int) (ad : Addr) (sc m : Nat) (new : List UInt8) (HSRC : Aside0 ((∀ (j : Nat) (v : Value), (bc new)[j]? = some v → w.cell? (ad.add j) = some v) ∧ ad.block ≠ b ∧ new.length = m)) (hb : w.heap[b]? = some (.cells #[.slice none 0 0, .int .i64 0, .int .i8 lr] T (0, 0))) (hn1 : 1 ≤ m) (h64 : m ≤ 64) :
    Calls Tryz.prog 329 #[.pointer (some ⟨b, 0, none⟩), .slice (some ad) m sc] w fun e w' => e = .returned (.tuple #[.int .i64 m, .nilIface]) ∧ Wrote w w' b T (.slice none 0 0) (new) := by
  obtain ⟨c0, c1, c2, f0, f1, f2⟩ := cell_at hb
  have h1 := Lib.heap_setCell_same (i := 2) hb (.int .i8 0)
  obtain ⟨w1, hw1⟩ : ∃ w1, w.setCell ⟨b, 2, none⟩ (.int .i8 0) = w1 := ⟨_, rfl⟩
  rw [hw1] at h1
  have hb1 : w1.heap[b]? = some (.cells #[.slice none 0 0, .int .i64 0, .int .i8 0] T (0, 0)) := h1
  have g1 : w.grownBy w1 (some b) := by rw [← hw1]; exact Lib.grownBy_setCell w b 2 _
  obtain ⟨d0, d1, d2, e0, e1, e2⟩ := cell_at hb1
  have CT := Aside0.mk (tryGrow_not w1 b none 0 0 m d0 (by omega) (Nat.le_refl _) (by unfold maxLen; omega) (by omega))
  have CG := Aside0.mk (grow_nil_small w1 b T m 0 hb1 hn1 h64)
  have HB := Aside0.mk hb
  have HG1 := Aside0.mk g1
  have HNO := Aside0.mk hn1
  clear hb hb1 g1 h1 hn1 h64
  go_enter Tryz.func329, Tryz.ntmps329
  go_wp2_with (go_at_call 357; fail)
  refine CT.out.mono ?_
  rintro e w2 ⟨rfl, h2⟩
  rw [h2]
  clear h2
  go_wp2_with (go_at_call 358; fail)
  refine CG.out.mono ?_
  rintro e w3 ⟨rfl, cap, cells, hb3, hg3, hcs3, htk3, hle3, hcm3, hgr3⟩
  rw [Nat.zero_add] at hb3
  obtain ⟨x0, x1, x2, y0, y1, y2⟩ := cell_at hb3
  have HB3 := Aside0.mk hb3
  have HG3 := Aside0.mk hg3
  have HX := Aside0.mk (And.intro hcs3 (And.intro hle3 (And.intro hcm3 hgr3)))
  have p2 : m ≤ cap := by omega
  have hcl : (cap = 0) = False := eq_false (by have := HNO.out; omega)
  have HSZ := Aside0.mk (show w1.heap.size = w.heap.size by rw [← hw1]; simp [World.setCell])
  have l0 : ∃ l, l = 0 := ⟨0, rfl⟩
  have hs3 : ∀ (j : Nat) (v : Value), (bc new)[j]? = some v → w3.cell? (ad.add j) = some v := fun j v hj => (Lib.grownBy_trans HG1.out hgr3).cell (HSRC.out.1 j v hj) (by intro e; injection e with e; apply HSRC.out.2.1; rw [← e]; unfold Addr.add; split <;> rfl)
  have hln : (bc new).length = m := by rw [bc, List.length_map]; exact HSRC.out.2.2
  have hcp : (Builtin.copy_ #[47, 47] 3 #[.slice (some ⟨w1.heap.size, 0, none⟩) m cap, .slice (some ad) m sc]).run Tryz.prog w3 = .ok (.int .i64 m) (w3.setRow w1.heap.size (cells.toList.take 0 ++ bc new ++ cells.toList.drop (0 + m)).toArray) := by
    have := run_copy_row (P := Tryz.prog) w3 47 47 3 5 w1.heap.size 0 m cap ad m sc cells 5 (bc new) Tryz.underlying47 size5 HG3.out (by rw [hln]; exact (Nat.min_self m).symm) hs3 (by rw [hln, hcs3]; exact hle3) (by intro v hv; simp [bc] at hv; obtain ⟨a, _, rfl⟩ := hv; rfl)
    rw [hln] at this
    exact this
  clear hs3
  clear hb3 hg3 hcs3 htk3 hle3 hcm3 hgr3 c0 c1 c2 f0 f1 f2 d0 d1 d2 e0 e1 e2
  go_wp2
  go_ret2
  refine ⟨rfl, ?_⟩
  obtain ⟨hcs3, hle3, hcm3, hgr3⟩ := HX.out
  have hgr := Lib.grownBy_trans HG1.out hgr3
  have hfin := wrote_end (v := .slice none 0 0) (l := 0) (n := m) (bs := []) (new := new) (by rw [Nat.zero_add]; exact HB3.out) HG3.out rfl HSRC.out.2.2 (by have := HNO.out; omega) (by have := Lib.lt_of_heap HB.out; have := HSZ.out; omega) hcs3 hle3 hcm3 rfl hgr.os hgr.tape hgr.output hgr.size (fun k hk hkb _ => hgr.block k hk (fun e => hkb (by injection e))) (.inr (by rw [HSZ.out]; exact Nat.le_refl _))
  simpa using hfin
end Go.Proofs.YtonagpnnfhilgaaGreat.Hand
