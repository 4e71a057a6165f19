/- The walked contracts, in the words of the executor. Conditions: those in each statement. -/
import Derived.Test.YtonagpnnfhilgaaGreatVxZ
import Derived.Test.YtonagpnnfhilgaaGreatKD
namespace Vx
open Go Go.Proofs Go.RowKit Go.Proofs.YtonagpnnfhilgaaGreatW.PrintWords Go.Proofs.YtonagpnnfhilgaaGreatW.PrintLast Go.Proofs.YtonagpnnfhilgaaGreatW.PrintMore Go.Proofs.YtonagpnnfhilgaaGreat.Hand
set_option linter.unusedVariables false
set_option linter.unusedSimpArgs false

/-! ## Contracts, one function each -/
abbrev Sum := List LV → St → Option (LV × St)

def SumOk (V : VP) (P : Program) (s : Atoms) (f : FuncId) (S : Sum) : Prop :=
  ∀ (base : Nat) (w0 : World) (ρ : Rho) (σ : St) (w : World) (args : List LV) (av : Array Value) (v : LV) (σ' : St), RW V s base w0 ρ σ w → RVs s ρ args av.toList → S args σ = some (v, σ') →
    Calls P f av w fun e w' => ∃ x ρ', e = .returned x ∧ ρ <+: ρ' ∧ RW V s base w0 ρ' σ' w' ∧ RV s ρ' v x

def sumAt (n : Nat) (S : Sum) (C : CallF) : CallF := fun f args σ => cond (Nat.beq f n) (S args σ) (C f args σ)

theorem sumAt_ok {V : VP} {P : Program} {s : Atoms} {n : Nat} {S : Sum} {C : CallF} (h : SumOk V P s n S) (hC : CallsOk V P s C) : CallsOk V P s (sumAt n S C) := by
  intro base w0 ρ σ w f args av v σ' hw ha hc
  unfold sumAt at hc
  cases hb : Nat.beq f n with
  | true =>
    rw [hb] at hc
    have := Nat.eq_of_beq_eq_true hb; subst this
    exact h base w0 ρ σ w args av v σ' hw ha hc
  | false =>
    rw [hb] at hc
    exact hC base w0 ρ σ w f args av v σ' hw ha hc

theorem arr_of {av : Array Value} {l : List Value} (h : av.toList = l) : av = l.toArray := by
  apply Array.ext'
  simpa using h

theorem args1 {s : Atoms} {ρ : Rho} {a : LV} {av : Array Value} (h : RVs s ρ [a] av.toList) : ∃ x, av = #[x] ∧ RV s ρ a x := by
  obtain ⟨x, e, hx⟩ := one_of h
  exact ⟨x, arr_of e, hx⟩
theorem args2 {s : Atoms} {ρ : Rho} {a b : LV} {av : Array Value} (h : RVs s ρ [a, b] av.toList) : ∃ x y, av = #[x, y] ∧ RV s ρ a x ∧ RV s ρ b y := by
  obtain ⟨x, y, e, hx, hy⟩ := two_of h
  exact ⟨x, y, arr_of e, hx, hy⟩
theorem args3 {s : Atoms} {ρ : Rho} {a b c : LV} {av : Array Value} (h : RVs s ρ [a, b, c] av.toList) : ∃ x y z, av = #[x, y, z] ∧ RV s ρ a x ∧ RV s ρ b y ∧ RV s ρ c z := by
  obtain ⟨x, xs, e, hx, h2⟩ := h
  obtain ⟨y, z, rfl, hy, hz⟩ := two_of h2
  exact ⟨x, y, z, arr_of e, hx, hy, hz⟩

/-! ## Texts to texts -/
def findT (t : Txt) : List (Txt × Txt) → Option Txt
  | [] => none
  | (a, b) :: r => cond (t.beq a) (some b) (findT t r)

theorem findT_mem {t u : Txt} : ∀ {L : List (Txt × Txt)}, findT t L = some u → (t, u) ∈ L
  | [], h => by cases h
  | (a, b) :: r, h => by
    simp only [findT] at h
    cases hb : t.beq a with
    | true =>
      rw [hb] at h; cases h
      rw [Txt.beq_eq hb]; exact List.mem_cons_self ..
    | false => rw [hb] at h; exact List.mem_cons_of_mem _ (findT_mem h)

def mapStr (L : List (Txt × Txt)) : Sum := fun args σ => match args with
  | .str t :: [] => match findT t L with
    | some u => some (.str u, σ)
    | none => none
  | _ => none

/-- A function of a text, at one text. -/
def StrLaw (P : Program) (s : Atoms) (f : FuncId) (t u : Txt) : Prop := ∀ (base : Nat) (w0 w : World) (b : ByteArray), s.tied base w0 → Below base w0 w → base ≤ w.heap.size → b.data.toList = den s t →
  Calls P f #[.string b] w fun e w' => ∃ c : ByteArray, e = .returned (.string c) ∧ c.data.toList = den s u ∧ Below w.heap.size w w'

theorem mapStr_ok {V : VP} {P : Program} {s : Atoms} {f : FuncId} {L : List (Txt × Txt)} (h : ∀ t u, (t, u) ∈ L → StrLaw P s f t u) : SumOk V P s f (mapStr L) := by
  intro base w0 ρ σ w args av v σ' hw ha hc
  unfold mapStr at hc
  split at hc
  case h_2 => cases hc
  rename_i t
  split at hc
  case h_2 => cases hc
  rename_i u hu
  cases hc
  obtain ⟨x, rfl, b, rfl, hb⟩ := args1 ha
  refine (h t u (findT_mem hu) base w0 w b hw.tied hw.below hw.base_le hb).mono ?_
  rintro e w' ⟨c, rfl, hc, hbel⟩
  exact ⟨_, ρ, rfl, List.prefix_refl _, hw.world hbel, c, rfl, hc⟩

/-- A function of a text and a literal one. -/
def goT (t : Txt) : List (Txt × LV) → Option LV
  | [] => none
  | (a, b) :: r => cond (t.beq a) (some b) (goT t r)
def mapStr2 (k : List UInt8) (L : List (Txt × LV)) : Sum := fun args σ => match args with
  | .str t :: .str (.lit k' :: []) :: [] => cond (beqBytes k' k) (match goT t L with
    | some u => some (u, σ)
    | none => none) none
  | _ => none

theorem go_mem {t : Txt} {u : LV} : ∀ {L : List (Txt × LV)}, goT t L = some u → (t, u) ∈ L
  | [], h => by cases h
  | (a, b) :: r, h => by
    simp only [goT] at h
    cases hb : t.beq a with
    | true =>
      rw [hb] at h; cases h
      rw [Txt.beq_eq hb]; exact List.mem_cons_self ..
    | false => rw [hb] at h; exact List.mem_cons_of_mem _ (go_mem h)

def StrLaw2 (P : Program) (s : Atoms) (f : FuncId) (k : List UInt8) (t : Txt) (u : LV) : Prop := ∀ (w : World) (b c : ByteArray), b.data.toList = den s t → c.data.toList = k →
  Calls P f #[.string b, .string c] w fun e w' => ∃ x, e = .returned x ∧ (∀ ρ, RV s ρ u x) ∧ Below w.heap.size w w'

theorem mapStr2_ok {V : VP} {P : Program} {s : Atoms} {f : FuncId} {k : List UInt8} {L : List (Txt × LV)} (h : ∀ t u, (t, u) ∈ L → StrLaw2 P s f k t u) : SumOk V P s f (mapStr2 k L) := by
  intro base w0 ρ σ w args av v σ' hw ha hc
  unfold mapStr2 at hc
  split at hc
  case h_2 => cases hc
  rename_i t k'
  cases hk : beqBytes k' k with
  | false => rw [hk] at hc; cases hc
  | true =>
    rw [hk] at hc; simp only [cond_true] at hc
    have := beqBytes_eq hk; subst this
    split at hc
    case h_2 => cases hc
    rename_i hu
    cases hc
    obtain ⟨x, y, rfl, ⟨b, rfl, hb⟩, ⟨c, rfl, hc⟩⟩ := args2 ha
    refine (h t v (go_mem hu) w b c hb (by simpa [den] using hc)).mono ?_
    rintro e w' ⟨x, rfl, hx, hbel⟩
    exact ⟨_, ρ, rfl, List.prefix_refl _, hw.world hbel, hx ρ⟩

/-! ## Bytes in memory -/
theorem bytesAt_C {w : World} {v : Value} {bs : List UInt8} (h : bytesAt w v bs) (h63 : bs.length ≤ 1000000) :
    ∃ A c, v = .slice A (bytesI bs).length c ∧ Kd.C (Kd.int .u8) w A (bytesI bs).length (bytesI bs) ∧ (bytesI bs).length ≤ c := by
  rcases h with ⟨rfl, c, rfl⟩ | ⟨b, o, c, cs, e, fr, rfl, hh, hc, hk⟩
  · exact ⟨none, c, rfl, ⟨rfl, by decide, fun h => absurd h (by decide)⟩, Nat.zero_le _⟩
  · refine ⟨some ⟨b, o, none⟩, c, by rw [bytesI_length], C_mk (by omega) fun j hj => ?_, by rw [bytesI_length]; exact hc⟩
    rw [row_cell hh]
    exact hk j hj

theorem own_bytesAt {w : World} {base : Nat} {v : Value} {bs : List UInt8} (h : w.ownsRow base 5 1 v bs.length (nums .u8 (bytesI bs))) :
    bytesAt w v bs ∧ (∀ b, (Bind.val v).block = some b → base ≤ b ∧ b < w.heap.size) ∧ ∃ A c, v = .slice A bs.length c := by
  obtain ⟨_, h | ⟨g, cap, cur, rfl, hg, hh, hn, _, hsz, htk⟩⟩ := h
  · obtain ⟨rfl, h0⟩ := h
    have := List.length_eq_zero_iff.1 h0
    subst this
    exact ⟨.inl ⟨rfl, 0, rfl⟩, (fun b hb => by cases hb), none, 0, rfl⟩
  · refine ⟨.inr ⟨g, 0, cap, cur, 5, (0, 0), rfl, hh, hn, fun k hk => ?_⟩, (fun b hb => ?_), _, _, rfl⟩
    · rw [Nat.zero_add]
      have e : (cur.toList.take (bs.length * 1))[k]? = (nums .u8 (bytesI bs))[k]? := by rw [htk]
      rw [List.getElem?_take, if_pos (by omega), Array.getElem?_toList] at e
      rw [e]
      simp [nums, bytesI, hk]
    · have hb' : g = b := by simpa [Bind.block] using hb
      subst hb'
      exact ⟨hg, (Array.getElem?_eq_some_iff.1 hh).1⟩

theorem view_fresh {V : VP} {s : Atoms} {base : Nat} {w0 : World} {ρ : Rho} {σ : St} {w w' : World} {v : Value} {t : Txt} (hw : RW V s base w0 ρ σ w) (hb : Below w.heap.size w w') (h : w'.ownsRow w.heap.size 5 1 v (den s t).length (nums .u8 (bytesI (den s t)))) :
    RW V s base w0 (ρ ++ [.val v]) (newOb σ (.view t)).2 w' ∧ RV s (ρ ++ [.val v]) (.bsl σ.next t) v := by
  obtain ⟨h1, h2, A, c, h3⟩ := own_bytesAt h
  have hw' := hw.world hb
  refine ⟨hw'.allocView h1 (fun b hb => ⟨Nat.le_trans hw.base_le (h2 b hb).1, (h2 b hb).2⟩) ?_, ?_⟩
  · intro l o bd b hl hbd hbb hvb
    have := (hw.low l o bd b hl hbd hbb).2
    have := (h2 b hvb).1
    omega
  · exact ⟨by rw [← hw.len]; simp, A, _, c, h3, rfl⟩

def memT (t : Txt) : List Txt → Bool
  | [] => false
  | a :: r => t.beq a || memT t r

theorem memT_mem {t : Txt} : ∀ {L : List Txt}, memT t L = true → t ∈ L
  | [], h => by cases h
  | a :: r, h => by
    simp only [memT, Bool.or_eq_true] at h
    rcases h with h | h
    · rw [Txt.beq_eq h]; exact List.mem_cons_self ..
    · exact List.mem_cons_of_mem _ (memT_mem h)

/-- A function that answers its bytes, in a new row. -/
def idBytes (L : List Txt) : Sum := fun args σ => match args with
  | .bsl l _ :: [] => match textAt σ l with
    | some t => cond (memT t L) (some (.bsl σ.next t, (newOb σ (.view t)).2)) none
    | none => none
  | _ => none

def BytesLaw (P : Program) (f : FuncId) (bs : List UInt8) (rest : Array Value → Array Value) : Prop := ∀ (w : World) (A : Option Addr) (c : Nat), Kd.C (Kd.int .u8) w A (bytesI bs).length (bytesI bs) → (bytesI bs).length ≤ c →
  Calls P f (rest #[.slice A (bytesI bs).length c]) w fun e w' => (∃ v, e = .returned v ∧ w'.ownsRow w.heap.size 5 1 v bs.length (nums .u8 (bytesI bs))) ∧ Below w.heap.size w w'

theorem idBytes_ok {V : VP} {P : Program} {s : Atoms} {f : FuncId} {L : List Txt} (h : ∀ t, t ∈ L → (den s t).length ≤ 1000000 ∧ BytesLaw P f (den s t) id) : SumOk V P s f (idBytes L) := by
  intro base w0 ρ σ w args av v σ' hw ha hc
  unfold idBytes at hc
  split at hc
  case h_2 => cases hc
  rename_i l t0
  split at hc
  case h_2 => cases hc
  rename_i t ht
  cases hm : memT t L with
  | false => rw [hm] at hc; cases hc
  | true =>
    rw [hm] at hc; cases hc
    obtain ⟨x, rfl, hx⟩ := args1 ha
    obtain ⟨h1, h2⟩ := h t (memT_mem hm)
    obtain ⟨A, c, rfl, hC, hc⟩ := bytesAt_C (textAt_ok hw ht hx) h1
    refine (h2 w A c hC hc).mono ?_
    rintro e w' ⟨⟨v, rfl, hv⟩, hb⟩
    obtain ⟨g1, g2⟩ := view_fresh hw hb hv
    exact ⟨v, _, rfl, List.prefix_append _ _, g1, g2⟩

/-- zzReplaceBytes of a text that does not hold the first byte. -/
def replBytes (L : List Txt) : Sum := fun args σ => match args with
  | .bsl l _ :: .str (.lit (x :: a) :: []) :: .str _ :: [] => match textAt σ l with
    | some t => cond (memT t L && Nat.ble a.length 9 && Nat.ble 128 x.toNat) (some (.bsl σ.next t, (newOb σ (.view t)).2)) none
    | none => none
  | _ => none

theorem replBytes_ok {V : VP} {P : Program} {s : Atoms} {f : FuncId} {L : List Txt}
    (h : ∀ t, t ∈ L → (den s t).length ≤ 1000000 ∧ ∀ (x : UInt8) (a : List UInt8) (b : ByteArray), a.length ≤ 9 → 128 ≤ x.toNat → BytesLaw P f (den s t) (fun r => r ++ #[.string ⟨(x :: a).toArray⟩, .string b])) : SumOk V P s f (replBytes L) := by
  intro base w0 ρ σ w args av v σ' hw ha hc
  unfold replBytes at hc
  split at hc
  case h_2 => cases hc
  rename_i l t0 x a u
  split at hc
  case h_2 => cases hc
  rename_i t ht
  cases hm : (memT t L && Nat.ble a.length 9 && Nat.ble 128 x.toNat) with
  | false => rw [hm] at hc; cases hc
  | true =>
    rw [hm] at hc; cases hc
    simp only [Bool.and_eq_true] at hm
    obtain ⟨⟨hm, ha9⟩, hx128⟩ := hm
    obtain ⟨y, z, u', rfl, hx, ⟨b1, rfl, hb1⟩, ⟨b2, rfl, _⟩⟩ := args3 ha
    obtain ⟨h1, h2⟩ := h t (memT_mem hm)
    obtain ⟨A, c, rfl, hC, hc⟩ := bytesAt_C (textAt_ok hw ht hx) h1
    have e1 : b1 = ⟨(x :: a).toArray⟩ := by
      obtain ⟨d⟩ := b1
      congr 1
      apply Array.ext'
      simpa [den] using hb1
    subst e1
    refine (h2 x a b2 (Nat.le_of_ble_eq_true ha9) (Nat.le_of_ble_eq_true hx128) w A c hC hc).mono ?_
    rintro e w' ⟨⟨v, rfl, hv⟩, hb⟩
    obtain ⟨g1, g2⟩ := view_fresh hw hb hv
    exact ⟨v, _, rfl, List.prefix_append _ _, g1, g2⟩
end Vx

namespace Vx
open Go Go.Proofs Go.RowKit Go.Proofs.YtonagpnnfhilgaaGreatW.PrintWords Go.Proofs.YtonagpnnfhilgaaGreatW.PrintLast Go.Proofs.YtonagpnnfhilgaaGreatW.PrintMore Go.Proofs.YtonagpnnfhilgaaGreat.Hand
set_option linter.unusedVariables false
set_option linter.unusedSimpArgs false

/-! ## bytes.Buffer -/
/-- A buffer that has only been written: its type, its text, where that lies. -/
def bufT (σ : St) (l : Nat) : Option (TypeId × Txt × Option Nat) := match σ.heap.get l with
  | some (.row e (c :: .int .i64 (.ofNat 0) :: .int .i8 (.ofNat 0) :: []) .exact) => match c with
    | .nils => some (e, [], none)
    | .bsl n _ => match σ.heap.get n with
      | some (.bytes t) => some (e, t, some n)
      | _ => none
    | _ => none
  | _ => none

def bufPut (σ : St) (l : Nat) (e : TypeId) (o : Option Nat) (t : Txt) : St :=
  { heap := ((match o with | some n => σ.heap.del n | none => σ.heap).put l (.row e [.bsl σ.next t, .int .i64 (.ofNat 0), .int .i8 (.ofNat 0)] .exact)).put σ.next (.bytes t), next := σ.next + 1 }

theorem buf_of {V : VP} {s : Atoms} {base : Nat} {w0 : World} {ρ : Rho} {σ : St} {w : World} (h5 : V.bty = 5) (hw : RW V s base w0 ρ σ w) {l : Nat} {T : TypeId} {t : Txt} {o : Option Nat} (h : bufT σ l = some (T, t, o)) {b K : Nat} (hρ : ρ[l]? = some (.row b K)) :
    ∃ v c0, BufAt w b T (den s t) v ∧ w.heap[b]? = some (.cells #[v, .int .i64 0, .int .i8 0] T (0, 0)) ∧ σ.heap.get l = some (.row T [c0, .int .i64 (.ofNat 0), .int .i8 (.ofNat 0)] .exact) ∧
      ((o = none ∧ t = [] ∧ v = .slice none 0 0) ∨ ∃ n, o = some n ∧ σ.heap.get n = some (.bytes t) ∧ ρ[n]? = some (.val v) ∧ den s t ≠ []) := by
  unfold bufT at h
  split at h
  case h_2 => cases h
  rename_i e c hl
  obtain ⟨ca, sp, fr, q1, q2, q3, q4, q5⟩ := row_of hw hl hρ
  have hsp := q3 rfl
  subst hsp
  have hfr : fr = (0, 0) := q4
  subst hfr
  obtain ⟨v, vs, e1, r1, v2, vs2, rfl, r2, v3, vs3, rfl, r3, r4⟩ := q2
  have r4' : vs3 = [] := r4
  simp only [RV] at r2 r3
  subst r4' r2 r3
  have ec : ca = #[v, .int .i64 0, .int .i8 0] := arr_of e1
  rw [Array.append_empty, ec] at q1
  split at h
  · cases h
    simp only [RV] at r1; subst r1
    exact ⟨_, _, ⟨⟨0, q1⟩, .inl ⟨rfl, rfl⟩⟩, q1, hl, .inl ⟨rfl, rfl, rfl⟩⟩
  · rename_i n t0
    split at h
    case h_2 => cases h
    rename_i t' hn
    cases h
    obtain ⟨g1, g2⟩ := r1
    obtain ⟨bd, k1, k2⟩ := hw.ob n _ hn
    rw [g1] at k1; cases k1
    obtain ⟨g, cap, cs, ev, hh, hsz, hle, hcm, hpos, hcell⟩ := k2
    cases ev
    rw [h5] at hh
    have hne : den s t ≠ [] := by intro e; rw [e] at hpos; simp at hpos
    refine ⟨_, _, ⟨⟨0, q1⟩, .inr ⟨hne, g, cap, cs, rfl, ?_, hh, hsz, hle, hcm, ?_⟩⟩, q1, hl, .inr ⟨n, rfl, hn, g1, hne⟩⟩
    · intro eg; subst eg
      have hnl : n ≠ l := by rintro rfl; rw [hn] at hl; cases hl
      have := (hw.apart n l _ _ _ _ g hnl hn hl g1 hρ rfl rfl).1
      cases this
    · apply List.ext_getElem?
      intro k
      by_cases hk : k < (den s t).length
      · rw [List.getElem?_take, if_pos hk, Array.getElem?_toList, hcell k hk]
        simp [bc, hk]
      · rw [List.getElem?_eq_none (by simp; omega), List.getElem?_eq_none (by simp [bc]; omega)]
  · cases h

theorem rw_wrote {V : VP} {s : Atoms} {base : Nat} {w0 : World} {ρ : Rho} {σ : St} {w w' : World} (h5 : V.bty = 5) (hw : RW V s base w0 ρ σ w) {l : Nat} {T : TypeId} {t t' : Txt} {o : Option Nat} {b K : Nat} (hρ : ρ[l]? = some (.row b K)) {v : Value} {c0 : LV}
    (hl : σ.heap.get l = some (.row T [c0, .int .i64 (.ofNat 0), .int .i8 (.ofNat 0)] .exact))
    (ho : (o = none ∧ t = [] ∧ v = .slice none 0 0) ∨ ∃ n, o = some n ∧ σ.heap.get n = some (.bytes t) ∧ ρ[n]? = some (.val v) ∧ den s t ≠ [])
    (hW : Wrote w w' b T v (den s t')) (hne : den s t' ≠ []) : ∃ ρ', ρ <+: ρ' ∧ RW V s base w0 ρ' (bufPut σ l T o t') w' := by
  obtain ⟨v', ⟨⟨lr, hb'⟩, hbuf⟩, hown⟩ := hW.buf
  obtain ⟨v2, hb2⟩ := hW.last
  rw [hb'] at hb2
  have elr : v' = v2 ∧ lr = 0 := by simpa using hb2
  obtain ⟨rfl, rfl⟩ := elr
  rcases hbuf with ⟨h0, _⟩ | ⟨_, g, cap, cur, rfl, hgb, hg, hcs, hle, hcm, htk⟩
  · exact absurd h0 hne
  have hown' : (v.ownBlock = some g) ∨ w.heap.size ≤ g := by
    rcases hown with h | ⟨g', h1, h2⟩
    · exact .inl (by rw [← h]; rfl)
    · have : g = g' := by simpa [Value.ownBlock] using h1
      subst this; exact .inr h2
  clear hown
  have hb : base ≤ b ∧ b < w.heap.size := hw.low l _ _ b hl hρ rfl
  have hblk : ∀ k, v.ownBlock = some k → ∃ n, o = some n ∧ σ.heap.get n = some (.bytes t) ∧ ρ[n]? = some (.val v) ∧ (Bind.val v).block = some k := by
    intro k hk
    rcases ho with ⟨_, _, rfl⟩ | ⟨n, h1, h2, h3, _⟩
    · cases hk
    · refine ⟨n, h1, h2, h3, ?_⟩
      cases v <;> try cases hk
      rename_i a _ _
      cases a <;> first | exact hk | cases hk
  have hget : ∀ k x, (bufPut σ l T o t').heap.get k = some x → (k = σ.next ∧ x = .bytes t') ∨ (k ≠ σ.next ∧ k = l ∧ x = .row T [.bsl σ.next t', .int .i64 (.ofNat 0), .int .i8 (.ofNat 0)] .exact) ∨
      (k ≠ σ.next ∧ k ≠ l ∧ (∀ n, o = some n → k ≠ n) ∧ σ.heap.get k = some x) := by
    intro k x hk
    simp only [bufPut, Tr.get_put] at hk
    by_cases e : k = σ.next
    · rw [if_pos e] at hk; exact .inl ⟨e, (Option.some.inj hk).symm⟩
    · rw [if_neg e] at hk
      by_cases e2 : k = l
      · rw [if_pos e2] at hk; exact .inr (.inl ⟨e, e2, (Option.some.inj hk).symm⟩)
      · rw [if_neg e2] at hk
        refine .inr (.inr ⟨e, e2, ?_⟩)
        cases o with
        | none => exact ⟨(fun n h => by cases h), hk⟩
        | some n =>
          simp only [Tr.get_del] at hk
          by_cases e3 : k = n
          · rw [if_pos e3] at hk; cases hk
          · rw [if_neg e3] at hk
            exact ⟨fun m h => by cases h; exact e3, hk⟩
  have hfl := hw.fresh hl
  have hold : ∀ k x, σ.heap.get k = some x → (ρ ++ [Bind.val (.slice (some ⟨g, 0, none⟩) (den s t').length cap)])[k]? = ρ[k]? := fun k x hk =>
    List.getElem?_append_left (by have := hw.fresh hk; have := hw.len; omega)
  have hnew : (ρ ++ [Bind.val (.slice (some ⟨g, 0, none⟩) (den s t').length cap)])[σ.next]? = some (.val (.slice (some ⟨g, 0, none⟩) (den s t').length cap)) := by
    rw [← hw.len]; simp
  have hoth : ∀ k x bd, k ≠ l → (∀ n, o = some n → k ≠ n) → σ.heap.get k = some x → ρ[k]? = some bd → ∀ b', bd.block = some b' → b' ≠ b ∧ v.ownBlock ≠ some b' ∧ b' < w.heap.size := by
    intro k x bd hkl hkn hk hbd bq hbq
    refine ⟨?_, ?_, (hw.low k x bd bq hk hbd hbq).2⟩
    · intro ebq
      rw [ebq] at hbq
      have := (hw.apart k l x _ bd _ b hkl hk hl hbd hρ hbq rfl).2
      cases this
    · intro e
      obtain ⟨n, h1, h2, h3, h4⟩ := hblk bq e
      have := (hw.apart k n x _ bd _ bq (hkn n h1) hk h2 hbd h3 hbq h4).2
      cases this
  have hgsz : g < w'.heap.size := (Array.getElem?_eq_some_iff.1 hg).1
  have hgbase : base ≤ g := by
    rcases hown' with h | h
    · obtain ⟨n, h1, h2, h3, h4⟩ := hblk g h
      exact (hw.low n _ _ g h2 h3 h4).1
    · exact Nat.le_trans hw.base_le h
  have hgo : ∀ k x bd, k ≠ l → (∀ n, o = some n → k ≠ n) → σ.heap.get k = some x → ρ[k]? = some bd → bd.block ≠ some g := by
    intro k x bd hkl hkn hk hbd e
    obtain ⟨_, h2, h3⟩ := hoth k x bd hkl hkn hk hbd g e
    rcases hown' with h | h
    · exact h2 h
    · omega
  refine ⟨ρ ++ [.val (.slice (some ⟨g, 0, none⟩) (den s t').length cap)], List.prefix_append _ _, ?_⟩
  refine { len := by simp [bufPut, hw.len], ob := ?_, low := ?_, apart := ?_, below := ?_, base_le := Nat.le_trans hw.base_le hW.size, tied := hw.tied }
  · intro k x hk
    rcases hget k x hk with ⟨rfl, rfl⟩ | ⟨hk1, rfl, rfl⟩ | ⟨hk1, hk2, hk3, hk⟩
    · refine ⟨_, hnew, g, cap, cur, rfl, by rw [h5]; exact hg, hcs, hle, hcm, List.length_pos_iff.2 hne, fun j hj => ?_⟩
      have e : (cur.toList.take (den s t').length)[j]? = (bc (den s t'))[j]? := by rw [htk]
      rw [List.getElem?_take, if_pos hj, Array.getElem?_toList] at e
      rw [e]
      simp [bc, hj]
    · refine ⟨.row b K, by rw [hold k _ hl]; exact hρ, b, K, #[.slice (some ⟨g, 0, none⟩) (den s t').length cap, .int .i64 0, .int .i8 0], #[], (0, 0), rfl, by rw [Array.append_empty]; exact hb', ?_, fun _ => rfl, rfl, ?_⟩
      · exact ⟨_, _, rfl, ⟨hnew, _, _, _, rfl, rfl⟩, _, _, rfl, rfl, _, _, rfl, rfl, rfl⟩
      · intro i hi
        obtain ⟨ca, sp, fr, q1, q2, q3, q4, q5⟩ := row_of hw hl hρ
        have hsp := q3 rfl
        subst hsp
        have := q5 i hi
        have hl3 := q2.length
        simp only [Array.append_empty, Array.length_toList, List.length_cons, List.length_nil] at hl3 this ⊢
        rw [hl3] at this
        exact this
    · obtain ⟨bd, h1, h2⟩ := hw.ob k x hk
      refine ⟨bd, by rw [hold k x hk]; exact h1, (h2.ext _).congr fun b' hb' => ?_⟩
      obtain ⟨p1, p2, p3⟩ := hoth k x bd hk2 hk3 hk h1 b' hb'
      exact hW.keep b' p3 p1 p2
  · intro k x bd b' hk h1 hb'
    rcases hget k x hk with ⟨rfl, rfl⟩ | ⟨hk1, rfl, rfl⟩ | ⟨hk1, hk2, hk3, hk⟩
    · rw [hnew] at h1; cases h1
      have : g = b' := by simpa [Bind.block] using hb'
      subst this; exact ⟨hgbase, hgsz⟩
    · rw [hold k _ hl] at h1
      have := hw.low k _ bd b' hl h1 hb'
      exact ⟨this.1, Nat.lt_of_lt_of_le this.2 hW.size⟩
    · rw [hold k x hk] at h1
      have := hw.low k _ bd b' hk h1 hb'
      exact ⟨this.1, Nat.lt_of_lt_of_le this.2 hW.size⟩
  · intro k k' x x' bd bd' bq hne2 hkq hkq' h1 h2 hb1 hb2
    rcases hget k x hkq with ⟨ek, ex⟩ | ⟨hk1, ek, ex⟩ | ⟨hk1, hk2, hk3, hk⟩
    · rw [ek, hnew] at h1; cases h1
      have egq : g = bq := by simpa [Bind.block] using hb1
      rw [← egq] at hb2
      rcases hget k' x' hkq' with ⟨ek', ex'⟩ | ⟨hk1', ek', ex'⟩ | ⟨hk1', hk2', hk3', hk'⟩
      · exact absurd (ek.trans ek'.symm) hne2
      · rw [ek', hold l _ hl, hρ] at h2; cases h2
        have : b = g := by simpa [Bind.block] using hb2
        exact absurd this.symm hgb
      · rw [hold k' x' hk'] at h2
        exact absurd hb2 (hgo k' x' bd' hk2' hk3' hk' h2)
    · rw [ek, hold l _ hl, hρ] at h1; cases h1
      have ebq : b = bq := by simpa [Bind.block] using hb1
      rw [← ebq] at hb2
      rcases hget k' x' hkq' with ⟨ek', ex'⟩ | ⟨hk1', ek', ex'⟩ | ⟨hk1', hk2', hk3', hk'⟩
      · rw [ek', hnew] at h2; cases h2
        have : g = b := by simpa [Bind.block] using hb2
        exact absurd this hgb
      · exact absurd (ek.trans ek'.symm) hne2
      · rw [hold k' x' hk'] at h2
        exact absurd rfl (hoth k' x' bd' hk2' hk3' hk' h2 b hb2).1
    · rw [hold k x hk] at h1
      rcases hget k' x' hkq' with ⟨ek', ex'⟩ | ⟨hk1', ek', ex'⟩ | ⟨hk1', hk2', hk3', hk'⟩
      · rw [ek', hnew] at h2; cases h2
        have egq : g = bq := by simpa [Bind.block] using hb2
        rw [← egq] at hb1
        exact absurd hb1 (hgo k x bd hk2 hk3 hk h1)
      · rw [ek', hold l _ hl, hρ] at h2; cases h2
        have ebq : b = bq := by simpa [Bind.block] using hb2
        rw [← ebq] at hb1
        exact absurd rfl (hoth k x bd hk2 hk3 hk h1 b hb1).1
      · rw [hold k' x' hk'] at h2
        exact hw.apart k k' x x' bd bd' bq hne2 hk hk' h1 h2 hb1 hb2
  · refine hw.below.trans ⟨hW.os, hW.tape, hW.output, Nat.le_trans hw.base_le hW.size |> fun _ => hW.size, fun k hk => hW.keep k (by have := hw.base_le; omega) (by omega) fun e => ?_⟩
    obtain ⟨n, h1, h2, h3, h4⟩ := hblk k e
    have := (hw.low n _ _ k h2 h3 h4).1
    omega

/-- How long a text is at most. -/
def smallAt (i : Nat) : List (Nat × Nat) → Nat
  | [] => 1000000
  | (j, n) :: r => cond (Nat.beq i j) n (smallAt i r)
def small (L : List (Nat × Nat)) : Txt → Nat
  | [] => 0
  | .lit b :: r => b.length + small L r
  | .atom i :: r => smallAt i L + small L r

def SmallOk (s : Atoms) (L : List (Nat × Nat)) : Prop := (∀ i n, (i, n) ∈ L → (s.txt i).length ≤ n) ∧ ∀ i, (s.txt i).length ≤ 4000000000

theorem small_go {s : Atoms} : ∀ {L : List (Nat × Nat)}, (∀ i n, (i, n) ∈ L → (s.txt i).length ≤ n) → ∀ i, smallAt i L < 1000000 → (s.txt i).length ≤ smallAt i L
  | [], h, i, hi => by simp [smallAt] at hi
  | (j, n) :: r, h, i, hi => by
    simp only [smallAt] at hi ⊢
    cases hb : Nat.beq i j with
    | true =>
      have := Nat.eq_of_beq_eq_true hb; subst this
      exact h i n (List.mem_cons_self ..)
    | false =>
      rw [hb] at hi
      exact small_go (fun i n hm => h i n (List.mem_cons_of_mem _ hm)) i hi

theorem small_ok {s : Atoms} {L : List (Nat × Nat)} (h : SmallOk s L) : ∀ {t : Txt}, small L t < 1000000 → (den s t).length ≤ small L t
  | [], _ => Nat.le_refl _
  | .lit b :: r, ht => by
    simp only [small] at ht ⊢
    have := small_ok h (t := r) (by omega)
    simp only [den, List.length_append]; omega
  | .atom i :: r, ht => by
    simp only [small] at ht ⊢
    have := small_ok h (t := r) (by omega)
    have := small_go h.1 i (by omega)
    simp only [den, List.length_append]; omega

/-- May a text be written: not empty, at most 64 bytes; and the whole at most a million. -/
def wok (F : Facts) (L : List (Nat × Nat)) (t u : Txt) : Bool := (match Txt.empty? F u with | some false => true | _ => false) && Nat.ble (small L u) 64 && Nat.ble (small L t) 100000

theorem wok_ok {V : VP} {P : Program} {s : Atoms} (hV : V.Ok P s) {L : List (Nat × Nat)} (hL : SmallOk s L) {t u : Txt} (h : wok V.facts L t u = true) :
    den s u ≠ [] ∧ (den s u).length ≤ 64 ∧ (den s t).length ≤ 100000 := by
  unfold wok at h
  simp only [Bool.and_eq_true] at h
  obtain ⟨⟨h1, h2⟩, h3⟩ := h
  have h2 := Nat.le_of_ble_eq_true h2
  have h3 := Nat.le_of_ble_eq_true h3
  refine ⟨?_, Nat.le_trans (small_ok hL (by omega)) h2, Nat.le_trans (small_ok hL (by omega)) h3⟩
  split at h1
  · rename_i he
    have := empty?_ok hV.facts he
    intro e
    rw [e] at this
    cases this
  · cases h1

/-- WriteRune of ASCII. -/
def runeS (F : Facts) (L : List (Nat × Nat)) : Sum := fun args σ => match args with
  | .ptr l 0 :: .int .i32 (.ofNat n) :: [] => match bufT σ l with
    | some (e, t, o) => cond (Nat.blt n 128 && Nat.ble (small L t) 100000) (some (.tuple [.int .i64 1, .nili], bufPut σ l e o (t.cat [.lit [UInt8.ofNat n]]))) none
    | none => none
  | _ => none

theorem runeS_ok {V : VP} {s : Atoms} (h5 : V.bty = 5) {L : List (Nat × Nat)} (hL : SmallOk s L) : SumOk V Tryz.prog s 330 (runeS V.facts L) := by
  intro base w0 ρ σ w args av v σ' hw ha hc
  unfold runeS at hc
  split at hc
  case h_2 => cases hc
  rename_i l n
  split at hc
  case h_2 => cases hc
  rename_i e t o hbt
  cases hk : (Nat.blt n 128 && Nat.ble (small L t) 100000) with
  | false => rw [hk] at hc; cases hc
  | true =>
    rw [hk] at hc; cases hc
    simp only [Bool.and_eq_true] at hk
    have hn : n < 128 := Nat.le_of_ble_eq_true hk.1
    have hsm := Nat.le_of_ble_eq_true hk.2
    have hlen := Nat.le_trans (small_ok hL (by omega)) hsm
    obtain ⟨x, y, rfl, ⟨b, K, hρ, rfl⟩, hy⟩ := args2 ha
    simp only [RV] at hy; subst hy
    obtain ⟨v0, c0, g1, g2, g3, g4⟩ := buf_of h5 hw hbt hρ
    have hn2 : n < 256 := by omega
    have hu : (UInt8.ofNat n).toNat = n := UInt8.toNat_ofNat_of_lt' (by simpa using hn2)
    have hC := writeRune_calls w b e (UInt8.ofNat n) (by rw [hu]; exact hn) (den s t) v0 g1 (by omega)
    rw [hu] at hC
    refine Calls.mono hC ?_
    rintro e' w' ⟨rfl, hW⟩
    have hd : den s (t.cat [.lit [UInt8.ofNat n]]) = den s t ++ [UInt8.ofNat n] := by rw [den_cat]; simp [den]
    rw [← hd] at hW
    obtain ⟨ρ', p1, p2⟩ := rw_wrote h5 hw hρ g3 g4 hW (by rw [hd]; simp)
    exact ⟨_, ρ', rfl, p1, p2, _, rfl, _, _, rfl, rfl, _, _, rfl, rfl, rfl⟩

/-- WriteString. -/
def stringS (F : Facts) (L : List (Nat × Nat)) : Sum := fun args σ => match args with
  | .ptr l 0 :: .str u :: [] => match bufT σ l with
    | some (e, t, o) => cond (wok F L t u) (some (.tuple [.len u, .nili], bufPut σ l e o (t.cat u))) none
    | none => none
  | _ => none

theorem stringS_ok {V : VP} {s : Atoms} (hV : V.Ok Tryz.prog s) (h5 : V.bty = 5) {L : List (Nat × Nat)} (hL : SmallOk s L) : SumOk V Tryz.prog s 339 (stringS V.facts L) := by
  intro base w0 ρ σ w args av v σ' hw ha hc
  unfold stringS at hc
  split at hc
  case h_2 => cases hc
  rename_i l u
  split at hc
  case h_2 => cases hc
  rename_i e t o hbt
  cases hk : wok V.facts L t u with
  | false => rw [hk] at hc; cases hc
  | true =>
    rw [hk] at hc; cases hc
    obtain ⟨k1, k2, k3⟩ := wok_ok hV hL hk
    obtain ⟨x, y, rfl, ⟨b, K, hρ, rfl⟩, ⟨c, rfl, hc⟩⟩ := args2 ha
    obtain ⟨v0, c0, g1, g2, g3, g4⟩ := buf_of h5 hw hbt hρ
    have hcs : c.size = (den s u).length := by rw [← hc, Array.length_toList]; rfl
    have hpos : 1 ≤ (den s u).length := List.length_pos_iff.2 k1
    refine Calls.mono (writeString_calls w b e c (den s t) v0 g1 (by omega) (by omega) (by omega)) ?_
    rintro e' w' ⟨rfl, hW⟩
    have hd : den s (t.cat u) = den s t ++ c.data.toList := by rw [den_cat, hc]
    rw [← hd] at hW
    obtain ⟨ρ', p1, p2⟩ := rw_wrote h5 hw hρ g3 g4 hW (by rw [hd, hc]; simp [k1])
    exact ⟨_, ρ', rfl, p1, p2, _, rfl, _, _, rfl, by simp only [RV]; rw [hcs], _, _, rfl, rfl, rfl⟩

/-- The bytes that are to be written. -/
def srcT (σ : St) (l : Nat) : LV → Option Txt
  | .bsl k _ => textAt σ k
  | .slice k i 1 n => cond (Nat.beq k l) none (match cellsOf σ 1 (.slice k i 1 n) with
    | some c => match bytesOf c with
      | some b => some (Txt.ofBytes b)
      | none => none
    | none => none)
  | _ => none

/-- Nothing is written. -/
def noneT : LV → Bool
  | .nils => true
  | .bsl _ [] => true
  | _ => false

def writeS (F : Facts) (L : List (Nat × Nat)) : Sum := fun args σ => match args with
  | .ptr l 0 :: x :: [] => match bufT σ l with
    | some (e, t, o) => cond (noneT x) (cond (Nat.ble (small L t) 100000) (some (.tuple [.int .i64 0, .nili], σ)) none)
      (match srcT σ l x with
      | some u => cond (wok F L t u) (some (.tuple [.len u, .nili], bufPut σ l e o (t.cat u))) none
      | none => none)
    | none => none
  | _ => none

theorem srcT_ok {V : VP} {s : Atoms} {base : Nat} {w0 : World} {ρ : Rho} {σ : St} {w : World} (hw : RW V s base w0 ρ σ w) {l : Nat} {x : LV} {u : Txt} (h : srcT σ l x = some u) {b K : Nat} (hρ : ρ[l]? = some (.row b K)) {T : TypeId} {cs : List LV} (hl : σ.heap.get l = some (.row T cs .exact))
    {y : Value} (hy : RV s ρ x y) (hne : den s u ≠ []) : ∃ ad c, y = .slice (some ad) (den s u).length c ∧ ad.block ≠ b ∧ ∀ (j : Nat) (v : Value), (bc (den s u))[j]? = some v → w.cell? (ad.add j) = some v := by
  unfold srcT at h
  split at h
  · rename_i k t0
    rcases textAt_ok hw h hy with ⟨h0, _⟩ | ⟨b', o', c, cs', e, fr, rfl, hh, hc, hk⟩
    · exact absurd h0 hne
    · refine ⟨_, c, rfl, ?_, fun j v hj => ?_⟩
      · intro eb
        have eb : b' = b := eb
        subst eb
        have hk0 := hy.1
        unfold textAt at h
        split at h
        · rename_i t1 ho
          have hkl : k ≠ l := by rintro rfl; rw [ho] at hl; cases hl
          have := (hw.apart k l _ _ _ _ b' hkl ho hl hk0 hρ rfl rfl).2
          cases this
        · rename_i t1 ho
          have hkl : k ≠ l := by rintro rfl; rw [ho] at hl; cases hl
          have := (hw.apart k l _ _ _ _ b' hkl ho hl hk0 hρ rfl rfl).2
          cases this
        · cases h
      · have hj' : j < (den s u).length := by
          have := (List.getElem?_eq_some_iff.1 hj).1
          rwa [bc, List.length_map] at this
        rw [addr_add, row_cell hh, hk j hj']
        simpa [bc, hj'] using hj
  · rename_i k i n
    cases hkl : Nat.beq k l with
    | true => rw [hkl] at h; cases h
    | false =>
      rw [hkl] at h; simp only [cond_false] at h
      have hkl := Nat.ne_of_beq_eq_false hkl
      split at h
      case h_2 => cases h
      rename_i c hcl
      split at h
      case h_2 => cases h
      rename_i bs hbs
      cases h
      rw [den_ofBytes] at hne ⊢
      obtain ⟨b', K', h1, h2, rfl⟩ := hy
      simp only [cellsOf, Nat.beq_refl, cond_true, Nat.mul_one] at hcl
      split at hcl
      case h_2 => cases hcl
      rename_i e cs' kk hk0
      obtain ⟨ca, sp, fr, q1, q2, _⟩ := row_of hw hk0 h1
      obtain ⟨vs, r1, r2, r3, r4, r5⟩ := stretch (sp := sp) q2 hcl
      have hvs : vs = bc bs := bytesOf_ok r1 hbs
      have hlen : bs.length = n := by rw [← r2, hvs, bc, List.length_map]
      refine ⟨⟨b', i * 1, none⟩, K' - i, by rw [hlen], ?_, fun j v hj => ?_⟩
      · intro eb
        have eb : b' = b := eb
        subst eb
        have := (hw.apart k l _ _ _ _ b' hkl hk0 hl h1 hρ rfl rfl).2
        cases this
      · rw [addr_add, row_cell q1, Nat.mul_one]
        exact r5 j v (by rw [hvs]; exact hj)
  · cases h

theorem writeS_ok {V : VP} {s : Atoms} (hV : V.Ok Tryz.prog s) (h5 : V.bty = 5) {L : List (Nat × Nat)} (hL : SmallOk s L) : SumOk V Tryz.prog s 329 (writeS V.facts L) := by
  intro base w0 ρ σ w args av v σ' hw ha hc
  unfold writeS at hc
  split at hc
  case h_2 => cases hc
  rename_i l x
  split at hc
  case h_2 => cases hc
  rename_i e t o hbt
  obtain ⟨p, y, rfl, ⟨b, K, hρ, rfl⟩, hy⟩ := args2 ha
  obtain ⟨v0, c0, g1, g2, g3, g4⟩ := buf_of h5 hw hbt hρ
  cases hn : noneT x with
  | true =>
    rw [hn] at hc; simp only [cond_true] at hc
    cases hs : Nat.ble (small L t) 100000 with
    | false => rw [hs] at hc; cases hc
    | true =>
      rw [hs] at hc; cases hc
      have hsm := Nat.le_of_ble_eq_true hs
      have hlen := Nat.le_trans (small_ok hL (by omega)) hsm
      obtain ⟨A, c, rfl⟩ : ∃ A c, y = .slice A 0 c := by
        unfold noneT at hn
        split at hn
        · simp only [RV] at hy; exact ⟨_, _, hy⟩
        · obtain ⟨_, A, n, c, rfl, h0⟩ := hy
          have : n = 0 := h0
          subst this
          exact ⟨A, c, rfl⟩
        · cases hn
      refine Calls.mono (write_zero w b e A c (den s t) v0 g1 g2 (by omega)) ?_
      rintro e' w' ⟨rfl, rfl⟩
      exact ⟨_, ρ, rfl, List.prefix_refl _, hw, _, rfl, _, _, rfl, rfl, _, _, rfl, rfl, rfl⟩
  | false =>
    rw [hn] at hc; simp only [cond_false] at hc
    split at hc
    case h_2 => cases hc
    rename_i u hsrc
    cases hk : wok V.facts L t u with
    | false => rw [hk] at hc; cases hc
    | true =>
      rw [hk] at hc; cases hc
      obtain ⟨k1, k2, k3⟩ := wok_ok hV hL hk
      obtain ⟨ad, c, rfl, hab, hcell⟩ := srcT_ok hw hsrc hρ g3 hy k1
      have hpos : 1 ≤ (den s u).length := List.length_pos_iff.2 k1
      refine Calls.mono (write_calls w b e ad c (den s u).length (den s u) hcell hab rfl (den s t) v0 g1 hpos k2 (by omega)) ?_
      rintro e' w' ⟨rfl, hW⟩
      rw [← den_cat] at hW
      obtain ⟨ρ', p1, p2⟩ := rw_wrote h5 hw hρ g3 g4 hW (by rw [den_cat]; simp [k1])
      exact ⟨_, ρ', rfl, p1, p2, _, rfl, _, _, rfl, rfl, _, _, rfl, rfl, rfl⟩
end Vx

namespace Vx
open Go Go.Proofs Go.RowKit Go.Proofs.YtonagpnnfhilgaaGreatW.PrintWords Go.Proofs.YtonagpnnfhilgaaGreatW.PrintLast Go.Proofs.YtonagpnnfhilgaaGreatW.PrintMore Go.Proofs.YtonagpnnfhilgaaGreat.Hand
set_option linter.unusedVariables false
set_option linter.unusedSimpArgs false

/-! ## The converter's marks -/
def alnumB (n : Nat) : Bool := Nat.beq n 32 || (Nat.ble 48 n && Nat.ble n 57) || (Nat.ble 65 n && Nat.ble n 90) || (Nat.ble 97 n && Nat.ble n 122)

/-- A mark that is no letter, digit or blank. -/
def keyQ : LV × LV → Bool
  | (.int .i32 (.ofNat n), _) => !alnumB n
  | _ => false

def disabledQ : List UInt8 := [100, 105, 115, 97, 98, 108, 101, 100]

/-- Letters, digits and blanks. -/
def QuietR (r : Int) : Prop := ∃ n : Nat, r = (n : Int) ∧ alnumB n = true

def quietL (σ : St) (p : Nat) : Bool := match σ.heap.get p with
  | some (.row _ cs _) => match nthV cs 9, nthV cs 6 with
    | some (.str m), some (.map mm) => (match m.lit? with
        | some b => !beqBytes b disabledQ
        | none => false) && (match σ.heap.get mm with
        | some (.map es) => allL keyQ es
        | _ => false)
    | _, _ => false
  | _ => false

/-- The type of the marks. -/
def marksTy (V : VP) : Bool := match V.ty.get 96 with
  | some j => match j.und with
    | .map kt e => (match V.ty.get kt with
      | some kd => (match kd.und with
        | .int .i32 => true
        | _ => false)
      | none => false) && (match V.ty.get e with
      | some _ => true
      | none => false)
    | _ => false
  | none => false

theorem find_none {V : VP} {r : Int} (hr : QuietR r) : ∀ {es : List (LV × LV)}, allL keyQ es = true → findE V (.int .i32) (.int .i32 r) es = some none
  | [], _ => rfl
  | (a, v) :: es, h => by
    simp only [allL, Bool.and_eq_true] at h
    obtain ⟨h1, h2⟩ := h
    have ih := find_none (V := V) hr h2
    unfold keyQ at h1
    split at h1
    · rename_i n _ e
      cases e
      obtain ⟨m, rfl, hm⟩ := hr
      have hne : ((m : Int) == Int.ofNat n) = false := by
        rw [beq_eq_false_iff_ne]
        intro e
        have : m = n := by rw [Int.ofNat_eq_natCast] at e; omega
        subst this
        rw [hm] at h1; cases h1
      simp only [findE, keyEq, kindBeq, cond_true, hne, ih]
    · cases h1

theorem nth_at : ∀ {cs : List LV} {i : Nat} {v : LV}, nthV cs i = some v → cs[i]? = some v
  | [], _, _, h => by cases h
  | _ :: _, 0, _, h => by simpa [nthV] using h
  | _ :: r, i + 1, _, h => by simpa using nth_at (cs := r) (i := i) h

theorem quiet_ok {V : VP} {s : Atoms} (hV : V.Ok Tryz.prog s) (h96 : marksTy V = true) {base : Nat} {w0 : World} {ρ : Rho} {σ : St} {w : World} (hw : RW V s base w0 ρ σ w) {p : Nat} (h : quietL σ p = true) {pb K : Nat} (hρ : ρ[p]? = some (.row pb K)) :
    Quiet w pb QuietR := by
  intro w1 hb1
  have hw1 := hw.world hb1
  unfold quietL at h
  split at h
  case h_2 => cases h
  rename_i e cs k hl
  split at h
  case h_2 => cases h
  rename_i t m h9 h6
  simp only [Bool.and_eq_true] at h
  obtain ⟨g1, g2⟩ := h
  split at g1
  case h_2 => cases g1
  rename_i b hb
  split at g2
  case h_2 => cases g2
  rename_i es hm
  obtain ⟨a, sp, fr, q1, q2, _⟩ := row_of hw1 hl hρ
  have cell : ∀ i v, nthV cs i = some v → ∃ x, w1.cell? ⟨pb, i, none⟩ = some x ∧ RV s ρ v x := by
    intro i v hi
    obtain ⟨x, e1, e2⟩ := rvs_get q2 i v (nth_at hi)
    refine ⟨x, ?_, e2⟩
    rw [row_cell q1]
    rw [Array.getElem?_toList] at e1
    rw [Array.getElem?_append_left (Array.getElem?_eq_some_iff.1 e1).1]
    exact e1
  constructor
  · obtain ⟨x, e1, bs, rfl, e3⟩ := cell 9 _ h9
    refine ⟨bs, e1, ?_⟩
    rw [e3, den_lit hb]
    have : beqBytes b disabledQ = false := by simpa using g1
    exact beqBytes_ne this
  · obtain ⟨x, e1, mb, K2, hmb, rfl⟩ := cell 6 _ h6
    refine ⟨mb, e1, fun r hr => ?_⟩
    unfold marksTy at h96
    split at h96
    case h_2 => cases h96
    rename_i j hj
    split at h96
    case h_2 => cases h96
    rename_i kt et he
    simp only [Bool.and_eq_true] at h96
    obtain ⟨p1, p2⟩ := h96
    split at p1
    case h_2 => cases p1
    rename_i kd hkd
    split at p1
    case h_2 => cases p1
    rename_i hku
    split at p2
    case h_2 => cases p2
    rename_i ei hei
    have hread : mapRead V σ kd.und (.map m) (.int .i32 r) = some none := by
      simp only [mapRead, hm, hku]; exact find_none hr g2
    obtain ⟨v, l1, l2⟩ := lookup_ok hV hw1 (x := .map m) (k := .int .i32 r) (a := .map (some mb)) (b := .int .i32 r) hj he hkd hei ⟨mb, K2, hmb, rfl⟩ rfl (by rw [hku]; rfl) hread true
    obtain ⟨arr, rfl, z, zs, ez, _, z1, zs1, ez1, hb2, hnil⟩ := l2
    simp only [RV] at hb2
    have hn : zs1 = [] := hnil
    subst hn ez1 hb2
    have : arr = #[z, .bool false] := by apply Array.ext'; simpa using ez
    subst this
    exact ⟨z, l1⟩

/-- A method of the converter that answers its bytes, in a new row. -/
def convBytes (L : List Txt) : Sum := fun args σ => match args with
  | .ptr p 0 :: .bsl l _ :: [] => cond (quietL σ p) (match textAt σ l with
    | some t => cond (memT t L) (some (.bsl σ.next t, (newOb σ (.view t)).2)) none
    | none => none) none
  | _ => none

theorem convBytes_ok {V : VP} {s : Atoms} (hV : V.Ok Tryz.prog s) (h96 : marksTy V = true) {f : FuncId} {L : List Txt}
    (h : ∀ t, t ∈ L → (den s t).length ≤ 1000000 ∧ ∀ (w : World) (pb : Nat) (A : Option Addr) (c : Nat), Quiet w pb QuietR → Kd.C (Kd.int .u8) w A (bytesI (den s t)).length (bytesI (den s t)) → (bytesI (den s t)).length ≤ c →
      Calls Tryz.prog f #[.pointer (some ⟨pb, 0, none⟩), .slice A (bytesI (den s t)).length c] w fun e w' => (∃ v, e = .returned v ∧ w'.ownsRow w.heap.size 5 1 v (den s t).length (nums .u8 (bytesI (den s t)))) ∧ Below w.heap.size w w') : SumOk V Tryz.prog s f (convBytes L) := by
  intro base w0 ρ σ w args av v σ' hw ha hc
  unfold convBytes at hc
  split at hc
  case h_2 => cases hc
  rename_i p l t0
  cases hq : quietL σ p with
  | false => rw [hq] at hc; cases hc
  | true =>
    rw [hq] at hc; simp only [cond_true] at hc
    split at hc
    case h_2 => cases hc
    rename_i t ht
    cases hm : memT t L with
    | false => rw [hm] at hc; cases hc
    | true =>
      rw [hm] at hc; cases hc
      obtain ⟨y, x, rfl, ⟨pb, K, hρ, rfl⟩, hx⟩ := args2 ha
      obtain ⟨h1, h2⟩ := h t (memT_mem hm)
      obtain ⟨A, c, rfl, hC, hc⟩ := bytesAt_C (textAt_ok hw ht hx) h1
      refine (h2 w pb A c (quiet_ok hV h96 hw hq hρ) hC hc).mono ?_
      rintro e w' ⟨⟨v, rfl, hv⟩, hb⟩
      obtain ⟨g1, g2⟩ := view_fresh hw hb hv
      exact ⟨v, _, rfl, List.prefix_append _ _, g1, g2⟩

/-! ## bytes.TrimSpace -/
def trimS (T : Txt) (u : Txt) : Sum := fun args σ => match args with
  | .bsl l _ :: [] => match textAt σ l with
    | some t => cond (t.beq T) (some (.bsl σ.next u, (newOb (σ.set l (.view t)) (.view u)).2)) none
    | none => none
  | _ => none

theorem bytesAt_part {w : World} {A : Option Addr} {n c : Nat} {bs : List UInt8} (h : bytesAt w (.slice A n c) bs) {ad : Addr} {i m : Nat} (hA : A = some ad) (hm : m ≠ 0) (hi : i + m ≤ bs.length) :
    bytesAt w (.slice (some (ad.add i)) m (c - i)) ((bs.take (i + m)).drop i) ∧ (ad.add i).block = ad.block := by
  subst hA
  rcases h with ⟨rfl, c', h⟩ | ⟨b, o, c', cs, e, fr, h, hh, hc, hk⟩
  · cases h
  · injection h with h1 h2 h3
    injection h1 with h1
    subst h1 h2 h3
    have hl : ((bs.take (i + m)).drop i).length = m := by rw [List.length_drop, List.length_take]; omega
    refine ⟨.inr ⟨b, o + i, c - i, cs, e, fr, by rw [addr_add, hl], hh, by rw [hl]; omega, fun k hkk => ?_⟩, by rw [addr_add]⟩
    rw [hl] at hkk
    rw [Nat.add_assoc, hk (i + k) (by omega)]
    simp

theorem trimS_ok {V : VP} {s : Atoms} {T u : Txt} {tab : Nat → Int} (hlen : (den s T).length ≤ 300) (hasc : ∀ (i : Nat) (h : i < (den s T).length), (den s T)[i].toNat < 128)
    (htab : ∀ base w0 w, s.tied base w0 → Below base w0 w → ∀ c : Nat, c < 128 → w.cell? ⟨0, c, none⟩ = some (.int .u8 (tab c))) (hu : den s u = trimBy (marked tab) (den s T)) : SumOk V Tryz.prog s 159 (trimS T u) := by
  intro base w0 ρ σ w args av v σ' hw ha hc
  unfold trimS at hc
  split at hc
  case h_2 => cases hc
  rename_i l t0
  split at hc
  case h_2 => cases hc
  rename_i t ht
  cases hm : t.beq T with
  | false => rw [hm] at hc; cases hc
  | true =>
    rw [hm] at hc; cases hc
    have := Txt.beq_eq hm; subst this
    obtain ⟨x, rfl, hx⟩ := args1 ha
    have hat := textAt_ok hw ht hx
    obtain ⟨A, c, rfl, hC, hc⟩ := bytesAt_C hat (by omega)
    refine (trimSpaceB_calls w A c (den s t) hC hc hlen hasc tab (htab base w0 w hw.tied hw.below)).mono ?_
    rintro e w' ⟨⟨v, rfl, hv⟩, rfl⟩
    obtain ⟨o, hl⟩ : ∃ o, σ.heap.get l = some o := by
      unfold textAt at ht
      split at ht
      · exact ⟨_, by assumption⟩
      · exact ⟨_, by assumption⟩
      · cases ht
    have hρ := hx.1
    have hw1 := hw.weaken hl hρ hat
    have hl1 : (σ.set l (.view t)).heap.get l = some (.view t) := by simp [St.set, Tr.get_put]
    have hnx : (σ.set l (.view t)).next = σ.next := rfl
    have fin : bytesAt w' v (den s u) → (∀ b, (Bind.val v).block = some b → (Bind.val (.slice A (bytesI (den s t)).length c)).block = some b) → (∃ A' c', v = .slice A' (den s u).length c') →
        RW V s base w0 (ρ ++ [.val v]) (newOb (σ.set l (.view t)) (.view u)).2 w' ∧ RV s (ρ ++ [.val v]) (.bsl σ.next u) v := by
      intro h1 h2 h3
      refine ⟨hw1.allocView h1 (fun b hb => hw1.low l _ _ b hl1 hρ (h2 b hb)) ?_, ?_⟩
      · intro l' o' bd b hl' hbd hbb hvb
        by_cases e : l' = l
        · subst e; rw [hl1] at hl'; cases hl'; rfl
        · exact (hw1.apart l' l o' _ bd _ b e hl' hl1 hbd hρ hbb (h2 b hvb)).1
      · obtain ⟨A', c', h3⟩ := h3
        exact ⟨by rw [← hw.len]; simp, A', _, c', h3, rfl⟩
    rcases trims_reads hv hC hc with ⟨rfl, h0⟩ | ⟨ad, i, c', hA, rfl, hne, hi, hile, hc', hpart⟩
    · have hu0 : den s u = [] := by rw [hu, h0]
      obtain ⟨g1, g2⟩ := fin (.inl ⟨hu0, 0, rfl⟩) (fun b hb => by cases hb) ⟨none, 0, by rw [hu0]; rfl⟩
      exact ⟨_, _, rfl, List.prefix_append _ _, g1, g2⟩
    · have hpos : (trimBy (marked tab) (den s t)).length ≠ 0 := by
        intro e; exact hne (List.length_eq_zero_iff.1 e)
      obtain ⟨p1, p2⟩ := bytesAt_part hat hA hpos (by exact hile)
      rw [← hc', ← hpart] at p1
      obtain ⟨g1, g2⟩ := fin (by rw [hu]; exact p1) (fun b hb => by
        subst hA
        have : (ad.add i).block = b := by simpa [Bind.block] using hb
        rw [p2] at this
        simp [Bind.block, this]) ⟨_, _, by rw [hu]⟩
      exact ⟨_, _, rfl, List.prefix_append _ _, g1, g2⟩

/-! ## bits.Len -/
def bitsL (n : Nat) : Nat := cond (Nat.beq n 0) 0 (cond (Nat.ble n 1) 1 (cond (Nat.ble n 3) 2 (cond (Nat.ble n 7) 3 (cond (Nat.ble n 15) 4 5))))
def lenS : Sum := fun args σ => match args with
  | .int .u64 (.ofNat n) :: [] => cond (Nat.ble n 31) (some (.int .i64 (.ofNat (bitsL n)), σ)) none
  | _ => none

theorem bl_ok : ∀ n, n ≤ 31 → bitsL n = Lib.bitLen n := by decide

theorem lenS_ok {V : VP} {s : Atoms} : SumOk V Tryz.prog s 93 lenS := by
  intro base w0 ρ σ w args av v σ' hw ha hc
  unfold lenS at hc
  split at hc
  case h_2 => cases hc
  rename_i n
  cases hm : Nat.ble n 31 with
  | false => rw [hm] at hc; cases hc
  | true =>
    rw [hm] at hc; cases hc
    have hn := Nat.le_of_ble_eq_true hm
    obtain ⟨x, rfl, hx⟩ := args1 ha
    simp only [RV] at hx; subst hx
    refine (Tryz.bits_Len (n : Int) w (by omega) (by omega)).mono ?_
    rintro e w' ⟨rfl, rfl⟩
    refine ⟨_, ρ, rfl, List.prefix_refl _, hw, ?_⟩
    simp only [RV]
    rw [bl_ok n hn]; rfl

/-! ## zzLines of one line, SurroundingSpaces of a text that neither begins nor ends with white space -/
def linesS (L : List Txt) : Sum := fun args σ => match args with
  | .bsl l t0 :: [] => match textAt σ l with
    | some t => cond (memT t L && t.beq t0) (some (.slice σ.next 0 1 1, (newOb σ (.row 47 [.bsl l t0] .spare)).2)) none
    | none => none
  | _ => none

theorem linesS_ok {V : VP} {s : Atoms} (hV : V.Ok Tryz.prog s) {L : List Txt} (hsz : ∀ i, V.ty.get 47 = some i → i.size = 1)
    (h : ∀ t, t ∈ L → den s t ≠ [] ∧ (den s t).length ≤ 300 ∧ ∀ (i : Nat) (h : i < (den s t).length), (den s t)[i].toNat ≠ 10) : SumOk V Tryz.prog s 328 (linesS L) := by
  intro base w0 ρ σ w args av v σ' hw ha hc
  unfold linesS at hc
  split at hc
  case h_2 => cases hc
  rename_i l t0
  split at hc
  case h_2 => cases hc
  rename_i t ht
  cases hm : (memT t L && t.beq t0) with
  | false => rw [hm] at hc; cases hc
  | true =>
    rw [hm] at hc; cases hc
    simp only [Bool.and_eq_true] at hm
    have := Txt.beq_eq hm.2; subst this
    obtain ⟨hne, h1, h2⟩ := h t (memT_mem hm.1)
    obtain ⟨x, rfl, hx⟩ := args1 ha
    have hat := textAt_ok hw ht hx
    obtain ⟨A, c, rfl, hC, hc⟩ := bytesAt_C hat (by omega)
    refine (lines_calls w A c (den s t) hC hc hne h1 h2).mono ?_
    rintro e w' ⟨g, cap, cur, rfl, hg, hh, hcap, hsz2, hcur, hb⟩
    have hw' := hw.world hb
    have hgl : g < w'.heap.size := (Array.getElem?_eq_some_iff.1 hh).1
    have hcl : cur.toList = [.slice A (bytesI (den s t)).length c] ++ cur.toList.drop 1 := by
      cases hd : cur.toList with
      | nil => rw [← Array.getElem?_toList, hd] at hcur; simp at hcur
      | cons a r => rw [← Array.getElem?_toList, hd] at hcur; simp at hcur; simp [hcur]
    have hcl2 : cur = #[.slice A (bytesI (den s t)).length c] ++ (cur.toList.drop 1).toArray := by
      apply Array.ext'
      rw [Array.toList_append]; exact hcl
    have ho : ROb V s (ρ ++ [.row g cap]) (.row 47 [.bsl l t] .spare) (.row g cap) w' := by
      refine ⟨g, cap, #[.slice A (bytesI (den s t)).length c], (cur.toList.drop 1).toArray, (0, 0), rfl, by rw [← hcl2]; exact hh, ⟨_, _, rfl, hx.ext _, rfl⟩, fun h => by (cases h), rfl, fun i hi => ?_⟩
      rw [← hcl2, hsz i hi, Nat.mul_one, hsz2]; exact Nat.le_refl _
    refine ⟨_, ρ ++ [.row g cap], rfl, List.prefix_append _ _, hw'.adopt ho (fun b hb => ?_) (fun l' o' bd' b hl hbd hbb hgb => ?_), ?_⟩
    · have : g = b := by simpa [Bind.block] using hb
      subst this
      exact ⟨Nat.le_trans hw.base_le hg, hgl⟩
    · have : g = b := by simpa [Bind.block] using hgb
      subst this
      have := (hw.low l' o' bd' g hl hbd hbb).2
      omega
    · exact ⟨g, cap, by rw [← hw.len]; simp, hcap, by simp⟩

def surrS (L : List Txt) : Sum := fun args σ => match args with
  | .bsl l t0 :: [] => match textAt σ l with
    | some t => cond (memT t L) (some (.tuple [.bsl σ.next [], .bsl l t0, .bsl (σ.next + 1) []], { heap := σ.heap, next := σ.next + 1 + 1 })) none
    | none => none
  | _ => none

theorem surrS_ok {V : VP} {s : Atoms} {L : List Txt}
    (h : ∀ t, t ∈ L → den s t ≠ [] ∧ (den s t).length ≤ 300 ∧ ∀ (i : Nat) (h : i < (den s t).length), NoSpace (den s t)[i].toNat) : SumOk V Tryz.prog s 310 (surrS L) := by
  intro base w0 ρ σ w args av v σ' hw ha hc
  unfold surrS at hc
  split at hc
  case h_2 => cases hc
  rename_i l t0
  split at hc
  case h_2 => cases hc
  rename_i t ht
  cases hm : memT t L with
  | false => rw [hm] at hc; cases hc
  | true =>
    rw [hm] at hc; cases hc
    obtain ⟨hne, h1, h2⟩ := h t (memT_mem hm)
    obtain ⟨x, rfl, hx⟩ := args1 ha
    have hat := textAt_ok hw ht hx
    obtain ⟨A, c, rfl, hC, hc⟩ := bytesAt_C hat (by omega)
    refine (surr_calls w A c (den s t) hC hc hne h1 h2).mono ?_
    rintro e w' ⟨A1, c1, A3, c3, rfl, hb⟩
    have hw1 := ((hw.world hb).skip (.val (.slice A1 0 c1))).skip (.val (.slice A3 0 c3))
    have hl := hw.len
    refine ⟨_, _, rfl, ⟨[.val (.slice A1 0 c1), .val (.slice A3 0 c3)], by simp⟩, hw1, #[_, _, _], rfl, _, _, rfl, ⟨?_, _, _, _, rfl, rfl⟩, _, _, rfl, (hx.ext _).ext _, _, _, rfl, ⟨?_, _, _, _, rfl, rfl⟩, rfl⟩
    · rw [← hl]; simp
    · rw [← hl]; simp
end Vx
