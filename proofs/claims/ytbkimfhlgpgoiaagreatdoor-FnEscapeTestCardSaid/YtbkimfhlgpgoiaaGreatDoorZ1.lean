/- The converter with base and commonmark, and inlineLives, by the executor in the kernel. Conditions: the guard and Quoted keep their contracts. -/
import Derived.Test.YtbkimfhlgpgoiaaGreatDoorVxZ
import Derived.Test.YtbkimfhlgpgoiaaGreatDoorProg
import Derived.KernelRfl
namespace Vx
open Go Go.Proofs Go.RowKit
set_option maxRecDepth 1000000

def quotedS : CallF := fun f args σ => cond (Nat.beq f 22) (match args with
  | .str (.lit (97 :: []) :: []) :: [] => some (.str [.lit [34, 97, 34]], σ)
  | _ => none) none

noncomputable def V1 : VP := { ty := Tr.full (tyOf Tryz.prog) 10 1 0, fn := Tr.full (fun f => Tryz.prog.funcs[f]?) 10 1 0, facts := { nonempty := [], amax := 0, differ := [] }, sums := quotedS, exts := noCall, guard := 23, gty := 4 }

theorem names : Tryz.prog.funcs.toList.all (fun g => !(g.name == "runtime.NumGoroutine")) = true := by kernel_rfl

theorem V1_ok : V1.Ok Tryz.prog (fun _ => []) :=
  { ty := fun t i h => by
      have := Tr.get_full (tyOf Tryz.prog) 10 1 0 t i h
      simpa using this
    fn := fun f g h => by
      have := Tr.get_full (fun f => Tryz.prog.funcs[f]?) 10 1 0 f g h
      simp only [Nat.one_mul, Nat.add_zero] at this
      refine ⟨this, ?_⟩
      have hm : g ∈ Tryz.prog.funcs.toList := Array.mem_toList_iff.2 (Array.mem_of_getElem? this)
      have := List.all_eq_true.1 names g hm
      simpa using this
    facts := ⟨fun i h => (by cases h), fun i => Nat.le_refl 0, fun a b h => (by cases h)⟩ }

theorem mixed : Tryz.prog.follows .mixedOrders = true := by kernel_rfl

def σ0 : St := { heap := .nil, next := 0 }

theorem rw0 (w : World) : RW V1 (fun _ => []) w.heap.size w [] σ0 w :=
  { len := rfl
    ob := fun l o h => by simp [σ0, Tr.get] at h
    low := fun l o bd b h => by simp [σ0, Tr.get] at h
    apart := fun l l' o o' bd bd' b _ h => by simp [σ0, Tr.get] at h
    below := Below.refl _ _
    base_le := Nat.le_refl _ }

theorem exts_ok : ExtsOk V1 Tryz.prog (fun _ => []) := fun _ _ _ _ _ _ _ _ _ _ _ _ h => by cases h

/-- 'disabled' -/
def disabledB : List UInt8 := [100, 105, 115, 97, 98, 108, 101, 100]

def keyI : LV × LV → Bool
  | (.int .i32 _, _) => true
  | _ => false

def ok18 : Option (LV × St) → Bool
  | some (.ptr l 0, σ) => match σ.heap.get l with
    | some (.row _ cs _) => match nthV cs 9, nthV cs 6 with
      | some (.str t), some (.map m) => (match t.lit? with
          | some b => !beqBytes b disabledB
          | none => false) && (match σ.heap.get m with
          | some (.map es) => allL keyI es
          | _ => false)
      | _, _ => false
    | _ => false
  | _ => false

theorem run18 : ok18 (callL V1 (fun C => execL V1 C 100000) 40 18 [] σ0) = true := by kernel_rfl

noncomputable def ok89 : Bool := match V1.ty.get 89 with
  | some j => match j.und with
    | .map kt e => (match V1.ty.get kt with
      | some kd => (match kd.und with
        | .int .i32 => true
        | _ => false)
      | none => false) && (match V1.ty.get e with
      | some _ => true
      | none => false)
    | _ => false
  | none => false

theorem run89 : ok89 = true := by kernel_rfl

theorem find_some {k : Int} : ∀ {es : List (LV × LV)}, allL keyI es = true → ∃ r, findE V1 (.int .i32) (.int .i32 k) es = some r
  | [], _ => ⟨none, rfl⟩
  | (a, v) :: es, h => by
    simp only [allL, Bool.and_eq_true] at h
    obtain ⟨h1, h2⟩ := h
    obtain ⟨r, hr⟩ := find_some (k := k) h2
    unfold keyI at h1
    split at h1
    · rename_i n _ e
      cases e
      simp only [findE, keyEq, kindBeq, cond_true]
      cases k == n with
      | true => exact ⟨_, rfl⟩
      | false => exact ⟨r, hr⟩
    · cases h1

theorem nth_get : ∀ {cs : List LV} {i : Nat} {v : LV}, nthV cs i = some v → cs[i]? = some v
  | [], _, _, h => by cases h
  | _ :: _, 0, _, h => by simpa [nthV] using h
  | _ :: r, i + 1, _, h => by simpa using nth_get (cs := r) (i := i) h

/-- A converter: its mode is not 'disabled'; its map of marks answers. -/
def Conv (w : World) (pb : Nat) : Prop := ∀ w1, Below w.heap.size w w1 →
  (∃ m : ByteArray, w1.cell? ⟨pb, 9, none⟩ = some (.string m) ∧ m.data.toList ≠ disabledB) ∧
  ∃ mb, w1.cell? ⟨pb, 6, none⟩ = some (.map (some mb)) ∧ ∀ r : Int, ∃ v b, (Instr.lookup 89 (.map (some mb)) (.int .i32 r) true).run Tryz.prog w1 = .ok (.tuple #[v, .bool b]) w1

theorem plain_calls (hG : GuardOk Tryz.prog 23 4) (hS : CallsOk V1 Tryz.prog (fun _ => []) quotedS) (w : World) : Calls Tryz.prog 18 #[] w fun e w' => ∃ pb, e = .returned (.pointer (some ⟨pb, 0, none⟩)) ∧ Below w.heap.size w w' ∧ Conv w' pb := by
  have hrun := run18
  generalize hc : callL V1 (fun C => execL V1 C 100000) 40 18 [] σ0 = res at hrun
  unfold ok18 at hrun
  split at hrun
  case h_2 => cases hrun
  rename_i l σ
  split at hrun
  case h_2 => cases hrun
  rename_i e cs k hl
  split at hrun
  case h_2 => cases hrun
  rename_i t m h9 h6
  simp only [Bool.and_eq_true] at hrun
  obtain ⟨g1, g2⟩ := hrun
  split at g1
  case h_2 => cases g1
  rename_i b hb
  split at g2
  case h_2 => cases g2
  rename_i es hm
  have hE : ∀ C, CallsOk V1 Tryz.prog (fun _ => []) C → RunOk V1 Tryz.prog (fun _ => []) (execL V1 C 100000) := fun C hC => exec_ok V1_ok exts_ok mixed hC 100000
  have hcall := call_ok V1_ok exts_ok hE hS hG 40 w.heap.size w [] σ0 w 18 [] #[] (.ptr l 0) σ (rw0 w) rfl hc
  refine hcall.mono ?_
  rintro e' w' ⟨x, ρ', rfl, _, hw, ⟨pb, K, hρ, rfl⟩⟩
  refine ⟨pb, rfl, hw.below, fun w1 hb1 => ?_⟩
  have hw1 := hw.world hb1
  obtain ⟨a, sp, fr, q1, q2, _⟩ := row_of hw1 hl hρ
  have cell : ∀ i v, nthV cs i = some v → ∃ x, w1.cell? ⟨pb, i, none⟩ = some x ∧ RV (fun _ => []) ρ' v x := by
    intro i v hi
    obtain ⟨x, e1, e2⟩ := rvs_get q2 i v (nth_get hi)
    refine ⟨x, ?_, e2⟩
    rw [row_cell q1]
    rw [Array.getElem?_toList] at e1
    rw [Array.getElem?_append_left (Array.getElem?_eq_some_iff.1 e1).1]
    exact e1
  constructor
  · obtain ⟨x, e1, bs, rfl, e3⟩ := cell 9 _ h9
    refine ⟨bs, e1, ?_⟩
    rw [e3, den_lit hb]
    have : beqBytes b disabledB = false := by simpa using g1
    exact beqBytes_ne this
  · obtain ⟨x, e1, mb, K2, hmb, rfl⟩ := cell 6 _ h6
    refine ⟨mb, e1, fun r => ?_⟩
    have h89 := run89
    unfold ok89 at h89
    split at h89
    case h_2 => cases h89
    rename_i j hj
    split at h89
    case h_2 => cases h89
    rename_i kt et he
    simp only [Bool.and_eq_true] at h89
    obtain ⟨p1, p2⟩ := h89
    split at p1
    case h_2 => cases p1
    rename_i kd hkd
    split at p1
    case h_2 => cases p1
    rename_i hku
    split at p2
    case h_2 => cases p2
    rename_i ei hei
    obtain ⟨res, hres⟩ := find_some (k := r) g2
    have hread : mapRead V1 σ kd.und (.map m) (.int .i32 r) = some res := by
      simp only [mapRead, hm, hku]; exact hres
    obtain ⟨v, l1, l2⟩ := lookup_ok V1_ok hw1 (x := .map m) (k := .int .i32 r) (a := .map (some mb)) (b := .int .i32 r) hj he hkd hei ⟨mb, K2, hmb, rfl⟩ rfl (by rw [hku]; rfl) hread true
    cases res with
    | none =>
      obtain ⟨arr, rfl, z, zs, ez, _, z1, zs1, ez1, hb2, hnil⟩ := l2
      simp only [RV] at hb2
      have hn : zs1 = [] := hnil
      subst hn ez1 hb2
      have : arr = #[z, .bool false] := by apply Array.ext'; simpa using ez
      subst this
      exact ⟨z, false, l1⟩
    | some lv =>
      obtain ⟨arr, rfl, z, zs, ez, _, z1, zs1, ez1, hb2, hnil⟩ := l2
      simp only [RV] at hb2
      have hn : zs1 = [] := hnil
      subst hn ez1 hb2
      have : arr = #[z, .bool true] := by apply Array.ext'; simpa using ez
      subst this
      exact ⟨z, true, l1⟩

def ok10 : Option (LV × St) → Bool
  | some (.bool true, _) => true
  | _ => false

theorem run10 : ok10 (callL V1 (fun C => execL V1 C 100000) 30 10 [] σ0) = true := by kernel_rfl

theorem lives_calls (hG : GuardOk Tryz.prog 23 4) (hS : CallsOk V1 Tryz.prog (fun _ => []) quotedS) (w : World) : Calls Tryz.prog 10 #[] w fun e w' => e = .returned (.bool true) ∧ Below w.heap.size w w' := by
  have hrun := run10
  generalize hc : callL V1 (fun C => execL V1 C 100000) 30 10 [] σ0 = res at hrun
  unfold ok10 at hrun
  split at hrun
  case h_2 => cases hrun
  rename_i σ
  have hE : ∀ C, CallsOk V1 Tryz.prog (fun _ => []) C → RunOk V1 Tryz.prog (fun _ => []) (execL V1 C 100000) := fun C hC => exec_ok V1_ok exts_ok mixed hC 100000
  have hcall := call_ok V1_ok exts_ok hE hS hG 30 w.heap.size w [] σ0 w 10 [] #[] (.bool true) σ (rw0 w) rfl hc
  refine hcall.mono ?_
  rintro e' w' ⟨x, ρ', rfl, _, hw, hx⟩
  simp only [RV] at hx
  subst hx
  exact ⟨rfl, hw.below⟩

/-- The text "a" in quotes, by the function's own contract. -/
theorem quoted_ok (h : ∀ w : World, Calls Tryz.prog 22 #[.string ⟨#[97]⟩] w fun e w' => e = .returned (.string ⟨#[34, 97, 34]⟩) ∧ Below w.heap.size w w') : CallsOk V1 Tryz.prog (fun _ => []) quotedS := by
  intro base w0 ρ σ w f args xs v σ' hw ha hc
  unfold quotedS at hc
  cases hb : Nat.beq f 22 with
  | false => rw [hb] at hc; cases hc
  | true =>
    rw [hb] at hc
    simp only [cond_true] at hc
    split at hc
    case h_2 => cases hc
    cases hc
    have := Nat.eq_of_beq_eq_true hb; subst this
    obtain ⟨x, e, hx⟩ := one_of ha
    obtain ⟨bs, rfl, hbs⟩ := hx
    have eb : bs = ⟨#[97]⟩ := by
      obtain ⟨d⟩ := bs
      congr 1
      apply Array.ext'
      simpa [den] using hbs
    subst eb
    have ea : xs = #[.string ⟨#[97]⟩] := by apply Array.ext'; simpa using e
    subst ea
    refine (h w).mono ?_
    rintro e' w' ⟨rfl, hb2⟩
    exact ⟨_, ρ, rfl, List.prefix_refl _, hw.world hb2, _, rfl, rfl⟩
end Vx
