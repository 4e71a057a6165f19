/- The law laws.FnInlineNames returns true, whatever bytes the tables of white space hold. Conditions: the tables are tables of bytes, as the row says of each first world. -/
import Derived.Test.YtonagpnnfhilgaaGreatS7a
import Derived.Test.YtonagpnnfhilgaaGreatS7b
import Derived.Test.YtonagpnnfhilgaaGreatS7c
import Derived.Test.YtonagpnnfhilgaaGreatS7d
namespace Go.Proofs.YtonagpnnfhilgaaGreat.Hand
open Go.RowKit Go.Proofs.YtonagpnnfhilgaaGreatW.PrintWords Go.Proofs.YtonagpnnfhilgaaGreatW.PrintLast Go.Proofs.YtonagpnnfhilgaaGreatW.PrintMore
attribute [local go_sem] max2_int min2_int max_two min_two max_three min_three max_four min_four
set_option linter.unusedVariables false
set_option linter.unusedSimpArgs false

set_option maxHeartbeats 8000000 in
set_option maxRecDepth 100000 in
/-- Texts beyond the bound are not looked at. -/
theorem law_big (a b : ByteArray) (w : World) (h : ¬ (a.size ≤ 2147483647 ∧ b.size ≤ 2147483647)) : Calls Tryz.prog 3 #[.string a, .string b] w fun e w' => e = .returned (.bool true) ∧ w' = w := by
  by_cases ha : a.size ≤ 2147483647
  · have hb : ¬ (b.size ≤ 2147483647) := fun hb => h ⟨ha, hb⟩
    have d1 : decide ((a.size : Int) > 2147483647) = false := decide_eq_false (by omega)
    have d2 : decide ((b.size : Int) > 2147483647) = true := decide_eq_true (by omega)
    clear h ha hb
    go_enter Tryz.func3, Tryz.ntmps3
    go_wp2
    go_ret
    exact ⟨rfl, rfl⟩
  · have d1 : decide ((a.size : Int) > 2147483647) = true := decide_eq_true (by omega)
    clear h ha
    go_enter Tryz.func3, Tryz.ntmps3
    go_wp2
    go_ret
    exact ⟨rfl, rfl⟩

theorem law_small (a b : ByteArray) (ha : a.size ≤ 2147483647) (hb : b.size ≤ 2147483647) (tab0 tab5 : Nat → Int) (w : World) (hT : (Vx.atomsN a b tab0 tab5).tied w.heap.size w) :
    Calls Tryz.prog 3 #[.string a, .string b] w fun e w' => e = .returned (.bool true) ∧ Below w.heap.size w w' := by
  by_cases h7 : (Vx.atomsN a b tab0 tab5).txt 7 = [] <;> by_cases h8 : (Vx.atomsN a b tab0 tab5).txt 8 = []
  · exact Vx.law_of_run a b tab0 tab5 ha hb (e7 := true) (e8 := true) (by simp [h7]) (by simp [h8]) Vx.runTT w hT
  · exact Vx.law_of_run a b tab0 tab5 ha hb (e7 := true) (e8 := false) (by simp [h7]) (by simp [h8]) Vx.runTF w hT
  · exact Vx.law_of_run a b tab0 tab5 ha hb (e7 := false) (e8 := true) (by simp [h7]) (by simp [h8]) Vx.runFT w hT
  · exact Vx.law_of_run a b tab0 tab5 ha hb (e7 := false) (e8 := false) (by simp [h7]) (by simp [h8]) Vx.runFF w hT

theorem law_calls (a b : ByteArray) (tab0 tab5 : Nat → Int) (w : World) (hT : (Vx.atomsN a b tab0 tab5).tied w.heap.size w) :
    Calls Tryz.prog 3 #[.string a, .string b] w fun e w' => e = .returned (.bool true) ∧ Below w.heap.size w w' := by
  by_cases h : a.size ≤ 2147483647 ∧ b.size ≤ 2147483647
  · exact law_small a b h.1 h.2 tab0 tab5 w hT
  · refine (law_big a b w h).mono ?_
    rintro e w' ⟨rfl, rfl⟩
    exact ⟨rfl, Below.refl _ _⟩

/-! ## The tables of white space: whatever bytes they hold -/
theorem cells_u8 {P : Program} {w : World} {g n : Nat} {t u : TypeId} (h : w.ShapedOpen P) (hg : g < P.globals.size) (h0 : ((begin P (fun _ _ => 0) default).world.heap[g]?.bind Obj.row?).map (fun x => (x.1.size, x.2)) = some (n, t))
    (hb : P.buildable t = true) (hc : P.cellTypes P.depth t = some (List.replicate n u)) (hu : P.underlying u = some (.int .u8)) (c : Nat) (hcn : c < n) : ∃ m, w.cell? ⟨g, c, none⟩ = some (.int .u8 m) := by
  obtain ⟨⟨zero, t'⟩, h1, h2⟩ := Option.map_eq_some_iff.1 h0
  simp only [Prod.mk.injEq] at h2
  obtain ⟨hz, rfl⟩ := h2
  obtain ⟨cs, hh, hs, hr⟩ := h.1 g zero t' hg h1
  obtain ⟨ts, hts, _, hall⟩ := hr hb
  rw [hc] at hts
  cases hts
  have hlt : c < cs.size := by omega
  obtain ⟨v, hv', hok⟩ := hall c cs[c] (by simp [hlt])
  have : v = u := by
    rw [List.getElem?_replicate] at hv'
    split at hv'
    · exact (Option.some.inj hv').symm
    · cases hv'
  subst this
  have hcell : w.cell? ⟨g, c, none⟩ = some cs[c] := by simp [World.cell?, hh, hlt]
  rw [hcell]
  unfold Cell.ok at hok
  rw [hu] at hok
  cases hv : cs[c] <;> rw [hv] at hok <;> simp at hok
  case int k' n => exact ⟨n, by rw [hok.1]⟩

theorem table_of {w : World} {g : Nat} (h : ∀ c, c < 256 → ∃ m, w.cell? ⟨g, c, none⟩ = some (.int .u8 m)) : ∃ tab : Nat → Int, ∀ c : Nat, c < 128 → w.cell? ⟨g, c, none⟩ = some (.int .u8 (tab c)) := by
  classical
  refine ⟨fun c => if hc : ∃ m, w.cell? ⟨g, c, none⟩ = some (.int .u8 m) then Classical.choose hc else 0, fun c hc => ?_⟩
  have hm := h c (by omega)
  simp only [dif_pos hm]
  exact Classical.choose_spec hm
end Go.Proofs.YtonagpnnfhilgaaGreat.Hand

namespace Go.Proofs.YtonagpnnfhilgaaGreat.Hand
open Go.RowKit
set_option maxRecDepth 1000000

theorem globals13 : Tryz.prog.globals.size = 13 := by kernel_rfl
theorem row0 : ((begin Tryz.prog (fun _ _ => 0) default).world.heap[0]?.bind Obj.row?).map (fun x => (x.1.size, x.2)) = some (256, 287) := by kernel_rfl
theorem row5 : ((begin Tryz.prog (fun _ _ => 0) default).world.heap[5]?.bind Obj.row?).map (fun x => (x.1.size, x.2)) = some (256, 287) := by kernel_rfl
theorem build287 : Tryz.prog.buildable 287 = true := by kernel_rfl
theorem cells287 : Tryz.prog.cellTypes Tryz.prog.depth 287 = some (List.replicate 256 5) := by kernel_rfl

/-- The two tables of white space, whatever they hold, at the row's first world. -/
theorem tables_any (w : World) (h : w.ShapedOpen Tryz.prog) (a b : ByteArray) : ∃ tab0 tab5, (Vx.atomsN a b tab0 tab5).tied w.heap.size w := by
  have hg := globals13
  obtain ⟨tab0, h0⟩ := table_of (w := w) (g := 0) (fun c hc => cells_u8 h (by omega) row0 build287 cells287 Tryz.underlying5 c hc)
  obtain ⟨tab5, h5⟩ := table_of (w := w) (g := 5) (fun c hc => cells_u8 h (by omega) row5 build287 cells287 Tryz.underlying5 c hc)
  refine ⟨tab0, tab5, ?_, h0, h5⟩
  have hc := h5 0 (by decide)
  have : 5 < w.heap.size := by
    rcases Nat.lt_or_ge 5 w.heap.size with h' | h'
    · exact h'
    · simp [World.cell?, Array.getElem?_eq_none h'] at hc
  exact this
end Go.Proofs.YtonagpnnfhilgaaGreat.Hand
