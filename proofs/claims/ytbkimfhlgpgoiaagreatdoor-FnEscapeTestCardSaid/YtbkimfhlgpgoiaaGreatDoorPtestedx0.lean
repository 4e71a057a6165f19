-- PRINTED BY print.sh 35421559b90ae4d0a3588c463048766b98c2df88dd9212a6774a882060cdf62d: not written by this session
import Derived.Test.YtbkimfhlgpgoiaaGreatDoorProg
import Derived.Below
import Derived.Deep.Draws
import Derived.Deep.AppendLies
import Derived.Maps.AppendAt
import Derived.OwnWalk
import Derived.Laws.BytesArg
import Derived.Laws.MakeOwn
import Derived.Laws.OwnMore
import Derived.Deep.OwnRows
import Derived.Tactics
import Derived.Lib.ConvBytes
import Derived.Laws.Slices
import Derived.WalkKit
import Derived.KernelRfl
import Derived.RowKit3
import Derived.Deep.LoopGhost
import Derived.Deep.QuietTactic
import Derived.BigQuiet
import Derived.WideLaws
import Derived.Deep.DeepCutAuto
import Derived.Deep.CutBlock
import Derived.Deep.RegionHeld3
import Derived.Laws.Rows
import Derived.Lib.AppendStr
import Derived.ArgAppend
import Derived.Laws.IdiomCopy
import Derived.OrdersHeld
import Derived.Laws.BitsLemmas
import Derived.RowKit
import Derived.Test.YtbkimfhlgpgoiaaGreatDoorWWords
import Derived.Test.YtbkimfhlgpgoiaaGreatDoorWLast
import Derived.Test.YtbkimfhlgpgoiaaGreatDoorWTab
import Derived.Test.YtbkimfhlgpgoiaaGreatDoorWFour
import Derived.Test.YtbkimfhlgpgoiaaGreatDoorWQPut
import Derived.Test.YtbkimfhlgpgoiaaGreatDoorWApart
import Derived.Test.YtbkimfhlgpgoiaaGreatDoorWArr
import Derived.Test.YtbkimfhlgpgoiaaGreatDoorWZeros
import Derived.Test.YtbkimfhlgpgoiaaGreatDoorWFoot
import Derived.Test.YtbkimfhlgpgoiaaGreatDoorWKept
import Derived.Test.YtbkimfhlgpgoiaaGreatDoorWShare
import Derived.Test.YtbkimfhlgpgoiaaGreatDoorWN
import Derived.Test.YtbkimfhlgpgoiaaGreatDoorWFootNe
import Derived.Test.YtbkimfhlgpgoiaaGreatDoorWAt
import Derived.Test.YtbkimfhlgpgoiaaGreatDoorWEqStruct
import Derived.Test.YtbkimfhlgpgoiaaGreatDoorWRepsOne
import Derived.Test.YtbkimfhlgpgoiaaGreatDoorWInv
import Derived.Test.YtbkimfhlgpgoiaaGreatDoorWInvWords
import Derived.Test.YtbkimfhlgpgoiaaGreatDoorWGuard
import Derived.Test.YtbkimfhlgpgoiaaGreatDoorWNEv
import Derived.Test.YtbkimfhlgpgoiaaGreatDoorWMore
namespace Go.Proofs.YtbkimfhlgpgoiaaGreatDoor.Ptested
open Go.RowKit Go.Proofs.YtbkimfhlgpgoiaaGreatDoorW.PrintWords Go.Proofs.YtbkimfhlgpgoiaaGreatDoorW.PrintLast Go.Proofs.YtbkimfhlgpgoiaaGreatDoorW.PrintMore
attribute [local go_sem] max2_int min2_int max_two min_two max_three min_three max_four min_four   -- for this text's walks alone
set_option linter.unusedVariables false
set_option linter.unusedSimpArgs false



def errW : Option Int → Value
  | none => .nilIface
  | some c => .iface 0 (.int .i64 c)
theorem errW_none : errW none = .nilIface := rfl
theorem errW_some (c : Int) : errW (some c) = .iface 0 (.int .i64 c) := rfl

-- the values' own types
/-! #### struct type 183 -/
structure S183 where
  f0 : Int
  f1 : Int
  f2 : Int
def z183 : S183 := ⟨(0 : Int), (0 : Int), (0 : Int)⟩
def k183 : Kd S183 := Kd.iso (Kd.pair (Kd.int .u16) (Kd.pair (Kd.int .u16) (Kd.int .u16))) (fun x : S183 => (x.f0, x.f1, x.f2))
theorem k183_open {w : World} {x : S183} {cs : List Value} (h : k183.K w x cs) : cs = [.int .u16 x.f0, .int .u16 x.f1, .int .u16 x.f2] := by
  obtain ⟨_, _, rfl, rfl, ⟨_, _, rfl, rfl, rfl⟩⟩ := h
  exact rfl
theorem k183_openM {w : World} {base : Nat} {ok : Nat → Prop} {x : S183} {cs : List Value} (h : k183.M w base ok x cs) : cs = [.int .u16 x.f0, .int .u16 x.f1, .int .u16 x.f2] := by
  obtain ⟨_, _, rfl, rfl, ⟨_, _, rfl, rfl, rfl⟩⟩ := h
  exact rfl
theorem k183_mk (w : World) (x : S183)  : k183.K w x [.int .u16 x.f0, .int .u16 x.f1, .int .u16 x.f2] := ⟨[.int .u16 x.f0], [.int .u16 x.f1, .int .u16 x.f2], rfl, rfl, ⟨[.int .u16 x.f1], [.int .u16 x.f2], rfl, rfl, rfl⟩⟩
theorem k183_mkM (w : World) (base : Nat) (ok : Nat → Prop) (x : S183)  : k183.M w base ok x [.int .u16 x.f0, .int .u16 x.f1, .int .u16 x.f2] := ⟨[.int .u16 x.f0], [.int .u16 x.f1, .int .u16 x.f2], rfl, rfl, ⟨[.int .u16 x.f1], [.int .u16 x.f2], rfl, rfl, rfl⟩⟩
def rd_T183 (xs : List S183) (i : Int) : S183 := xs.getD i.toNat z183
theorem at_T183 {w : World} {A : Option Addr} {n : Nat} {xs : List S183} (h : Kd.C k183 w A n xs) (i : Int) (h0 : 0 ≤ i) (h1 : i < n) : ∃ ad , A = some ad ∧ w.cell? (ad.add (i.toNat * 3)) = some (.int .u16 (rd_T183 xs i).f0) ∧ w.cell? ⟨(ad.add (i.toNat * 3)).block, (ad.add (i.toNat * 3)).off + 1, none⟩ = some (.int .u16 (rd_T183 xs i).f1) ∧ w.cell? ⟨(ad.add (i.toNat * 3)).block, (ad.add (i.toNat * 3)).off + 2, none⟩ = some (.int .u16 (rd_T183 xs i).f2) := by
  obtain ⟨ad, c, e, _, hK, hc0⟩ := Kd.C_get h z183 i h0 h1
  have hc : ∀ j u, c[j]? = some u → w.cell? (ad.add (i.toNat * 3 + j)) = some u := hc0
  obtain rfl := k183_open hK
  exact ⟨ad, e, hc 0 _ rfl, by rw [← add_field _ _ 1 (by omega)]; exact hc 1 _ rfl, by rw [← add_field _ _ 2 (by omega)]; exact hc 2 _ rfl⟩

/-! #### struct type 186 -/
structure S186 where
  f0 : Int
  f1 : Int
  f2 : Int
def z186 : S186 := ⟨(0 : Int), (0 : Int), (0 : Int)⟩
def k186 : Kd S186 := Kd.iso (Kd.pair (Kd.int .u32) (Kd.pair (Kd.int .u32) (Kd.int .u32))) (fun x : S186 => (x.f0, x.f1, x.f2))
theorem k186_open {w : World} {x : S186} {cs : List Value} (h : k186.K w x cs) : cs = [.int .u32 x.f0, .int .u32 x.f1, .int .u32 x.f2] := by
  obtain ⟨_, _, rfl, rfl, ⟨_, _, rfl, rfl, rfl⟩⟩ := h
  exact rfl
theorem k186_openM {w : World} {base : Nat} {ok : Nat → Prop} {x : S186} {cs : List Value} (h : k186.M w base ok x cs) : cs = [.int .u32 x.f0, .int .u32 x.f1, .int .u32 x.f2] := by
  obtain ⟨_, _, rfl, rfl, ⟨_, _, rfl, rfl, rfl⟩⟩ := h
  exact rfl
theorem k186_mk (w : World) (x : S186)  : k186.K w x [.int .u32 x.f0, .int .u32 x.f1, .int .u32 x.f2] := ⟨[.int .u32 x.f0], [.int .u32 x.f1, .int .u32 x.f2], rfl, rfl, ⟨[.int .u32 x.f1], [.int .u32 x.f2], rfl, rfl, rfl⟩⟩
theorem k186_mkM (w : World) (base : Nat) (ok : Nat → Prop) (x : S186)  : k186.M w base ok x [.int .u32 x.f0, .int .u32 x.f1, .int .u32 x.f2] := ⟨[.int .u32 x.f0], [.int .u32 x.f1, .int .u32 x.f2], rfl, rfl, ⟨[.int .u32 x.f1], [.int .u32 x.f2], rfl, rfl, rfl⟩⟩
def rd_T186 (xs : List S186) (i : Int) : S186 := xs.getD i.toNat z186
theorem at_T186 {w : World} {A : Option Addr} {n : Nat} {xs : List S186} (h : Kd.C k186 w A n xs) (i : Int) (h0 : 0 ≤ i) (h1 : i < n) : ∃ ad , A = some ad ∧ w.cell? (ad.add (i.toNat * 3)) = some (.int .u32 (rd_T186 xs i).f0) ∧ w.cell? ⟨(ad.add (i.toNat * 3)).block, (ad.add (i.toNat * 3)).off + 1, none⟩ = some (.int .u32 (rd_T186 xs i).f1) ∧ w.cell? ⟨(ad.add (i.toNat * 3)).block, (ad.add (i.toNat * 3)).off + 2, none⟩ = some (.int .u32 (rd_T186 xs i).f2) := by
  obtain ⟨ad, c, e, _, hK, hc0⟩ := Kd.C_get h z186 i h0 h1
  have hc : ∀ j u, c[j]? = some u → w.cell? (ad.add (i.toNat * 3 + j)) = some u := hc0
  obtain rfl := k186_open hK
  exact ⟨ad, e, hc 0 _ rfl, by rw [← add_field _ _ 1 (by omega)]; exact hc 1 _ rfl, by rw [← add_field _ _ 2 (by omega)]; exact hc 2 _ rfl⟩

end Go.Proofs.YtbkimfhlgpgoiaaGreatDoor.Ptested
