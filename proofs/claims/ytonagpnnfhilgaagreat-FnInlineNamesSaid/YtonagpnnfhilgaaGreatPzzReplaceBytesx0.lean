-- PRINTED BY print.sh 35421559b90ae4d0a3588c463048766b98c2df88dd9212a6774a882060cdf62d: not written by this session
import Derived.Test.YtonagpnnfhilgaaGreatProg
import Derived.Below
import Derived.Deep.Draws
import Derived.Deep.AppendLies
import Derived.Maps.AppendAt
import Derived.OwnWalk
import Derived.Laws.BytesArg
import Derived.Laws.MakeOwn
import Derived.Laws.OwnMore
import Derived.Deep.OwnRows
import Derived.Tactics
import Derived.Lib.ConvBytes
import Derived.Laws.Slices
import Derived.WalkKit
import Derived.KernelRfl
import Derived.RowKit3
import Derived.Deep.LoopGhost
import Derived.Deep.QuietTactic
import Derived.BigQuiet
import Derived.WideLaws
import Derived.Deep.DeepCutAuto
import Derived.Deep.CutBlock
import Derived.Deep.RegionHeld3
import Derived.Laws.Rows
import Derived.Lib.AppendStr
import Derived.ArgAppend
import Derived.Laws.IdiomCopy
import Derived.OrdersHeld
import Derived.Laws.BitsLemmas
import Derived.RowKit
import Derived.Test.YtonagpnnfhilgaaGreatWWords
import Derived.Test.YtonagpnnfhilgaaGreatWLast
import Derived.Test.YtonagpnnfhilgaaGreatWTab
import Derived.Test.YtonagpnnfhilgaaGreatWFour
import Derived.Test.YtonagpnnfhilgaaGreatWQPut
import Derived.Test.YtonagpnnfhilgaaGreatWApart
import Derived.Test.YtonagpnnfhilgaaGreatWArr
import Derived.Test.YtonagpnnfhilgaaGreatWZeros
import Derived.Test.YtonagpnnfhilgaaGreatWFoot
import Derived.Test.YtonagpnnfhilgaaGreatWKept
import Derived.Test.YtonagpnnfhilgaaGreatWShare
import Derived.Test.YtonagpnnfhilgaaGreatWN
import Derived.Test.YtonagpnnfhilgaaGreatWFootNe
import Derived.Test.YtonagpnnfhilgaaGreatWAt
import Derived.Test.YtonagpnnfhilgaaGreatWEqStruct
import Derived.Test.YtonagpnnfhilgaaGreatWRepsOne
import Derived.Test.YtonagpnnfhilgaaGreatWInv
import Derived.Test.YtonagpnnfhilgaaGreatWInvWords
import Derived.Test.YtonagpnnfhilgaaGreatWGuard
import Derived.Test.YtonagpnnfhilgaaGreatWNEv
import Derived.Test.YtonagpnnfhilgaaGreatWMore
namespace Go.Proofs.YtonagpnnfhilgaaGreat.PzzReplaceBytes
open Go.RowKit Go.Proofs.YtonagpnnfhilgaaGreatW.PrintWords Go.Proofs.YtonagpnnfhilgaaGreatW.PrintLast Go.Proofs.YtonagpnnfhilgaaGreatW.PrintMore
attribute [local go_sem] max2_int min2_int max_two min_two max_three min_three max_four min_four   -- for this text's walks alone
set_option linter.unusedVariables false
set_option linter.unusedSimpArgs false



def errW : Option Int → Value
  | none => .nilIface
  | some c => .iface 0 (.int .i64 c)
theorem errW_none : errW none = .nilIface := rfl
theorem errW_some (c : Int) : errW (some c) = .iface 0 (.int .i64 c) := rfl

theorem info5 : (Tryz.prog.info? 5).map (fun i => (i.zero, i.size, i.bytes)) = some (some (.int .u8 0), 1, 1) := by kernel_rfl
-- the values' own types

end Go.Proofs.YtonagpnnfhilgaaGreat.PzzReplaceBytes
