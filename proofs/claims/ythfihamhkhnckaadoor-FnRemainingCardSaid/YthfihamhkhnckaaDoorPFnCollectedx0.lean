-- PRINTED BY print.sh 35421559b90ae4d0a3588c463048766b98c2df88dd9212a6774a882060cdf62d: not written by this session
import Derived.Test.YthfihamhkhnckaaDoorProg
import Derived.Below
import Derived.Deep.Draws
import Derived.Deep.AppendLies
import Derived.Maps.AppendAt
import Derived.OwnWalk
import Derived.Laws.BytesArg
import Derived.Laws.MakeOwn
import Derived.Laws.OwnMore
import Derived.Deep.OwnRows
import Derived.Tactics
import Derived.Lib.ConvBytes
import Derived.Laws.Slices
import Derived.WalkKit
import Derived.KernelRfl
import Derived.RowKit3
import Derived.Deep.LoopGhost
import Derived.Deep.QuietTactic
import Derived.BigQuiet
import Derived.WideLaws
import Derived.Deep.DeepCutAuto
import Derived.Deep.CutBlock
import Derived.Deep.RegionHeld3
import Derived.Laws.Rows
import Derived.Lib.AppendStr
import Derived.ArgAppend
import Derived.Laws.IdiomCopy
import Derived.OrdersHeld
import Derived.Laws.BitsLemmas
import Derived.RowKit
import Derived.Test.YthfihamhkhnckaaDoorWWords
import Derived.Test.YthfihamhkhnckaaDoorWLast
import Derived.Test.YthfihamhkhnckaaDoorWTab
import Derived.Test.YthfihamhkhnckaaDoorWFour
import Derived.Test.YthfihamhkhnckaaDoorWQPut
import Derived.Test.YthfihamhkhnckaaDoorWApart
import Derived.Test.YthfihamhkhnckaaDoorWArr
import Derived.Test.YthfihamhkhnckaaDoorWZeros
import Derived.Test.YthfihamhkhnckaaDoorWFoot
import Derived.Test.YthfihamhkhnckaaDoorWKept
import Derived.Test.YthfihamhkhnckaaDoorWShare
import Derived.Test.YthfihamhkhnckaaDoorWN
import Derived.Test.YthfihamhkhnckaaDoorWFootNe
import Derived.Test.YthfihamhkhnckaaDoorWAt
import Derived.Test.YthfihamhkhnckaaDoorWEqStruct
import Derived.Test.YthfihamhkhnckaaDoorWRepsOne
import Derived.Test.YthfihamhkhnckaaDoorWInv
import Derived.Test.YthfihamhkhnckaaDoorWInvWords
import Derived.Test.YthfihamhkhnckaaDoorWGuard
import Derived.Test.YthfihamhkhnckaaDoorWNEv
import Derived.Test.YthfihamhkhnckaaDoorWMore
namespace Go.Proofs.YthfihamhkhnckaaDoor.PFnCollected
open Go.RowKit Go.Proofs.YthfihamhkhnckaaDoorW.PrintWords Go.Proofs.YthfihamhkhnckaaDoorW.PrintLast Go.Proofs.YthfihamhkhnckaaDoorW.PrintMore
attribute [local go_sem] max2_int min2_int max_two min_two max_three min_three max_four min_four   -- for this text's walks alone
set_option linter.unusedVariables false
set_option linter.unusedSimpArgs false



def errW : Option Int → Value
  | none => .nilIface
  | some c => .iface 0 (.int .i64 c)
theorem errW_none : errW none = .nilIface := rfl
theorem errW_some (c : Int) : errW (some c) = .iface 0 (.int .i64 c) := rfl

theorem info3 : (Tryd.prog.info? 3).map (fun i => (i.zero, i.size, i.bytes)) = some (some (.int .i64 0), 1, 8) := by kernel_rfl
-- the values' own types

end Go.Proofs.YthfihamhkhnckaaDoor.PFnCollected
