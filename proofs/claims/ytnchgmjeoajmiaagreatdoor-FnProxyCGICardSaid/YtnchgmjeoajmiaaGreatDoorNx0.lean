-- PRINTED by print.py (a twelfth state) out of the translation. Not trusted: Lean checks it.
import Derived.Test.YtnchgmjeoajmiaaGreatDoorProg
import Derived.Below
import Derived.Deep.Draws
import Derived.Deep.AppendLies
import Derived.Maps.AppendAt
import Derived.OwnWalk
import Derived.Laws.BytesArg
import Derived.Laws.MakeOwn
import Derived.Laws.OwnMore
import Derived.Deep.OwnRows
import Derived.Tactics
import Derived.Lib.ConvBytes
import Derived.Laws.Slices
import Derived.WalkKit
import Derived.KernelRfl
import Derived.RowKit3
import Derived.Deep.LoopGhost
import Derived.Deep.QuietTactic
import Derived.BigQuiet
import Derived.WideLaws
import Derived.Deep.DeepCutAuto
import Derived.Deep.CutBlock
import Derived.Deep.RegionHeld3
import Derived.Laws.Rows
import Derived.Lib.AppendStr
import Derived.ArgAppend
import Derived.Laws.IdiomCopy
import Derived.OrdersHeld
import Derived.Laws.BitsLemmas
import Derived.RowKit
import Derived.Test.YtnchgmjeoajmiaaGreatDoorWWords
import Derived.Test.YtnchgmjeoajmiaaGreatDoorWLast
import Derived.Test.YtnchgmjeoajmiaaGreatDoorWTab
import Derived.Test.YtnchgmjeoajmiaaGreatDoorWFour
import Derived.Test.YtnchgmjeoajmiaaGreatDoorWQPut
import Derived.Test.YtnchgmjeoajmiaaGreatDoorWApart
import Derived.Test.YtnchgmjeoajmiaaGreatDoorWArr
import Derived.Test.YtnchgmjeoajmiaaGreatDoorWZeros
import Derived.Test.YtnchgmjeoajmiaaGreatDoorWFoot
import Derived.Test.YtnchgmjeoajmiaaGreatDoorWKept
import Derived.Test.YtnchgmjeoajmiaaGreatDoorWShare
import Derived.Test.YtnchgmjeoajmiaaGreatDoorWN
import Derived.Test.YtnchgmjeoajmiaaGreatDoorWFootNe
import Derived.Test.YtnchgmjeoajmiaaGreatDoorWAt
import Derived.Test.YtnchgmjeoajmiaaGreatDoorWEqStruct
import Derived.Test.YtnchgmjeoajmiaaGreatDoorWRepsOne
import Derived.Test.YtnchgmjeoajmiaaGreatDoorWInv
import Derived.Test.YtnchgmjeoajmiaaGreatDoorWInvWords
import Derived.Test.YtnchgmjeoajmiaaGreatDoorWGuard
import Derived.Test.YtnchgmjeoajmiaaGreatDoorWNEv
import Derived.Test.YtnchgmjeoajmiaaGreatDoorWMore
namespace Go.Proofs.YtnchgmjeoajmiaaGreatDoor.N
open Go.RowKit Go.Proofs.YtnchgmjeoajmiaaGreatDoorW.PrintWords Go.Proofs.YtnchgmjeoajmiaaGreatDoorW.PrintLast Go.Proofs.YtnchgmjeoajmiaaGreatDoorW.PrintMore
attribute [local go_sem] max2_int min2_int max_two min_two max_three min_three max_four min_four   -- for this text's walks alone
set_option linter.unusedVariables false
set_option linter.unusedSimpArgs false



def errW : Option Int → Value
  | none => .nilIface
  | some c => .iface 0 (.int .i64 c)
theorem errW_none : errW none = .nilIface := rfl
theorem errW_some (c : Int) : errW (some c) = .iface 0 (.int .i64 c) := rfl

-- the values' own types

end Go.Proofs.YtnchgmjeoajmiaaGreatDoor.N
