-- Written by a program of this session out of the translation (a copy of the kit's print, turned). Not trusted: Lean checks it.
import Derived.Test.YtllaepgbpmiglaaGreatDoorProg
import Derived.Below
import Derived.Deep.Draws
import Derived.Deep.AppendLies
import Derived.Maps.AppendAt
import Derived.OwnWalk
import Derived.Laws.BytesArg
import Derived.Laws.MakeOwn
import Derived.Laws.OwnMore
import Derived.Deep.OwnRows
import Derived.Tactics
import Derived.Lib.ConvBytes
import Derived.Laws.Slices
import Derived.WalkKit
import Derived.KernelRfl
import Derived.RowKit3
import Derived.Deep.LoopGhost
import Derived.Deep.QuietTactic
import Derived.BigQuiet
import Derived.WideLaws
import Derived.Deep.DeepCutAuto
import Derived.Deep.CutBlock
import Derived.Deep.RegionHeld3
import Derived.Laws.Rows
import Derived.Lib.AppendStr
import Derived.ArgAppend
import Derived.Laws.IdiomCopy
import Derived.OrdersHeld
import Derived.Laws.BitsLemmas
import Derived.RowKit
import Derived.Test.YtllaepgbpmiglaaGreatDoorWWords
import Derived.Test.YtllaepgbpmiglaaGreatDoorWLast
import Derived.Test.YtllaepgbpmiglaaGreatDoorWTab
import Derived.Test.YtllaepgbpmiglaaGreatDoorWFour
import Derived.Test.YtllaepgbpmiglaaGreatDoorWQPut
import Derived.Test.YtllaepgbpmiglaaGreatDoorWApart
import Derived.Test.YtllaepgbpmiglaaGreatDoorWArr
import Derived.Test.YtllaepgbpmiglaaGreatDoorWZeros
import Derived.Test.YtllaepgbpmiglaaGreatDoorWFoot
import Derived.Test.YtllaepgbpmiglaaGreatDoorWKept
import Derived.Test.YtllaepgbpmiglaaGreatDoorWShare
import Derived.Test.YtllaepgbpmiglaaGreatDoorWN
import Derived.Test.YtllaepgbpmiglaaGreatDoorWFootNe
import Derived.Test.YtllaepgbpmiglaaGreatDoorWAt
import Derived.Test.YtllaepgbpmiglaaGreatDoorWEqStruct
import Derived.Test.YtllaepgbpmiglaaGreatDoorWRepsOne
import Derived.Test.YtllaepgbpmiglaaGreatDoorWInv
import Derived.Test.YtllaepgbpmiglaaGreatDoorWInvWords
import Derived.Test.YtllaepgbpmiglaaGreatDoorWGuard
import Derived.Test.YtllaepgbpmiglaaGreatDoorWNEv
import Derived.Test.YtllaepgbpmiglaaGreatDoorWMore
import Derived.Test.YtllaepgbpmiglaaGreatDoorCapWords
namespace Go.Proofs.YtllaepgbpmiglaaGreatDoor.QNum
open Go.RowKit Go.Proofs.YtllaepgbpmiglaaGreatDoorW.PrintWords Go.Proofs.YtllaepgbpmiglaaGreatDoorW.PrintLast Go.Proofs.YtllaepgbpmiglaaGreatDoorW.PrintMore
attribute [local go_sem] max2_int min2_int max_two min_two max_three min_three max_four min_four   -- for this text's walks alone
set_option linter.unusedVariables false
set_option linter.unusedSimpArgs false



def errW : Option Int → Value
  | none => .nilIface
  | some c => .iface 0 (.int .i64 c)
theorem errW_none : errW none = .nilIface := rfl
theorem errW_some (c : Int) : errW (some c) = .iface 0 (.int .i64 c) := rfl

-- the values' own types

end Go.Proofs.YtllaepgbpmiglaaGreatDoor.QNum
