-- Written by a program of this session out of the translation (a copy of the kit's print, turned). Not trusted: Lean checks it.
import Derived.Test.YtllaepgbpmiglaaDoorProg
import Derived.Below
import Derived.Deep.Draws
import Derived.Deep.AppendLies
import Derived.Maps.AppendAt
import Derived.OwnWalk
import Derived.Laws.BytesArg
import Derived.Laws.MakeOwn
import Derived.Laws.OwnMore
import Derived.Deep.OwnRows
import Derived.Tactics
import Derived.Lib.ConvBytes
import Derived.Laws.Slices
import Derived.WalkKit
import Derived.KernelRfl
import Derived.RowKit3
import Derived.Deep.LoopGhost
import Derived.Deep.QuietTactic
import Derived.BigQuiet
import Derived.WideLaws
import Derived.Deep.DeepCutAuto
import Derived.Deep.CutBlock
import Derived.Deep.RegionHeld3
import Derived.Laws.Rows
import Derived.Lib.AppendStr
import Derived.ArgAppend
import Derived.Laws.IdiomCopy
import Derived.OrdersHeld
import Derived.Laws.BitsLemmas
import Derived.RowKit
import Derived.Test.YtllaepgbpmiglaaDoorWWords
import Derived.Test.YtllaepgbpmiglaaDoorWLast
import Derived.Test.YtllaepgbpmiglaaDoorWTab
import Derived.Test.YtllaepgbpmiglaaDoorWFour
import Derived.Test.YtllaepgbpmiglaaDoorWQPut
import Derived.Test.YtllaepgbpmiglaaDoorWApart
import Derived.Test.YtllaepgbpmiglaaDoorWArr
import Derived.Test.YtllaepgbpmiglaaDoorWZeros
import Derived.Test.YtllaepgbpmiglaaDoorWFoot
import Derived.Test.YtllaepgbpmiglaaDoorWKept
import Derived.Test.YtllaepgbpmiglaaDoorWShare
import Derived.Test.YtllaepgbpmiglaaDoorWN
import Derived.Test.YtllaepgbpmiglaaDoorWFootNe
import Derived.Test.YtllaepgbpmiglaaDoorWAt
import Derived.Test.YtllaepgbpmiglaaDoorWEqStruct
import Derived.Test.YtllaepgbpmiglaaDoorWRepsOne
import Derived.Test.YtllaepgbpmiglaaDoorWInv
import Derived.Test.YtllaepgbpmiglaaDoorWInvWords
import Derived.Test.YtllaepgbpmiglaaDoorWGuard
import Derived.Test.YtllaepgbpmiglaaDoorWNEv
import Derived.Test.YtllaepgbpmiglaaDoorWMore
import Derived.Test.YtllaepgbpmiglaaDoorCapWords
namespace Go.Proofs.YtllaepgbpmiglaaDoor.QFnEscape
open Go.RowKit Go.Proofs.YtllaepgbpmiglaaDoorW.PrintWords Go.Proofs.YtllaepgbpmiglaaDoorW.PrintLast Go.Proofs.YtllaepgbpmiglaaDoorW.PrintMore
attribute [local go_sem] max2_int min2_int max_two min_two max_three min_three max_four min_four   -- for this text's walks alone
set_option linter.unusedVariables false
set_option linter.unusedSimpArgs false



def errW : Option Int → Value
  | none => .nilIface
  | some c => .iface 0 (.int .i64 c)
theorem errW_none : errW none = .nilIface := rfl
theorem errW_some (c : Int) : errW (some c) = .iface 0 (.int .i64 c) := rfl

theorem info5 : (Tryd.prog.info? 5).map (fun i => (i.zero, i.size, i.bytes)) = some (some (.int .u8 0), 1, 1) := by kernel_rfl
theorem info9 : (Tryd.prog.info? 9).map (fun i => (i.zero, i.size, i.bytes)) = some (some (.string ⟨#[]⟩), 1, 16) := by kernel_rfl
theorem info21 : (Tryd.prog.info? 21).map (fun i => (i.zero, i.size, i.bytes)) = some (some (.int .i32 0), 1, 4) := by kernel_rfl
theorem info38 : (Tryd.prog.info? 38).map (fun i => (i.zero, i.size, i.bytes)) = some (some (.int .u16 0), 1, 2) := by kernel_rfl
-- the values' own types

end Go.Proofs.YtllaepgbpmiglaaDoor.QFnEscape
