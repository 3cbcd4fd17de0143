/- For every text: where the reference has an answer (ASCII, at most 5000 bytes; decimal literals of at most 15 digits without exponents, hexadecimal ones of at most 13, Infinity, and what is no number), the program's number has its bits (other texts the law lets by): the law returns true, the argument reads as it did; its fifteen listed variables read as the program's text lays them (the card's tie). -/
import Derived.Test.YtllaepgbpmiglaaGreatDoorRows
import Derived.Test.YtllaepgbpmiglaaGreatDoorCards
import Derived.Test.YtllaepgbpmiglaaGreatDoorTie
import Derived.Test.YtllaepgbpmiglaaGreatDoorLaw
import Derived.Test.YtllaepgbpmiglaaGreatDoorLaid
import Derived.WalkKit
import Derived.ProofKit
import Derived.OpenShut
import Derived.ShutString
import Derived.ChangeOld
import Derived.Below
import Derived.SizedLaws
import Derived.LaidMore
import Derived.Lay
import Derived.SevenTiedAt
import Derived.Stop.Joined
namespace Go.Proofs.YtllaepgbpmiglaaGreatDoor.fnStringToNumber
open Go.ChangeShapes Go.WideShapes Go.ChangeAt Go.RowKit
open Go.ChangeMaps (open_string shut_string)
theorem own : ownKnob Tryz.prog.godebug = none := by kernel_rfl
set_option maxRecDepth 100000 in
theorem lifted (os : Os) (started : os.Started) (H : Type) (enc : TypeId × Value → H) :
    ReturnsInHanded {} Tryz.checked os 3 .any (fun w args => (Rows.fnStringToNumberSpec.pre enc Tryz.prog Tryz.f3 Rows.fnStringToNumberRow.domain false w args ∧ laidMetH Tryz.prog Rows.fnStringToNumberRow.laid w) ∧ sizedMet enc Tryz.prog Tryz.f3 (OpenSpec.ofChange Rows.fnStringToNumberSpec) false w args)
      (Rows.fnStringToNumberSpec.post enc Tryz.prog Tryz.f3 false true false false) := by
  refine returnsInHanded_of_change_and (C := Tryz.checked) (X := fun w _ => laidMetH Tryz.prog Rows.fnStringToNumberRow.laid w) (fun _ _ _ hh h => h.of_heap hh) own started (by kernel_rfl) Tryz.func3
    (ChangeSpec.witness_shaped (enc := enc) (C := Tryz.checked) (os := os) (X := fun w _ => laidMetH Tryz.prog Rows.fnStringToNumberRow.laid w) false (World.laidAll Tryz.prog os Rows.fnStringToNumberRow.laid) #[.string ByteArray.empty] 8 (World.laidAll_os _ _ _)
      (World.shaped_of_ZipB (by kernel_rfl) (by kernel_rfl)) (by kernel_rfl) (by kernel_rfl) (by kernel_rfl)
      (by rw [MakeChecks.laidMetH_plain _ _ _ (by kernel_rfl)]; exact laidMet_laidAll _ (by kernel_rfl) (by kernel_rfl))) ?_
  intro W base args ds gs before hval0 hW hc hsz0 hL _
  have hval : ∀ (j : Nat) t v, Tryz.f3.params[j]? = some t → args[j]? = some v → Value.okWide Tryz.prog W .any base t v := hval0
  have hW' := hW
  obtain ⟨p, q, hA0, hV, rfl, _, _⟩ := hW
  have hA : DataW.TrodAll enc Tryz.prog W 0 (fun _ => true) true Tryz.f3.params.toList args.toList ds p := hA0
  rw [Tryz.params3] at hA hval
  obtain ⟨v0, d0, rfl, rfl, h0⟩ := trodAll_one hA
  obtain ⟨rfl, rfl⟩ := trodVars_none hV
  obtain ⟨a0, rfl, rfl, rfl, y0⟩ := open_string Tryz.underlying9 (hval 0 9 v0 rfl rfl) h0
  clear hA0 hval0 hsz0
  obtain ⟨ga, gb, pa, cap, G⟩ := ground hL
  refine (law a0 W ga gb pa cap G).mono fun e W' ⟨he, bel⟩ => ?_
  subst he
  exact ⟨_, rfl, _, _, _, [], _, [], hW', trodAll_mk1 (shut_bool Tryz.underlying4 _), (trodAll_mk1 (shut_string Tryz.underlying9 y0)), rfl, bel.frame _, fun h => by cases h⟩
theorem over : Rows.fnStringToNumberRow.holds Tryz.pinned (OpenSpec.ofChange Rows.fnStringToNumberSpec) :=
  OpenClaim.holds_of_wide 3 Tryz.f3 rfl rfl rfl rfl rfl rfl rfl ⟨rfl, rfl, rfl, rfl, rfl⟩ rfl rfl rfl rfl rfl (by kernel_rfl) Tryz.func3 (by kernel_rfl)
    (of_decide_eq_true (by kernel_rfl)) (by unfold Func.isWrapper; first | (rw [if_pos (by decide +kernel)]; kernel_rfl) | (rw [if_neg (by decide +kernel)]; exact ⟨rfl, rfl⟩))
    (fun os started H enc _ => lifted os started H enc)
end Go.Proofs.YtllaepgbpmiglaaGreatDoor.fnStringToNumber
namespace Go.Proofs.YtllaepgbpmiglaaGreatDoor
theorem fnStringToNumber_row : Rows.FnStringToNumberSaid := fnStringToNumber.over
theorem fnStringToNumber_card : Rows.FnStringToNumberCardSaid :=
  Claim7.holds_tied_plain_at .later [] [.data, .data, .widerDeep, .widerDeep, .data, .data, .data, .data, .data, .data, .sentinel, .sentinel, .pinned, .pinned, .pinned] true Rows.fnStringToNumberCard.stood.harness Rows.fnStringToNumberCard.stood.looks
    fnStringToNumber_row (fun _ h => by cases h) (by kernel_rfl) (fun _ h => by cases h) fnStringToNumber_row_tie rfl ⟨rfl, rfl⟩ (by kernel_rfl) rfl
    (fun f fn hf hfn => by
      obtain rfl : f = 3 := Option.some.inj ((show Tryz.prog.funcNamed "scriptmeaning/laws.FnStringToNumber" = some 3 by kernel_rfl).symm.trans hf) |>.symm
      obtain rfl : fn = Tryz.f3 := (Option.some.inj (Tryz.func3.symm.trans hfn)).symm
      exact ⟨by kernel_rfl, fun j t ht => by
        rw [Tryz.params3] at ht
        have h3 : t = 9 := by
          rcases j with _ | j
          · simpa using ht.symm
          · simp at ht
        subst h3
        exact (show Tryz.prog.wantsStandIn 9 = false by kernel_rfl)⟩)
    (by kernel_rfl)
#print axioms fnStringToNumber_card
end Go.Proofs.YtllaepgbpmiglaaGreatDoor
